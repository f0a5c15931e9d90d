import JvmDerived
import JvmDerived.Pilot.@@N@@Statement
import JvmDerived.Pilot.@@N@@Code
set_option linter.unusedVariables false
set_option linter.unusedSimpArgs false
namespace Jvm.OwnKit
open Sem ClassFile Op Lib Bundle Jvm.Stand Jvm.Free Jvm.LawKit Jvm.RoadKit
section Kit
variable {p : Program} {l : Launch} {e : Env} {R : Room} {s : State} {m : MethodId} {args : Array Value} {below : List Frame} {meth : Method} {c : Code} {Z : State} {a0 : Array Value} {EL : List (String × Nat)} {cw : Prop} {own : String} {n0 : Nat} {bytes : ByteArray} {maxL : Nat} {ret : Option FieldType} {nm : String} {T : State} {h : Heap} {C S : Nat} {sf : List Addr} {P : State → Outcome → Prop}

/-- from t the run comes to a state of which P speaks -/
def Go (p : Program) (e : Env) (below : List Frame) (P : State → Outcome → Prop) (t : State) : Prop := ∃ u o, Steps p.tables e below t u ∧ P u o
theorem Go.st {t t' : State} (k : ∀ target, Steps p.tables e below t' target → Steps p.tables e below t target) (G : Go p e below P t') : Go p e below P t := by
  obtain ⟨u, o, h1, h2⟩ := G; exact ⟨u, o, k _ h1, h2⟩
theorem Go.tr {t t' : State} (k : Steps p.tables e below t t') (G : Go p e below P t') : Go p e below P t := by
  obtain ⟨u, o, h1, h2⟩ := G; exact ⟨u, o, k.trans h1, h2⟩

/-- where the walk stands: all that the steps ask, in one word -/
def Hs (p : Program) (l : Launch) (e : Env) (R : Room) (s : State) (m : MethodId) (args : Array Value) (below : List Frame) (meth : Method) (c : Code) (Z : State) (a0 : Array Value) (EL : List (String × Nat)) (cw : Prop) (own : String) (n0 : Nat) (bytes : ByteArray) (maxL : Nat) (ret : Option FieldType) (nm : String) (T : State) (h : Heap) (C S : Nat) (sf : List Addr) : Prop :=
  (p.tables.exec = Jvm.exec ∧ EW Z a0 EL ∧ c.code = bytes ∧ c.maxLocals = maxL ∧ meth.sig.returnType = ret ∧ meth.locks = false ∧ meth.name = nm ∧ n0 ≤ s.heap.size) ∧
  ∃ (vm0 : Vm) (k0 : Nat) (locs : List Loc), Stand p l e R (s.setVm vm0) m args below meth c T locs C S ∧ T.heap = h ∧ s.Since vm0 k0 ∧ k0 ≤ h.size ∧ Z.Warmed39 vm0 ∧ vm0.findClass own = some m.cls ∧ Fr n0 locs ∧ CHr Z EL s.vm s.heap vm0 h ∧ (∀ x ∈ sf, x < h.size ∧ Safe Z EL vm0 h x) ∧ (cw ∨ s.WarmedH vm0) ∧ Old Z n0 h

theorem Hs.here (H : Hs p l e R s m args below meth c Z a0 EL cw own n0 bytes maxL ret nm T h C S sf) : At T m c below := by
  obtain ⟨-, vm0, k0, locs, X, -⟩ := H; exact X.here
theorem Hs.exec (H : Hs p l e R s m args below meth c Z a0 EL cw own n0 bytes maxL ret nm T h C S sf) : p.tables.exec = Jvm.exec := H.1.1
theorem Hs.dec (H : Hs p l e R s m args below meth c Z a0 EL cw own n0 bytes maxL ret nm T h C S sf) {pc : Nat} {r : Except ClassFile.DecodeError (ClassFile.Instr × Nat)} (hd : decode bytes pc = r) : decode c.code pc = r := by rw [H.1.2.2.1]; exact hd
theorem Hs.le (H : Hs p l e R s m args below meth c Z a0 EL cw own n0 bytes maxL ret nm T h C S sf) : n0 ≤ h.size := by
  obtain ⟨⟨-, -, -, -, -, -, -, hn⟩, vm0, k0, locs, -, -, -, -, -, -, -, hC, -⟩ := H
  exact Nat.le_trans hn hC.2.1
theorem Hs.nle {a : Addr} (H : Hs p l e R s m args below meth c Z a0 EL cw own n0 bytes maxL ret nm T h C S sf) (g : a = h.size) : n0 ≤ a := Nat.le_trans H.le (Nat.le_of_eq g.symm)
theorem Hs.old (H : Hs p l e R s m args below meth c Z a0 EL cw own n0 bytes maxL ret nm T h C S sf) : Old Z n0 h := by
  obtain ⟨-, vm0, k0, locs, -, -, -, -, -, -, -, -, -, -, hO⟩ := H; exact hO
theorem Hs.mono (H : Hs p l e R s m args below meth c Z a0 EL cw own n0 bytes maxL ret nm T h C S sf) {C' S' : Nat} (hc : C ≤ C') (hs : S ≤ S') : Hs p l e R s m args below meth c Z a0 EL cw own n0 bytes maxL ret nm T h C' S' sf := by
  obtain ⟨hM, vm0, k0, locs, X, r⟩ := H
  exact ⟨hM, vm0, k0, locs, X.mono hc hs, r⟩
theorem Hs.less (H : Hs p l e R s m args below meth c Z a0 EL cw own n0 bytes maxL ret nm T h C S sf) {sf' : List Addr} (hs : ∀ x ∈ sf', x ∈ sf) : Hs p l e R s m args below meth c Z a0 EL cw own n0 bytes maxL ret nm T h C S sf' := by
  obtain ⟨hM, vm0, k0, locs, X, h1, h2, h3, h4, h5, h6, h7, h8, h9, hO⟩ := H
  exact ⟨hM, vm0, k0, locs, X, h1, h2, h3, h4, h5, h6, h7, fun x hx => h8 x (hs x hx), h9, hO⟩
/-- a place that no constant of the list lies at -/
def Sf (Z : State) (EL : List (String × Nat)) (h : Heap) (sf : List Addr) (a : Addr) : Prop := a ∈ sf ∨ (∃ K, Exa Z h a K ∧ K ≠ "java/lang/String" ∧ K ≠ "[B") ∨ ∃ cl ty, Arr Z h a cl ty ∧ ty ≠ .byte
theorem Sf.mem {a : Addr} (q : a ∈ sf) : Sf Z EL h sf a := Or.inl q
theorem Sf.exa {a : Addr} {K : String} (E : Exa Z h a K) (h1 : K ≠ "java/lang/String" := by decide) (h2 : K ≠ "[B" := by decide) : Sf Z EL h sf a := Or.inr (Or.inl ⟨K, E, h1, h2⟩)
theorem Sf.arr {a : Addr} {k : ClassId} {ty : FieldType} {z : Int32} {vs : List Value} {dv : Value} (A : Arv Z h a k ty z vs dv) (ht : ty ≠ .byte := by decide) : Sf Z EL h sf a := by
  obtain ⟨cl, A, -⟩ := A; exact Or.inr (Or.inr ⟨cl, ty, A, ht⟩)
theorem Sf.safe {a : Addr} {vm0 : Vm} (hZ : Z.Warmed39 vm0) (hs : ∀ x ∈ sf, x < h.size ∧ Safe Z EL vm0 h x) (q : Sf Z EL h sf a) : Safe Z EL vm0 h a := by
  rcases q with q | ⟨K, E, h1, h2⟩ | ⟨cl, ty, A, ht⟩
  · exact (hs a q).2
  · exact Safe.exa hZ.alike E h1 h2
  · exact Safe.arr hZ.alike A ht

/-! ## what leaves the heap as it is -/
/-- a step of the library's that keeps the heap (T' in place of T) -/
theorem Hs.keepT {T' : State} (H : Hs p l e R s m args below meth c Z a0 EL cw own n0 bytes maxL ret nm T h C S sf)
    (k : ∀ (vm0 : Vm) (locs : List Loc), Stand p l e R (s.setVm vm0) m args below meth c T locs C S → Z.Warmed39 (s.setVm vm0).vm → (s.setVm vm0).vm.findClass own = some m.cls → T.heap = h → Stand p l e R (s.setVm vm0) m args below meth c T' locs C S ∧ T'.heap = h) : Hs p l e R s m args below meth c Z a0 EL cw own n0 bytes maxL ret nm T' h C S sf := by
  obtain ⟨hM, vm0, k0, locs, X, h1, h2, h3, h4, h5, h6, h7, h8, h9, hO⟩ := H
  obtain ⟨X', e'⟩ := k vm0 locs X h4 h5 h1
  exact ⟨hM, vm0, k0, locs, X', e', h2, h3, h4, h5, h6, h7, h8, h9, hO⟩
theorem G.getF (H : Hs p l e R s m args below meth c Z a0 EL cw own n0 bytes maxL ret nm T h C S sf) {R0 O n d : String} {index : Nat} (w : (Cond.fieldLink own index R0 n d).before a0 Z = true) (via : Via Z R0 O n d) {a : Addr} {v : Value} (F : Fld Z h a O n d v) {pc pc' : Nat} {L : Array Slot} {st : List Value} (hd : decode bytes pc = .ok (.getfield index, 3)) (hp : pc + 3 = pc')
    (k : ∀ T', Hs p l e R s m args below meth c Z a0 EL cw own n0 bytes maxL ret nm T' h C S sf → Go p e below P (T'.setTop (mkF m pc' L (v :: st)))) : Go p e below P (T.setTop (mkF m pc L (.ref a :: st))) := by
  subst hp
  obtain ⟨hM, vm0, k0, locs, X, h1, h2, h3, h4, h5, h6, h7, h8, h9, hO⟩ := id H
  obtain ⟨T', X', e', st'⟩ := RoadKit.getF X H.exec h4 (host := "") h5 (Or.inl w) via h1 F (g := mkF m pc L (.ref a :: st)) rfl rfl (H.dec hd)
  exact Go.st st' (k T' ⟨hM, vm0, k0, locs, X', e', h2, h3, h4, h5, h6, h7, h8, h9, hO⟩)
theorem G.getFN (H : Hs p l e R s m args below meth c Z a0 EL cw own n0 bytes maxL ret nm T h C S sf) {R0 O n d host : String} {index : Nat} (w : (Cond.fieldLinkNest own index R0 n d host).before a0 Z = true) (via : Via Z R0 O n d) {a : Addr} {v : Value} (F : Fld Z h a O n d v) {pc pc' : Nat} {L : Array Slot} {st : List Value} (hd : decode bytes pc = .ok (.getfield index, 3)) (hp : pc + 3 = pc')
    (k : ∀ T', Hs p l e R s m args below meth c Z a0 EL cw own n0 bytes maxL ret nm T' h C S sf → Go p e below P (T'.setTop (mkF m pc' L (v :: st)))) : Go p e below P (T.setTop (mkF m pc L (.ref a :: st))) := by
  subst hp
  obtain ⟨hM, vm0, k0, locs, X, h1, h2, h3, h4, h5, h6, h7, h8, h9, hO⟩ := id H
  obtain ⟨T', X', e', st'⟩ := RoadKit.getF X H.exec h4 h5 (Or.inr w) via h1 F (g := mkF m pc L (.ref a :: st)) rfl rfl (H.dec hd)
  exact Go.st st' (k T' ⟨hM, vm0, k0, locs, X', e', h2, h3, h4, h5, h6, h7, h8, h9, hO⟩)
theorem G.getS (H : Hs p l e R s m args below meth c Z a0 EL cw own n0 bytes maxL ret nm T h C S sf) {R0 O n d : String} {index : Nat} (w : (Cond.fieldLink own index R0 n d).before a0 Z = true) (via : Via Z R0 O n d) {v : Value} (F : Sta Z h O n d v) {pc pc' : Nat} {L : Array Slot} {st : List Value} (hd : decode bytes pc = .ok (.getstatic index, 3)) (hp : pc + 3 = pc')
    (k : ∀ T', Hs p l e R s m args below meth c Z a0 EL cw own n0 bytes maxL ret nm T' h C S sf → Go p e below P (T'.setTop (mkF m pc' L (v :: st)))) : Go p e below P (T.setTop (mkF m pc L st)) := by
  subst hp
  obtain ⟨hM, vm0, k0, locs, X, h1, h2, h3, h4, h5, h6, h7, h8, h9, hO⟩ := id H
  obtain ⟨T', X', e', st'⟩ := RoadKit.getS (host := "") X H.exec h4 h5 w via h1 F (g := mkF m pc L st) rfl (H.dec hd)
  exact Go.st st' (k T' ⟨hM, vm0, k0, locs, X', e', h2, h3, h4, h5, h6, h7, h8, h9, hO⟩)
theorem G.castY (H : Hs p l e R s m args below meth c Z a0 EL cw own n0 bytes maxL ret nm T h C S sf) {K : String} {index : Nat} (w : (Cond.classLink own index K).before a0 Z = true) {a : Addr} (F : Ins Z h a K true) {pc pc' : Nat} {L : Array Slot} {st : List Value} (hd : decode bytes pc = .ok (.checkcast index, 3)) (hp : pc + 3 = pc')
    (k : ∀ T', Hs p l e R s m args below meth c Z a0 EL cw own n0 bytes maxL ret nm T' h C S sf → Go p e below P (T'.setTop (mkF m pc' L (.ref a :: st)))) : Go p e below P (T.setTop (mkF m pc L (.ref a :: st))) := by
  subst hp
  obtain ⟨hM, vm0, k0, locs, X, h1, h2, h3, h4, h5, h6, h7, h8, h9, hO⟩ := id H
  obtain ⟨T', X', e', st'⟩ := RoadKit.castY X H.exec h4 h5 w h1 F (g := mkF m pc L (.ref a :: st)) rfl rfl (H.dec hd)
  exact Go.st st' (k T' ⟨hM, vm0, k0, locs, X', e', h2, h3, h4, h5, h6, h7, h8, h9, hO⟩)
theorem G.instY (H : Hs p l e R s m args below meth c Z a0 EL cw own n0 bytes maxL ret nm T h C S sf) {K : String} {index : Nat} (w : (Cond.classLink own index K).before a0 Z = true) {a : Addr} (F : Ins Z h a K true) {pc pc' : Nat} {L : Array Slot} {st : List Value} (hd : decode bytes pc = .ok (.instanceof index, 3)) (hp : pc + 3 = pc')
    (k : ∀ T', Hs p l e R s m args below meth c Z a0 EL cw own n0 bytes maxL ret nm T' h C S sf → Go p e below P (T'.setTop (mkF m pc' L (.int 1 :: st)))) : Go p e below P (T.setTop (mkF m pc L (.ref a :: st))) := by
  subst hp
  obtain ⟨hM, vm0, k0, locs, X, h1, h2, h3, h4, h5, h6, h7, h8, h9, hO⟩ := id H
  obtain ⟨T', X', e', st'⟩ := RoadKit.instY X H.exec h4 h5 w h1 F (g := mkF m pc L (.ref a :: st)) rfl rfl (H.dec hd)
  exact Go.st st' (k T' ⟨hM, vm0, k0, locs, X', e', h2, h3, h4, h5, h6, h7, h8, h9, hO⟩)
theorem G.instNo (H : Hs p l e R s m args below meth c Z a0 EL cw own n0 bytes maxL ret nm T h C S sf) {K D : String} {index : Nat} (w : (Cond.classLink own index K).before a0 Z = true) {a : Addr} (E : Exa Z h a D) (F : ∃ c t, Z.vm.findClass D = some c ∧ Z.vm.findClass K = some t ∧ Z.vm.assignable c t = false) {pc pc' : Nat} {L : Array Slot} {st : List Value} (hd : decode bytes pc = .ok (.instanceof index, 3)) (hp : pc + 3 = pc')
    (k : ∀ T', Hs p l e R s m args below meth c Z a0 EL cw own n0 bytes maxL ret nm T' h C S sf → Go p e below P (T'.setTop (mkF m pc' L (.int 0 :: st)))) : Go p e below P (T.setTop (mkF m pc L (.ref a :: st))) := by
  subst hp
  obtain ⟨hM, vm0, k0, locs, X, h1, h2, h3, h4, h5, h6, h7, h8, h9, hO⟩ := id H
  obtain ⟨T', X', e', st'⟩ := RoadKit.instNo X H.exec h4 h5 w h1 E F (g := mkF m pc L (.ref a :: st)) rfl rfl (H.dec hd)
  exact Go.st st' (k T' ⟨hM, vm0, k0, locs, X', e', h2, h3, h4, h5, h6, h7, h8, h9, hO⟩)
theorem G.initO (H : Hs p l e R s m args below meth c Z a0 EL cw own n0 bytes maxL ret nm T h C S sf) {index : Nat} (w1 : (Cond.methodLink own index Lib.objectInit).before a0 Z = true) (w2 : (Cond.instanceMethod Lib.objectInit).before a0 Z = true) (w3 : (Cond.code Lib.objectInit ⟨#[0xb1]⟩ 1 none).before a0 Z = true) {a : Addr} {pc pc' : Nat} {L : Array Slot} {st : List Value} (hL : L.size = maxL) (hd : decode bytes pc = .ok (.invokespecial index, 3)) (hp : pc + 3 = pc') (hf : 1 ≤ R.frames) {W : Nat} (hW : (st.map fun v => v.category).sum = W) (hl : W + 12 ≤ R.locals)
    (k : ∀ T', Hs p l e R s m args below meth c Z a0 EL cw own n0 bytes maxL ret nm T' h C S sf → Go p e below P (T'.setTop (mkF m pc' L st))) : Go p e below P (T.setTop (mkF m pc L (.ref a :: st))) := by
  subst hp
  obtain ⟨hM, vm0, k0, locs, X, h1, h2, h3, h4, h5, h6, h7, h8, h9, hO⟩ := id H
  obtain ⟨T', X', e', st'⟩ := RoadKit.initO X H.exec h4 h5 w1 w2 w3 h1 (g := mkF m pc L (.ref a :: st)) rfl (by rw [hM.2.2.2.1]; exact hL) rfl (H.dec hd) hf (W := W) (by show 2 * 0 + _ ≤ _; omega) hl
  exact Go.st st' (k T' ⟨hM, vm0, k0, locs, X', e', h2, h3, h4, h5, h6, h7, h8, h9, hO⟩)
theorem G.arrlen (H : Hs p l e R s m args below meth c Z a0 EL cw own n0 bytes maxL ret nm T h C S sf) {a : Addr} {kc : ClassId} {ty : FieldType} {z : Int32} {vs : List Value} {dv : Value} (A : Arv Z h a kc ty z vs dv) {pc pc' : Nat} {L : Array Slot} {st : List Value} (hd : decode bytes pc = .ok (.arraylength, 1)) (hp : pc + 1 = pc') (k : Go p e below P (T.setTop (mkF m pc' L (.int z :: st)))) : Go p e below P (T.setTop (mkF m pc L (.ref a :: st))) := by
  subst hp
  obtain ⟨hM, vm0, k0, locs, X, h1, h2, h3, h4, h5, h6, h7, h8, h9, hO⟩ := id H
  obtain ⟨cl, Ar, q1, S1, q3, H1, G1⟩ := A
  refine Go.st (fun t kk => X.arraylength H.exec (cell := cl) (by rw [h1]; exact Ar.1) (State.isArrayOf_alike (s := Z) h4.alike Ar.2.1) (g := mkF m pc L (.ref a :: st)) rfl rfl (H.dec hd) t ?_) k
  rw [len_of S1 q3]; exact kk
theorem G.ialoadG (H : Hs p l e R s m args below meth c Z a0 EL cw own n0 bytes maxL ret nm T h C S sf) {a : Addr} {kc : ClassId} {z : Int32} {vs : List Value} {dv : Value} (A : Arv Z h a kc .int z vs dv) {j : Int32} {v : Value} (hj : ¬ j < 0 ∧ j < z) (hv : vs.getD j.toNatClampNeg dv = v) {pc pc' : Nat} {L : Array Slot} {st : List Value} (hd : decode bytes pc = .ok (.iaload, 1)) (hp : pc + 1 = pc') (k : Go p e below P (T.setTop (mkF m pc' L (v :: st)))) : Go p e below P (T.setTop (mkF m pc L (.int j :: .ref a :: st))) := by
  subst hp
  obtain ⟨hM, vm0, k0, locs, X, h1, h2, h3, h4, h5, h6, h7, h8, h9, hO⟩ := id H
  obtain ⟨cl, Ar, q1, S1, q3, H1, G1⟩ := A
  exact Go.st (fun t kk => X.iaload H.exec (cell := cl) (by rw [h1]; exact Ar.1) (State.isArrayOf_alike (s := Z) h4.alike Ar.2.1) Ar.2.2 (inb_of S1 hj) (Has.at H1 (inb_of S1 hj) hv) (g := mkF m pc L (.int j :: .ref a :: st)) rfl rfl (H.dec hd) t kk) k
theorem G.caloadG (H : Hs p l e R s m args below meth c Z a0 EL cw own n0 bytes maxL ret nm T h C S sf) {a : Addr} {kc : ClassId} {z : Int32} {vs : List Value} {dv : Value} (A : Arv Z h a kc .char z vs dv) {j : Int32} {v : Value} (hj : ¬ j < 0 ∧ j < z) (hv : vs.getD j.toNatClampNeg dv = v) {pc pc' : Nat} {L : Array Slot} {st : List Value} (hd : decode bytes pc = .ok (.caload, 1)) (hp : pc + 1 = pc') (k : Go p e below P (T.setTop (mkF m pc' L (v :: st)))) : Go p e below P (T.setTop (mkF m pc L (.int j :: .ref a :: st))) := by
  subst hp
  obtain ⟨hM, vm0, k0, locs, X, h1, h2, h3, h4, h5, h6, h7, h8, h9, hO⟩ := id H
  obtain ⟨cl, Ar, q1, S1, q3, H1, G1⟩ := A
  exact Go.st (fun t kk => X.caload H.exec (cell := cl) (by rw [h1]; exact Ar.1) (State.isArrayOf_alike (s := Z) h4.alike Ar.2.1) Ar.2.2 (inb_of S1 hj) (Has.at H1 (inb_of S1 hj) hv) (g := mkF m pc L (.int j :: .ref a :: st)) rfl rfl (H.dec hd) t kk) k
theorem G.baloadG (H : Hs p l e R s m args below meth c Z a0 EL cw own n0 bytes maxL ret nm T h C S sf) {a : Addr} {kc : ClassId} {z : Int32} {vs : List Value} {dv : Value} (A : Arv Z h a kc .byte z vs dv) {j : Int32} {v : Value} (hj : ¬ j < 0 ∧ j < z) (hv : vs.getD j.toNatClampNeg dv = v) {pc pc' : Nat} {L : Array Slot} {st : List Value} (hd : decode bytes pc = .ok (.baload, 1)) (hp : pc + 1 = pc') (k : Go p e below P (T.setTop (mkF m pc' L (v :: st)))) : Go p e below P (T.setTop (mkF m pc L (.int j :: .ref a :: st))) := by
  subst hp
  obtain ⟨hM, vm0, k0, locs, X, h1, h2, h3, h4, h5, h6, h7, h8, h9, hO⟩ := id H
  obtain ⟨cl, Ar, q1, S1, q3, H1, G1⟩ := A
  exact Go.st (fun t kk => X.baloadBytes H.exec (cell := cl) (by rw [h1]; exact Ar.1) (State.isArrayOf_alike (s := Z) h4.alike Ar.2.1) Ar.2.2 (inb_of S1 hj) (Has.at H1 (inb_of S1 hj) hv) (g := mkF m pc L (.int j :: .ref a :: st)) rfl rfl (H.dec hd) t kk) k
theorem G.aaloadG (H : Hs p l e R s m args below meth c Z a0 EL cw own n0 bytes maxL ret nm T h C S sf) {a : Addr} {kc : ClassId} {ty : FieldType} {z : Int32} {vs : List Value} {dv : Value} (A : Arv Z h a kc ty z vs dv) (hty : ty.isReference = true) {j : Int32} {v : Value} (hj : ¬ j < 0 ∧ j < z) (hv : vs.getD j.toNatClampNeg dv = v) {pc pc' : Nat} {L : Array Slot} {st : List Value} (hd : decode bytes pc = .ok (.aaload, 1)) (hp : pc + 1 = pc') (k : Go p e below P (T.setTop (mkF m pc' L (v :: st)))) : Go p e below P (T.setTop (mkF m pc L (.int j :: .ref a :: st))) := by
  subst hp
  obtain ⟨hM, vm0, k0, locs, X, h1, h2, h3, h4, h5, h6, h7, h8, h9, hO⟩ := id H
  obtain ⟨cl, Ar, q1, S1, q3, H1, G1⟩ := A
  exact Go.st (fun t kk => X.aaload H.exec (cell := cl) (by rw [h1]; exact Ar.1) (State.isArrayOf_alike (s := Z) h4.alike Ar.2.1) hty Ar.2.2 (inb_of S1 hj) (Has.at H1 (inb_of S1 hj) hv) (g := mkF m pc L (.int j :: .ref a :: st)) rfl rfl (H.dec hd) t kk) k
theorem G.ldcI (H : Hs p l e R s m args below meth c Z a0 EL cw own n0 bytes maxL ret nm T h C S sf) {index : Nat} {v : Int32} (w : (Cond.constant own index v).before a0 Z = true) {pc pc' : Nat} {L : Array Slot} {st : List Value} (hd : decode bytes pc = .ok (.ldc index, 2)) (hp : pc + 2 = pc') (k : Go p e below P (T.setTop (mkF m pc' L (.int v :: st)))) : Go p e below P (T.setTop (mkF m pc L st)) := by
  subst hp
  obtain ⟨hM, vm0, k0, locs, X, h1, h2, h3, h4, h5, h6, h7, h8, h9, hO⟩ := id H
  exact Go.st (fun t kk => Jvm.Stand.ldcI X H.exec h5 (mv h4 w) (g := mkF m pc L st) rfl (H.dec hd) kk) k
theorem G.ldc2J (H : Hs p l e R s m args below meth c Z a0 EL cw own n0 bytes maxL ret nm T h C S sf) {index : Nat} {v : Int64} (w : (Cond.constantLong own index v).before a0 Z = true) {pc pc' : Nat} {L : Array Slot} {st : List Value} (hd : decode bytes pc = .ok (.ldc2_w index, 3)) (hp : pc + 3 = pc') (k : Go p e below P (T.setTop (mkF m pc' L (.long v :: st)))) : Go p e below P (T.setTop (mkF m pc L st)) := by
  subst hp
  obtain ⟨hM, vm0, k0, locs, X, h1, h2, h3, h4, h5, h6, h7, h8, h9, hO⟩ := id H
  exact Go.st (fun t kk => Jvm.Stand.ldc2J X H.exec h5 (mv h4 w) (g := mkF m pc L st) rfl (H.dec hd) kk) k
/-! ## the plain steps -/
theorem G.aloadN (H : Hs p l e R s m args below meth c Z a0 EL cw own n0 bytes maxL ret nm T h C S sf) {i : Fin 4} {v : Value} {pc pc' : Nat} {L : Array Slot} {st : List Value} (hd : decode bytes pc = .ok (.aload_n i, 1)) (hp : pc + 1 = pc') (hl : L[i.val]? = some (.val v)) (hv : v.isRef = true) (k : Go p e below P (T.setTop (mkF m pc' L (v :: st)))) : Go p e below P (T.setTop (mkF m pc L (st))) := by
  subst hp
  exact Go.st (fun t kk => XS.aloadN H.here H.exec (g := mkF m pc L (st)) rfl (H.dec hd) hl hv kk) k
theorem G.aload (H : Hs p l e R s m args below meth c Z a0 EL cw own n0 bytes maxL ret nm T h C S sf) {i : Nat} {v : Value} {pc pc' : Nat} {L : Array Slot} {st : List Value} (hd : decode bytes pc = .ok (.aload i, 2)) (hp : pc + 2 = pc') (hl : L[i]? = some (.val v)) (hv : v.isRef = true) (k : Go p e below P (T.setTop (mkF m pc' L (v :: st)))) : Go p e below P (T.setTop (mkF m pc L (st))) := by
  subst hp
  exact Go.st (fun t kk => XS.aload H.here H.exec (g := mkF m pc L (st)) rfl (H.dec hd) hl hv kk) k
theorem G.iloadN (H : Hs p l e R s m args below meth c Z a0 EL cw own n0 bytes maxL ret nm T h C S sf) {i : Fin 4} {v : Int32} {pc pc' : Nat} {L : Array Slot} {st : List Value} (hd : decode bytes pc = .ok (.iload_n i, 1)) (hp : pc + 1 = pc') (hl : L[i.val]? = some (.val (.int v))) (k : Go p e below P (T.setTop (mkF m pc' L (.int v :: st)))) : Go p e below P (T.setTop (mkF m pc L (st))) := by
  subst hp
  exact Go.st (fun t kk => XS.iloadN H.here H.exec (g := mkF m pc L (st)) rfl (H.dec hd) hl kk) k
theorem G.iload (H : Hs p l e R s m args below meth c Z a0 EL cw own n0 bytes maxL ret nm T h C S sf) {i : Nat} {v : Int32} {pc pc' : Nat} {L : Array Slot} {st : List Value} (hd : decode bytes pc = .ok (.iload i, 2)) (hp : pc + 2 = pc') (hl : L[i]? = some (.val (.int v))) (k : Go p e below P (T.setTop (mkF m pc' L (.int v :: st)))) : Go p e below P (T.setTop (mkF m pc L (st))) := by
  subst hp
  exact Go.st (fun t kk => XS.iload H.here H.exec (g := mkF m pc L (st)) rfl (H.dec hd) hl kk) k
theorem G.lloadN (H : Hs p l e R s m args below meth c Z a0 EL cw own n0 bytes maxL ret nm T h C S sf) {i : Fin 4} {v : Int64} {pc pc' : Nat} {L : Array Slot} {st : List Value} (hd : decode bytes pc = .ok (.lload_n i, 1)) (hp : pc + 1 = pc') (hl : L[i.val]? = some (.val (.long v))) (k : Go p e below P (T.setTop (mkF m pc' L (.long v :: st)))) : Go p e below P (T.setTop (mkF m pc L (st))) := by
  subst hp
  exact Go.st (fun t kk => XT.lloadN H.here H.exec (g := mkF m pc L (st)) rfl (H.dec hd) hl kk) k
theorem G.lload (H : Hs p l e R s m args below meth c Z a0 EL cw own n0 bytes maxL ret nm T h C S sf) {i : Nat} {v : Int64} {pc pc' : Nat} {L : Array Slot} {st : List Value} (hd : decode bytes pc = .ok (.lload i, 2)) (hp : pc + 2 = pc') (hl : L[i]? = some (.val (.long v))) (k : Go p e below P (T.setTop (mkF m pc' L (.long v :: st)))) : Go p e below P (T.setTop (mkF m pc L (st))) := by
  subst hp
  exact Go.st (fun t kk => XT.lload H.here H.exec (g := mkF m pc L (st)) rfl (H.dec hd) hl kk) k
theorem G.iconst (H : Hs p l e R s m args below meth c Z a0 EL cw own n0 bytes maxL ret nm T h C S sf) {i : Int} {v : Int32} {pc pc' : Nat} {L : Array Slot} {st : List Value} (hd : decode bytes pc = .ok (.iconst i, 1)) (hp : pc + 1 = pc') (hv : Int32.ofInt i = v) (k : Go p e below P (T.setTop (mkF m pc' L (.int v :: st)))) : Go p e below P (T.setTop (mkF m pc L (st))) := by
  subst hp; subst hv
  exact Go.st (fun t kk => XS.iconst H.here H.exec (g := mkF m pc L (st)) rfl (H.dec hd) kk) k
theorem G.bipush (H : Hs p l e R s m args below meth c Z a0 EL cw own n0 bytes maxL ret nm T h C S sf) {i : Int} {v : Int32} {pc pc' : Nat} {L : Array Slot} {st : List Value} (hd : decode bytes pc = .ok (.bipush i, 2)) (hp : pc + 2 = pc') (hv : (Int8.ofInt i).toInt32 = v) (k : Go p e below P (T.setTop (mkF m pc' L (.int v :: st)))) : Go p e below P (T.setTop (mkF m pc L (st))) := by
  subst hp; subst hv
  exact Go.st (fun t kk => XS.bipush H.here H.exec (g := mkF m pc L (st)) rfl (H.dec hd) kk) k
theorem G.sipush (H : Hs p l e R s m args below meth c Z a0 EL cw own n0 bytes maxL ret nm T h C S sf) {i : Int} {v : Int32} {pc pc' : Nat} {L : Array Slot} {st : List Value} (hd : decode bytes pc = .ok (.sipush i, 3)) (hp : pc + 3 = pc') (hv : (Int16.ofInt i).toInt32 = v) (k : Go p e below P (T.setTop (mkF m pc' L (.int v :: st)))) : Go p e below P (T.setTop (mkF m pc L (st))) := by
  subst hp; subst hv
  exact Go.st (fun t kk => XS.sipush H.here H.exec (g := mkF m pc L (st)) rfl (H.dec hd) kk) k
theorem G.aconstNull (H : Hs p l e R s m args below meth c Z a0 EL cw own n0 bytes maxL ret nm T h C S sf) {pc pc' : Nat} {L : Array Slot} {st : List Value} (hd : decode bytes pc = .ok (.aconst_null, 1)) (hp : pc + 1 = pc') (k : Go p e below P (T.setTop (mkF m pc' L (.null :: st)))) : Go p e below P (T.setTop (mkF m pc L (st))) := by
  subst hp
  exact Go.st (fun t kk => XS.aconstNull H.here H.exec (g := mkF m pc L (st)) rfl (H.dec hd) kk) k
theorem G.lconst (H : Hs p l e R s m args below meth c Z a0 EL cw own n0 bytes maxL ret nm T h C S sf) {i : Fin 2} {v : Int64} {pc pc' : Nat} {L : Array Slot} {st : List Value} (hd : decode bytes pc = .ok (.lconst i, 1)) (hp : pc + 1 = pc') (hv : Int64.ofNat i = v) (k : Go p e below P (T.setTop (mkF m pc' L (.long v :: st)))) : Go p e below P (T.setTop (mkF m pc L (st))) := by
  subst hp; subst hv
  exact Go.st (fun t kk => XT.lconst H.here H.exec (g := mkF m pc L (st)) rfl (H.dec hd) kk) k
theorem G.iadd (H : Hs p l e R s m args below meth c Z a0 EL cw own n0 bytes maxL ret nm T h C S sf) {x y : Int32} {pc pc' : Nat} {L : Array Slot} {st : List Value} (hd : decode bytes pc = .ok (.iadd, 1)) (hp : pc + 1 = pc') (k : Go p e below P (T.setTop (mkF m pc' L (.int (x + y) :: st)))) : Go p e below P (T.setTop (mkF m pc L (.int y :: .int x :: st))) := by
  subst hp
  exact Go.st (fun t kk => XS.iadd H.here H.exec (g := mkF m pc L (.int y :: .int x :: st)) rfl (H.dec hd) rfl kk) k
theorem G.isub (H : Hs p l e R s m args below meth c Z a0 EL cw own n0 bytes maxL ret nm T h C S sf) {x y : Int32} {pc pc' : Nat} {L : Array Slot} {st : List Value} (hd : decode bytes pc = .ok (.isub, 1)) (hp : pc + 1 = pc') (k : Go p e below P (T.setTop (mkF m pc' L (.int (x - y) :: st)))) : Go p e below P (T.setTop (mkF m pc L (.int y :: .int x :: st))) := by
  subst hp
  exact Go.st (fun t kk => XS.isub H.here H.exec (g := mkF m pc L (.int y :: .int x :: st)) rfl (H.dec hd) rfl kk) k
theorem G.iand (H : Hs p l e R s m args below meth c Z a0 EL cw own n0 bytes maxL ret nm T h C S sf) {x y : Int32} {pc pc' : Nat} {L : Array Slot} {st : List Value} (hd : decode bytes pc = .ok (.iand, 1)) (hp : pc + 1 = pc') (k : Go p e below P (T.setTop (mkF m pc' L (.int (x &&& y) :: st)))) : Go p e below P (T.setTop (mkF m pc L (.int y :: .int x :: st))) := by
  subst hp
  exact Go.st (fun t kk => XS.iand H.here H.exec (g := mkF m pc L (.int y :: .int x :: st)) rfl (H.dec hd) rfl kk) k
theorem G.imul (H : Hs p l e R s m args below meth c Z a0 EL cw own n0 bytes maxL ret nm T h C S sf) {x y : Int32} {pc pc' : Nat} {L : Array Slot} {st : List Value} (hd : decode bytes pc = .ok (.imul, 1)) (hp : pc + 1 = pc') (k : Go p e below P (T.setTop (mkF m pc' L (.int (x * y) :: st)))) : Go p e below P (T.setTop (mkF m pc L (.int y :: .int x :: st))) := by
  subst hp
  exact Go.st (fun t kk => XS.imul H.here H.exec (g := mkF m pc L (.int y :: .int x :: st)) rfl (H.dec hd) rfl kk) k
theorem G.ior (H : Hs p l e R s m args below meth c Z a0 EL cw own n0 bytes maxL ret nm T h C S sf) {x y : Int32} {pc pc' : Nat} {L : Array Slot} {st : List Value} (hd : decode bytes pc = .ok (.ior, 1)) (hp : pc + 1 = pc') (k : Go p e below P (T.setTop (mkF m pc' L (.int (x ||| y) :: st)))) : Go p e below P (T.setTop (mkF m pc L (.int y :: .int x :: st))) := by
  subst hp
  exact Go.st (fun t kk => XT.ior H.here H.exec (g := mkF m pc L (.int y :: .int x :: st)) rfl (H.dec hd) rfl kk) k
theorem G.ixor (H : Hs p l e R s m args below meth c Z a0 EL cw own n0 bytes maxL ret nm T h C S sf) {x y : Int32} {pc pc' : Nat} {L : Array Slot} {st : List Value} (hd : decode bytes pc = .ok (.ixor, 1)) (hp : pc + 1 = pc') (k : Go p e below P (T.setTop (mkF m pc' L (.int (x ^^^ y) :: st)))) : Go p e below P (T.setTop (mkF m pc L (.int y :: .int x :: st))) := by
  subst hp
  exact Go.st (fun t kk => XT.ixor H.here H.exec (g := mkF m pc L (.int y :: .int x :: st)) rfl (H.dec hd) rfl kk) k
theorem G.ishl (H : Hs p l e R s m args below meth c Z a0 EL cw own n0 bytes maxL ret nm T h C S sf) {x y : Int32} {pc pc' : Nat} {L : Array Slot} {st : List Value} (hd : decode bytes pc = .ok (.ishl, 1)) (hp : pc + 1 = pc') (k : Go p e below P (T.setTop (mkF m pc' L (.int (x <<< (y &&& 31)) :: st)))) : Go p e below P (T.setTop (mkF m pc L (.int y :: .int x :: st))) := by
  subst hp
  exact Go.st (fun t kk => XT.ishl H.here H.exec (g := mkF m pc L (.int y :: .int x :: st)) rfl (H.dec hd) rfl kk) k
theorem G.ishr (H : Hs p l e R s m args below meth c Z a0 EL cw own n0 bytes maxL ret nm T h C S sf) {x y : Int32} {pc pc' : Nat} {L : Array Slot} {st : List Value} (hd : decode bytes pc = .ok (.ishr, 1)) (hp : pc + 1 = pc') (k : Go p e below P (T.setTop (mkF m pc' L (.int (x >>> (y &&& 31)) :: st)))) : Go p e below P (T.setTop (mkF m pc L (.int y :: .int x :: st))) := by
  subst hp
  exact Go.st (fun t kk => XT.ishr H.here H.exec (g := mkF m pc L (.int y :: .int x :: st)) rfl (H.dec hd) rfl kk) k
theorem G.iushr (H : Hs p l e R s m args below meth c Z a0 EL cw own n0 bytes maxL ret nm T h C S sf) {x y : Int32} {pc pc' : Nat} {L : Array Slot} {st : List Value} (hd : decode bytes pc = .ok (.iushr, 1)) (hp : pc + 1 = pc') (k : Go p e below P (T.setTop (mkF m pc' L (.int (XT.ushr x y) :: st)))) : Go p e below P (T.setTop (mkF m pc L (.int y :: .int x :: st))) := by
  subst hp
  exact Go.st (fun t kk => XT.iushr H.here H.exec (g := mkF m pc L (.int y :: .int x :: st)) rfl (H.dec hd) rfl kk) k
theorem G.idiv (H : Hs p l e R s m args below meth c Z a0 EL cw own n0 bytes maxL ret nm T h C S sf) {x y : Int32} {pc pc' : Nat} {L : Array Slot} {st : List Value} (hd : decode bytes pc = .ok (.idiv, 1)) (hp : pc + 1 = pc') (hy : y ≠ 0) (k : Go p e below P (T.setTop (mkF m pc' L (.int (x / y) :: st)))) : Go p e below P (T.setTop (mkF m pc L (.int y :: .int x :: st))) := by
  subst hp
  exact Go.st (fun t kk => XS.idiv H.here H.exec (g := mkF m pc L (.int y :: .int x :: st)) rfl (H.dec hd) rfl hy kk) k
theorem G.ineg (H : Hs p l e R s m args below meth c Z a0 EL cw own n0 bytes maxL ret nm T h C S sf) {x : Int32} {pc pc' : Nat} {L : Array Slot} {st : List Value} (hd : decode bytes pc = .ok (.ineg, 1)) (hp : pc + 1 = pc') (k : Go p e below P (T.setTop (mkF m pc' L (.int (-x) :: st)))) : Go p e below P (T.setTop (mkF m pc L (.int x :: st))) := by
  subst hp
  exact Go.st (fun t kk => XS.ineg H.here H.exec (g := mkF m pc L (.int x :: st)) rfl (H.dec hd) rfl kk) k
theorem G.irem (H : Hs p l e R s m args below meth c Z a0 EL cw own n0 bytes maxL ret nm T h C S sf) {x y : Int32} {pc pc' : Nat} {L : Array Slot} {st : List Value} (hd : decode bytes pc = .ok (.irem, 1)) (hp : pc + 1 = pc') (hy : y ≠ 0) (k : Go p e below P (T.setTop (mkF m pc' L (.int (x % y) :: st)))) : Go p e below P (T.setTop (mkF m pc L (.int y :: .int x :: st))) := by
  subst hp
  obtain ⟨-, vm0, k0, locs, X, -⟩ := id H
  exact Go.st (fun t kk => iremM X H.exec (g := mkF m pc L (.int y :: .int x :: st)) rfl (H.dec hd) rfl hy kk) k
theorem G.ladd (H : Hs p l e R s m args below meth c Z a0 EL cw own n0 bytes maxL ret nm T h C S sf) {x y : Int64} {pc pc' : Nat} {L : Array Slot} {st : List Value} (hd : decode bytes pc = .ok (.ladd, 1)) (hp : pc + 1 = pc') (k : Go p e below P (T.setTop (mkF m pc' L (.long (x + y) :: st)))) : Go p e below P (T.setTop (mkF m pc L (.long y :: .long x :: st))) := by
  subst hp
  exact Go.st (fun t kk => XT.ladd H.here H.exec (g := mkF m pc L (.long y :: .long x :: st)) rfl (H.dec hd) rfl kk) k
theorem G.lsub (H : Hs p l e R s m args below meth c Z a0 EL cw own n0 bytes maxL ret nm T h C S sf) {x y : Int64} {pc pc' : Nat} {L : Array Slot} {st : List Value} (hd : decode bytes pc = .ok (.lsub, 1)) (hp : pc + 1 = pc') (k : Go p e below P (T.setTop (mkF m pc' L (.long (x - y) :: st)))) : Go p e below P (T.setTop (mkF m pc L (.long y :: .long x :: st))) := by
  subst hp
  exact Go.st (fun t kk => XT.lsub H.here H.exec (g := mkF m pc L (.long y :: .long x :: st)) rfl (H.dec hd) rfl kk) k
theorem G.land (H : Hs p l e R s m args below meth c Z a0 EL cw own n0 bytes maxL ret nm T h C S sf) {x y : Int64} {pc pc' : Nat} {L : Array Slot} {st : List Value} (hd : decode bytes pc = .ok (.land, 1)) (hp : pc + 1 = pc') (k : Go p e below P (T.setTop (mkF m pc' L (.long (x &&& y) :: st)))) : Go p e below P (T.setTop (mkF m pc L (.long y :: .long x :: st))) := by
  subst hp
  exact Go.st (fun t kk => XT.land H.here H.exec (g := mkF m pc L (.long y :: .long x :: st)) rfl (H.dec hd) rfl kk) k
theorem G.lor (H : Hs p l e R s m args below meth c Z a0 EL cw own n0 bytes maxL ret nm T h C S sf) {x y : Int64} {pc pc' : Nat} {L : Array Slot} {st : List Value} (hd : decode bytes pc = .ok (.lor, 1)) (hp : pc + 1 = pc') (k : Go p e below P (T.setTop (mkF m pc' L (.long (x ||| y) :: st)))) : Go p e below P (T.setTop (mkF m pc L (.long y :: .long x :: st))) := by
  subst hp
  exact Go.st (fun t kk => XT.lor H.here H.exec (g := mkF m pc L (.long y :: .long x :: st)) rfl (H.dec hd) rfl kk) k
theorem G.lxor (H : Hs p l e R s m args below meth c Z a0 EL cw own n0 bytes maxL ret nm T h C S sf) {x y : Int64} {pc pc' : Nat} {L : Array Slot} {st : List Value} (hd : decode bytes pc = .ok (.lxor, 1)) (hp : pc + 1 = pc') (k : Go p e below P (T.setTop (mkF m pc' L (.long (x ^^^ y) :: st)))) : Go p e below P (T.setTop (mkF m pc L (.long y :: .long x :: st))) := by
  subst hp
  exact Go.st (fun t kk => XT.lxor H.here H.exec (g := mkF m pc L (.long y :: .long x :: st)) rfl (H.dec hd) rfl kk) k
theorem G.lmul (H : Hs p l e R s m args below meth c Z a0 EL cw own n0 bytes maxL ret nm T h C S sf) {x y : Int64} {pc pc' : Nat} {L : Array Slot} {st : List Value} (hd : decode bytes pc = .ok (.lmul, 1)) (hp : pc + 1 = pc') (k : Go p e below P (T.setTop (mkF m pc' L (.long (x * y) :: st)))) : Go p e below P (T.setTop (mkF m pc L (.long y :: .long x :: st))) := by
  subst hp
  exact Go.st (fun t kk => XT.lmul H.here H.exec (g := mkF m pc L (.long y :: .long x :: st)) rfl (H.dec hd) rfl kk) k
theorem G.lushr (H : Hs p l e R s m args below meth c Z a0 EL cw own n0 bytes maxL ret nm T h C S sf) {x : Int64} {y : Int32} {pc pc' : Nat} {L : Array Slot} {st : List Value} (hd : decode bytes pc = .ok (.lushr, 1)) (hp : pc + 1 = pc') (k : Go p e below P (T.setTop (mkF m pc' L (.long (XT.ushrL x y) :: st)))) : Go p e below P (T.setTop (mkF m pc L (.int y :: .long x :: st))) := by
  subst hp
  exact Go.st (fun t kk => XT.lushr H.here H.exec (g := mkF m pc L (.int y :: .long x :: st)) rfl (H.dec hd) rfl kk) k
theorem G.i2l (H : Hs p l e R s m args below meth c Z a0 EL cw own n0 bytes maxL ret nm T h C S sf) {x : Int32} {pc pc' : Nat} {L : Array Slot} {st : List Value} (hd : decode bytes pc = .ok (.i2l, 1)) (hp : pc + 1 = pc') (k : Go p e below P (T.setTop (mkF m pc' L (.long (x.toInt64) :: st)))) : Go p e below P (T.setTop (mkF m pc L (.int x :: st))) := by
  subst hp
  exact Go.st (fun t kk => XT.i2l H.here H.exec (g := mkF m pc L (.int x :: st)) rfl (H.dec hd) rfl kk) k
theorem G.l2i (H : Hs p l e R s m args below meth c Z a0 EL cw own n0 bytes maxL ret nm T h C S sf) {x : Int64} {pc pc' : Nat} {L : Array Slot} {st : List Value} (hd : decode bytes pc = .ok (.l2i, 1)) (hp : pc + 1 = pc') (k : Go p e below P (T.setTop (mkF m pc' L (.int (x.toInt32) :: st)))) : Go p e below P (T.setTop (mkF m pc L (.long x :: st))) := by
  subst hp
  exact Go.st (fun t kk => XT.l2i H.here H.exec (g := mkF m pc L (.long x :: st)) rfl (H.dec hd) rfl kk) k
theorem G.i2b (H : Hs p l e R s m args below meth c Z a0 EL cw own n0 bytes maxL ret nm T h C S sf) {x : Int32} {pc pc' : Nat} {L : Array Slot} {st : List Value} (hd : decode bytes pc = .ok (.i2b, 1)) (hp : pc + 1 = pc') (k : Go p e below P (T.setTop (mkF m pc' L (.int (x.toInt8.toInt32) :: st)))) : Go p e below P (T.setTop (mkF m pc L (.int x :: st))) := by
  subst hp
  exact Go.st (fun t kk => XT.i2b H.here H.exec (g := mkF m pc L (.int x :: st)) rfl (H.dec hd) rfl kk) k
theorem G.i2s (H : Hs p l e R s m args below meth c Z a0 EL cw own n0 bytes maxL ret nm T h C S sf) {x : Int32} {pc pc' : Nat} {L : Array Slot} {st : List Value} (hd : decode bytes pc = .ok (.i2s, 1)) (hp : pc + 1 = pc') (k : Go p e below P (T.setTop (mkF m pc' L (.int (x.toInt16.toInt32) :: st)))) : Go p e below P (T.setTop (mkF m pc L (.int x :: st))) := by
  subst hp
  exact Go.st (fun t kk => XT.i2s H.here H.exec (g := mkF m pc L (.int x :: st)) rfl (H.dec hd) rfl kk) k
theorem G.i2c (H : Hs p l e R s m args below meth c Z a0 EL cw own n0 bytes maxL ret nm T h C S sf) {x y : Int32} {pc pc' : Nat} {L : Array Slot} {st : List Value} (hd : decode bytes pc = .ok (.i2c, 1)) (hp : pc + 1 = pc') (hy : x.toUInt32.toUInt16.toUInt32.toInt32 = y) (k : Go p e below P (T.setTop (mkF m pc' L (.int y :: st)))) : Go p e below P (T.setTop (mkF m pc L (.int x :: st))) := by
  subst hp; subst hy
  exact Go.st (fun t kk => XT.i2c H.here H.exec (g := mkF m pc L (.int x :: st)) rfl (H.dec hd) rfl kk) k
theorem G.lcmp (H : Hs p l e R s m args below meth c Z a0 EL cw own n0 bytes maxL ret nm T h C S sf) {x y : Int64} {pc pc' : Nat} {L : Array Slot} {st : List Value} (hd : decode bytes pc = .ok (.lcmp, 1)) (hp : pc + 1 = pc') (k : Go p e below P (T.setTop (mkF m pc' L (.int (XT.cmpL x y) :: st)))) : Go p e below P (T.setTop (mkF m pc L (.long y :: .long x :: st))) := by
  subst hp
  exact Go.st (fun t kk => XT.lcmp H.here H.exec (g := mkF m pc L (.long y :: .long x :: st)) rfl (H.dec hd) rfl kk) k
theorem G.pop (H : Hs p l e R s m args below meth c Z a0 EL cw own n0 bytes maxL ret nm T h C S sf) {x : Value} {pc pc' : Nat} {L : Array Slot} {st : List Value} (hd : decode bytes pc = .ok (.pop, 1)) (hp : pc + 1 = pc') (hc : x.category = 1) (k : Go p e below P (T.setTop (mkF m pc' L (st)))) : Go p e below P (T.setTop (mkF m pc L (x :: st))) := by
  subst hp
  exact Go.st (fun t kk => XT.pop H.here H.exec (g := mkF m pc L (x :: st)) rfl (H.dec hd) rfl hc kk) k
theorem G.dup (H : Hs p l e R s m args below meth c Z a0 EL cw own n0 bytes maxL ret nm T h C S sf) {x : Value} {pc pc' : Nat} {L : Array Slot} {st : List Value} (hd : decode bytes pc = .ok (.dup, 1)) (hp : pc + 1 = pc') (hc : x.category = 1) (k : Go p e below P (T.setTop (mkF m pc' L (x :: x :: st)))) : Go p e below P (T.setTop (mkF m pc L (x :: st))) := by
  subst hp
  exact Go.st (fun t kk => XS.dup H.here H.exec (g := mkF m pc L (x :: st)) rfl (H.dec hd) rfl hc kk) k
theorem G.dupX1 (H : Hs p l e R s m args below meth c Z a0 EL cw own n0 bytes maxL ret nm T h C S sf) {x y : Value} {pc pc' : Nat} {L : Array Slot} {st : List Value} (hd : decode bytes pc = .ok (.dup_x1, 1)) (hp : pc + 1 = pc') (hc : x.category = 1) (hc' : y.category = 1) (k : Go p e below P (T.setTop (mkF m pc' L (x :: y :: x :: st)))) : Go p e below P (T.setTop (mkF m pc L (x :: y :: st))) := by
  subst hp
  exact Go.st (fun t kk => XT.dupX1 H.here H.exec (g := mkF m pc L (x :: y :: st)) rfl (H.dec hd) rfl hc hc' kk) k
theorem G.dup2 (H : Hs p l e R s m args below meth c Z a0 EL cw own n0 bytes maxL ret nm T h C S sf) {x y : Value} {pc pc' : Nat} {L : Array Slot} {st : List Value} (hd : decode bytes pc = .ok (.dup2, 1)) (hp : pc + 1 = pc') (hc : x.category = 1) (hc' : y.category = 1) (k : Go p e below P (T.setTop (mkF m pc' L (x :: y :: x :: y :: st)))) : Go p e below P (T.setTop (mkF m pc L (x :: y :: st))) := by
  subst hp
  exact Go.st (fun t kk => XT.dup2 H.here H.exec (g := mkF m pc L (x :: y :: st)) rfl (H.dec hd) rfl hc hc' kk) k
theorem G.istoreN (H : Hs p l e R s m args below meth c Z a0 EL cw own n0 bytes maxL ret nm T h C S sf) {i : Fin 4} {x : Int32} {L' : Array Slot} {pc pc' : Nat} {L : Array Slot} {st : List Value} (hd : decode bytes pc = .ok (.istore_n i, 1)) (hp : pc + 1 = pc') (hl : storeLocals L i.val (.int x) = some L') (k : Go p e below P (T.setTop (mkF m pc' L' (st)))) : Go p e below P (T.setTop (mkF m pc L (.int x :: st))) := by
  subst hp
  exact Go.st (fun t kk => XS.istoreN H.here H.exec (g := mkF m pc L (.int x :: st)) rfl (H.dec hd) rfl hl kk) k
theorem G.istore (H : Hs p l e R s m args below meth c Z a0 EL cw own n0 bytes maxL ret nm T h C S sf) {i : Nat} {x : Int32} {L' : Array Slot} {pc pc' : Nat} {L : Array Slot} {st : List Value} (hd : decode bytes pc = .ok (.istore i, 2)) (hp : pc + 2 = pc') (hl : storeLocals L i (.int x) = some L') (k : Go p e below P (T.setTop (mkF m pc' L' (st)))) : Go p e below P (T.setTop (mkF m pc L (.int x :: st))) := by
  subst hp
  exact Go.st (fun t kk => XS.istore H.here H.exec (g := mkF m pc L (.int x :: st)) rfl (H.dec hd) rfl hl kk) k
theorem G.astoreN (H : Hs p l e R s m args below meth c Z a0 EL cw own n0 bytes maxL ret nm T h C S sf) {i : Fin 4} {x : Value} {L' : Array Slot} {pc pc' : Nat} {L : Array Slot} {st : List Value} (hd : decode bytes pc = .ok (.astore_n i, 1)) (hp : pc + 1 = pc') (hv : x.isRef = true) (hl : storeLocals L i.val x = some L') (k : Go p e below P (T.setTop (mkF m pc' L' (st)))) : Go p e below P (T.setTop (mkF m pc L (x :: st))) := by
  subst hp
  exact Go.st (fun t kk => XS.astoreN H.here H.exec (g := mkF m pc L (x :: st)) rfl (H.dec hd) rfl hv hl kk) k
theorem G.astore (H : Hs p l e R s m args below meth c Z a0 EL cw own n0 bytes maxL ret nm T h C S sf) {i : Nat} {x : Value} {L' : Array Slot} {pc pc' : Nat} {L : Array Slot} {st : List Value} (hd : decode bytes pc = .ok (.astore i, 2)) (hp : pc + 2 = pc') (hv : x.isRef = true) (hl : storeLocals L i x = some L') (k : Go p e below P (T.setTop (mkF m pc' L' (st)))) : Go p e below P (T.setTop (mkF m pc L (x :: st))) := by
  subst hp
  exact Go.st (fun t kk => XS.astore H.here H.exec (g := mkF m pc L (x :: st)) rfl (H.dec hd) rfl hv hl kk) k
theorem G.iinc (H : Hs p l e R s m args below meth c Z a0 EL cw own n0 bytes maxL ret nm T h C S sf) {i : Nat} {cst : Int} {x v : Int32} {L' : Array Slot} {pc pc' : Nat} {L : Array Slot} {st : List Value} (hd : decode bytes pc = .ok (.iinc i cst, 3)) (hp : pc + 3 = pc') (hl : L[i]? = some (.val (.int x))) (hv : x + Int32.ofInt cst = v) (hl' : storeLocals L i (.int v) = some L') (k : Go p e below P (T.setTop (mkF m pc' L' (st)))) : Go p e below P (T.setTop (mkF m pc L (st))) := by
  subst hp; subst hv
  exact Go.st (fun t kk => XS.iinc H.here H.exec (g := mkF m pc L (st)) rfl (H.dec hd) hl hl' kk) k
theorem G.goto (H : Hs p l e R s m args below meth c Z a0 EL cw own n0 bytes maxL ret nm T h C S sf) {o : Int} {pc pc' : Nat} {L : Array Slot} {st : List Value} (hd : decode bytes pc = .ok (.goto o, 3)) (ho : 0 ≤ (pc : Int) + o) (hp : ((pc : Int) + o).toNat = pc') (k : Go p e below P (T.setTop (mkF m pc' L (st)))) : Go p e below P (T.setTop (mkF m pc L (st))) :=
  Go.st (fun t kk => XS.goto H.here H.exec (g := mkF m pc L (st)) rfl (pc0 := pc) rfl (H.dec hd) ho hp kk) k
theorem G.ifYes (H : Hs p l e R s m args below meth c Z a0 EL cw own n0 bytes maxL ret nm T h C S sf) {cd : ClassFile.Cond} {x : Int32} {o : Int} {pc pc' : Nat} {L : Array Slot} {st : List Value} (hd : decode bytes pc = .ok (.ifCond cd o, 3)) (hc : ifCond.holds cd x = true) (ho : 0 ≤ (pc : Int) + o) (hp : ((pc : Int) + o).toNat = pc') (k : Go p e below P (T.setTop (mkF m pc' L (st)))) : Go p e below P (T.setTop (mkF m pc L (.int x :: st))) :=
  Go.st (fun t kk => XS.ifYes H.here H.exec (g := mkF m pc L (.int x :: st)) rfl (pc0 := pc) rfl (H.dec hd) rfl hc ho hp kk) k
theorem G.icmpYes (H : Hs p l e R s m args below meth c Z a0 EL cw own n0 bytes maxL ret nm T h C S sf) {cd : ClassFile.Cond} {x y : Int32} {o : Int} {pc pc' : Nat} {L : Array Slot} {st : List Value} (hd : decode bytes pc = .ok (.if_icmp cd o, 3)) (hc : if_icmp.holds cd x y = true) (ho : 0 ≤ (pc : Int) + o) (hp : ((pc : Int) + o).toNat = pc') (k : Go p e below P (T.setTop (mkF m pc' L (st)))) : Go p e below P (T.setTop (mkF m pc L (.int y :: .int x :: st))) :=
  Go.st (fun t kk => XS.icmpYes H.here H.exec (g := mkF m pc L (.int y :: .int x :: st)) rfl (pc0 := pc) rfl (H.dec hd) rfl hc ho hp kk) k
theorem G.ifnullYes (H : Hs p l e R s m args below meth c Z a0 EL cw own n0 bytes maxL ret nm T h C S sf) {o : Int} {pc pc' : Nat} {L : Array Slot} {st : List Value} (hd : decode bytes pc = .ok (.ifnull o, 3)) (ho : 0 ≤ (pc : Int) + o) (hp : ((pc : Int) + o).toNat = pc') (k : Go p e below P (T.setTop (mkF m pc' L (st)))) : Go p e below P (T.setTop (mkF m pc L (.null :: st))) :=
  Go.st (fun t kk => XS.ifnullYes H.here H.exec (g := mkF m pc L (.null :: st)) rfl (pc0 := pc) rfl (H.dec hd) rfl ho hp kk) k
theorem G.ifnonnullYes (H : Hs p l e R s m args below meth c Z a0 EL cw own n0 bytes maxL ret nm T h C S sf) {b : Addr} {o : Int} {pc pc' : Nat} {L : Array Slot} {st : List Value} (hd : decode bytes pc = .ok (.ifnonnull o, 3)) (ho : 0 ≤ (pc : Int) + o) (hp : ((pc : Int) + o).toNat = pc') (k : Go p e below P (T.setTop (mkF m pc' L (st)))) : Go p e below P (T.setTop (mkF m pc L (.ref b :: st))) :=
  Go.st (fun t kk => XT.ifnonnullYes H.here H.exec (g := mkF m pc L (.ref b :: st)) rfl (pc0 := pc) rfl (H.dec hd) rfl ho hp kk) k
theorem G.acmpYes (H : Hs p l e R s m args below meth c Z a0 EL cw own n0 bytes maxL ret nm T h C S sf) {cd : ClassFile.ACond} {x y : Value} {o : Int} {pc pc' : Nat} {L : Array Slot} {st : List Value} (hd : decode bytes pc = .ok (.if_acmp cd o, 3)) (hx' : x.isRef = true) (hy' : y.isRef = true) (hc : XT.acmp cd x y = true) (ho : 0 ≤ (pc : Int) + o) (hp : ((pc : Int) + o).toNat = pc') (k : Go p e below P (T.setTop (mkF m pc' L (st)))) : Go p e below P (T.setTop (mkF m pc L (y :: x :: st))) :=
  Go.st (fun t kk => XT.acmpYes H.here H.exec (g := mkF m pc L (y :: x :: st)) rfl (pc0 := pc) rfl (H.dec hd) rfl hx' hy' hc ho hp kk) k
theorem G.ifNo (H : Hs p l e R s m args below meth c Z a0 EL cw own n0 bytes maxL ret nm T h C S sf) {cd : ClassFile.Cond} {o : Int} {x : Int32} {pc pc' : Nat} {L : Array Slot} {st : List Value} (hd : decode bytes pc = .ok (.ifCond cd o, 3)) (hp : pc + 3 = pc') (hc : ifCond.holds cd x = false) (k : Go p e below P (T.setTop (mkF m pc' L (st)))) : Go p e below P (T.setTop (mkF m pc L (.int x :: st))) := by
  subst hp
  exact Go.st (fun t kk => XS.ifNo H.here H.exec (g := mkF m pc L (.int x :: st)) rfl (H.dec hd) rfl hc kk) k
theorem G.icmpNo (H : Hs p l e R s m args below meth c Z a0 EL cw own n0 bytes maxL ret nm T h C S sf) {cd : ClassFile.Cond} {o : Int} {x y : Int32} {pc pc' : Nat} {L : Array Slot} {st : List Value} (hd : decode bytes pc = .ok (.if_icmp cd o, 3)) (hp : pc + 3 = pc') (hc : if_icmp.holds cd x y = false) (k : Go p e below P (T.setTop (mkF m pc' L (st)))) : Go p e below P (T.setTop (mkF m pc L (.int y :: .int x :: st))) := by
  subst hp
  exact Go.st (fun t kk => XS.icmpNo H.here H.exec (g := mkF m pc L (.int y :: .int x :: st)) rfl (H.dec hd) rfl hc kk) k
theorem G.ifnullNo (H : Hs p l e R s m args below meth c Z a0 EL cw own n0 bytes maxL ret nm T h C S sf) {o : Int} {b : Addr} {pc pc' : Nat} {L : Array Slot} {st : List Value} (hd : decode bytes pc = .ok (.ifnull o, 3)) (hp : pc + 3 = pc') (k : Go p e below P (T.setTop (mkF m pc' L (st)))) : Go p e below P (T.setTop (mkF m pc L (.ref b :: st))) := by
  subst hp
  exact Go.st (fun t kk => XS.ifnullNo H.here H.exec (g := mkF m pc L (.ref b :: st)) rfl (H.dec hd) rfl kk) k
theorem G.ifnonnullNo (H : Hs p l e R s m args below meth c Z a0 EL cw own n0 bytes maxL ret nm T h C S sf) {o : Int} {pc pc' : Nat} {L : Array Slot} {st : List Value} (hd : decode bytes pc = .ok (.ifnonnull o, 3)) (hp : pc + 3 = pc') (k : Go p e below P (T.setTop (mkF m pc' L (st)))) : Go p e below P (T.setTop (mkF m pc L (.null :: st))) := by
  subst hp
  exact Go.st (fun t kk => XT.ifnonnullNo H.here H.exec (g := mkF m pc L (.null :: st)) rfl (H.dec hd) rfl kk) k
theorem G.acmpNo (H : Hs p l e R s m args below meth c Z a0 EL cw own n0 bytes maxL ret nm T h C S sf) {cd : ClassFile.ACond} {o : Int} {x y : Value} {pc pc' : Nat} {L : Array Slot} {st : List Value} (hd : decode bytes pc = .ok (.if_acmp cd o, 3)) (hp : pc + 3 = pc') (hx' : x.isRef = true) (hy' : y.isRef = true) (hc : XT.acmp cd x y = false) (k : Go p e below P (T.setTop (mkF m pc' L (st)))) : Go p e below P (T.setTop (mkF m pc L (y :: x :: st))) := by
  subst hp
  exact Go.st (fun t kk => XT.acmpNo H.here H.exec (g := mkF m pc L (y :: x :: st)) rfl (H.dec hd) rfl hx' hy' hc kk) k
theorem G.tswIn (H : Hs p l e R s m args below meth c Z a0 EL cw own n0 bytes maxL ret nm T h C S sf) {dflt low high : Int} {offs : Array Int} {len : Nat} {o : Int} {i : Int32} {pc pc' : Nat} {L : Array Slot} {st : List Value} (hd : decode bytes pc = .ok (.tableswitch dflt low high offs, len)) (hin : ¬ (i.toInt < low ∨ i.toInt > high)) (hoff : offs[(i.toInt - low).toNat]? = some o) (ho : 0 ≤ (pc : Int) + o) (hp : ((pc : Int) + o).toNat = pc') (k : Go p e below P (T.setTop (mkF m pc' L st))) : Go p e below P (T.setTop (mkF m pc L (.int i :: st))) :=
  Go.st (fun t kk => XS.tswIn H.here H.exec (g := mkF m pc L (.int i :: st)) rfl (pc0 := pc) rfl (H.dec hd) rfl hin hoff ho hp kk) k
theorem G.tswOut (H : Hs p l e R s m args below meth c Z a0 EL cw own n0 bytes maxL ret nm T h C S sf) {dflt low high : Int} {offs : Array Int} {len : Nat} {i : Int32} {pc pc' : Nat} {L : Array Slot} {st : List Value} (hd : decode bytes pc = .ok (.tableswitch dflt low high offs, len)) (hout : i.toInt < low ∨ i.toInt > high) (ho : 0 ≤ (pc : Int) + dflt) (hp : ((pc : Int) + dflt).toNat = pc') (k : Go p e below P (T.setTop (mkF m pc' L st))) : Go p e below P (T.setTop (mkF m pc L (.int i :: st))) :=
  Go.st (fun t kk => XS.tswOut H.here H.exec (g := mkF m pc L (.int i :: st)) rfl (pc0 := pc) rfl (H.dec hd) rfl hout ho hp kk) k
/-! ## what makes or writes -/
theorem Hs.ext {T' : State} {h' : Heap} {C' S' : Nat} {vm0 : Vm} {k0 : Nat} {locs : List Loc} (H : Hs p l e R s m args below meth c Z a0 EL cw own n0 bytes maxL ret nm T h C S sf) (X' : Stand p l e R (s.setVm vm0) m args below meth c T' locs C' S') (e' : T'.heap = h') (E : Ext h h') (h2 : s.Since vm0 k0) (h3 : k0 ≤ h.size) (h4 : Z.Warmed39 vm0) (h5 : vm0.findClass own = some m.cls) (h6 : Fr n0 locs) (h7 : CHr Z EL s.vm s.heap vm0 h) (h8 : ∀ x ∈ sf, x < h.size ∧ Safe Z EL vm0 h x) (h9 : cw ∨ s.WarmedH vm0) (hO : Old Z n0 h) (hlt : h.size < h'.size) : Hs p l e R s m args below meth c Z a0 EL cw own n0 bytes maxL ret nm T' h' C' S' (h.size :: sf) :=
  ⟨H.1, vm0, k0, locs, X', e', h2, Nat.le_trans h3 E.1, h4, h5, h6, h7.trans (CHr.ext E h7.1), fun x hx => by
    rcases List.mem_cons.mp hx with rfl | hx
    · exact ⟨hlt, Safe.ext E h7.1 (Safe.new (Nat.le_refl _))⟩
    · exact ⟨Nat.lt_of_lt_of_le (h8 x hx).1 E.1, Safe.ext E h7.1 (h8 x hx).2⟩, h9, hO.ext E⟩
theorem G.new (H : Hs p l e R s m args below meth c Z a0 EL cw own n0 bytes maxL ret nm T h C S sf) {K : String} {index n : Nat} (w : (Cond.classLink own index K).before a0 Z = true) (wi : (Cond.instantiable K n).before a0 Z = true) (wz : (Cond.initialized K).before a0 Z = true) {pc pc' : Nat} {L : Array Slot} {st : List Value} (hd : decode bytes pc = .ok (.new index, 3)) (hp : pc + 3 = pc') (hc : C + 1 ≤ R.cells) (hl : S + n ≤ R.slots)
    (k : ∀ T' h' a, a = h.size → Hs p l e R s m args below meth c Z a0 EL cw own n0 bytes maxL ret nm T' h' (C + 1) (S + n) (a :: sf) → Ext h h' → Exa Z h' a K → (∀ {O nm' d : String} {ty : FieldType}, Laid Z a0 K O nm' d → parseFieldDescriptor d = some ty → Fld Z h' a O nm' d (defaultValue ty)) → Go p e below P (T'.setTop (mkF m pc' L (.ref a :: st)))) : Go p e below P (T.setTop (mkF m pc L st)) := by
  subst hp
  obtain ⟨hM, vm0, k0, locs, X, h1, h2, h3, h4, h5, h6, h7, h8, h9, hO⟩ := id H
  obtain ⟨T', h', X', e', E, A, D, -, st'⟩ := RoadKit.newO X H.exec h4 h5 w wi wz h1 (g := mkF m pc L st) rfl (H.dec hd) hc hl
  exact Go.st st' (k T' h' _ rfl (H.ext X' e' E h2 h3 h4 h5 h6 h7 h8 h9 hO A.lt) E A D)
theorem G.newP (H : Hs p l e R s m args below meth c Z a0 EL cw own n0 bytes maxL ret nm T h C S sf) {aty : ArrayType} (w : (Cond.arrayClass (newarray.typeOf aty)).before a0 Z = true) {z : Int32} {pc pc' : Nat} {L : Array Slot} {st : List Value} (hd : decode bytes pc = .ok (.newarray aty, 2)) (hp : pc + 2 = pc') (hn : ¬ z < 0) {cap : Nat} (hcap : z.toNatClampNeg ≤ cap) (hb : cap * 8 ≤ 536870912) (hc : C + 1 ≤ R.cells) (hl : S + cap ≤ R.slots) {vs : List Value} (hvs : List.replicate z.toNatClampNeg (defaultValue (newarray.typeOf aty)) = vs) {ad : String} (had : "[" ++ (newarray.typeOf aty).toString = ad)
    (k : ∀ T' h' a kc, a = h.size → Hs p l e R s m args below meth c Z a0 EL cw own n0 bytes maxL ret nm T' h' (C + 1) (S + cap) (a :: sf) → Ext h h' → Arv Z h' a kc (newarray.typeOf aty) z vs (defaultValue (newarray.typeOf aty)) → Exa Z h' a ad → Go p e below P (T'.setTop (mkF m pc' L (.ref a :: st)))) : Go p e below P (T.setTop (mkF m pc L (.int z :: st))) := by
  subst hp
  obtain ⟨hM, vm0, k0, locs, X, h1, h2, h3, h4, h5, h6, h7, h8, h9, hO⟩ := id H
  obtain ⟨T', h', cA, X', e', E, A, EX, st'⟩ := RoadKit.newPE X H.exec h4 w h1 (g := mkF m pc L (.int z :: st)) rfl (H.dec hd) rfl hn hcap hb hc hl had
  refine Go.st st' (k T' h' _ cA rfl (H.ext X' e' E h2 h3 h4 h5 h6 h7 h8 h9 hO A.lt) E ?_ EX)
  subst hvs
  exact (Arv.new A hn).pad (fun i => by simpa using pad_rep [] (defaultValue (newarray.typeOf aty)) z.toNatClampNeg i)
theorem G.newR (H : Hs p l e R s m args below meth c Z a0 EL cw own n0 bytes maxL ret nm T h C S sf) {K : String} {index : Nat} (w1 : (Cond.classLink own index K).before a0 Z = true) (w2 : (Cond.arrayOver (.object K)).before a0 Z = true) {z : Int32} {pc pc' : Nat} {L : Array Slot} {st : List Value} (hd : decode bytes pc = .ok (.anewarray index, 3)) (hp : pc + 3 = pc') (hn : ¬ z < 0) {cap : Nat} (hcap : z.toNatClampNeg ≤ cap) (hb : cap * 8 ≤ 536870912) (hc : C + 1 ≤ R.cells) (hl : S + cap ≤ R.slots) {vs : List Value} (hvs : List.replicate z.toNatClampNeg Value.null = vs) {ad : String} (had : "[" ++ (FieldType.object K).toString = ad)
    (k : ∀ T' h' a kc, a = h.size → Hs p l e R s m args below meth c Z a0 EL cw own n0 bytes maxL ret nm T' h' (C + 1) (S + cap) (a :: sf) → Ext h h' → Arv Z h' a kc (.object K) z vs .null → Exa Z h' a ad → Ovr Z kc K → Go p e below P (T'.setTop (mkF m pc' L (.ref a :: st)))) : Go p e below P (T.setTop (mkF m pc L (.int z :: st))) := by
  subst hp
  obtain ⟨hM, vm0, k0, locs, X, h1, h2, h3, h4, h5, h6, h7, h8, h9, hO⟩ := id H
  obtain ⟨T', h', cA, X', e', E, A, EX, O, st'⟩ := RoadKit.newRE X H.exec h4 h5 w1 w2 h1 (g := mkF m pc L (.int z :: st)) rfl (H.dec hd) rfl hn hcap hb hc hl had
  refine Go.st st' (k T' h' _ cA rfl (H.ext X' e' E h2 h3 h4 h5 h6 h7 h8 h9 hO A.lt) E ?_ EX O)
  subst hvs
  exact (Arv.new A hn).pad (fun i => by show (List.replicate z.toNatClampNeg Value.null).getD i Value.null = ([] : List Value).getD i Value.null; simpa using pad_rep [] Value.null z.toNatClampNeg i)
theorem Hs.wr {T' : State} {h' : Heap} {vm0 : Vm} {k0 : Nat} {locs : List Loc} {a : Addr} {sl : Nat} {v : Value} (H : Hs p l e R s m args below meth c Z a0 EL cw own n0 bytes maxL ret nm T h C S sf) (X' : Stand p l e R (s.setVm vm0) m args below meth c T' (locs ++ [⟨a, sl⟩]) C S) (e' : T'.heap = h') (W : Wr h h' a sl v) (q : n0 ≤ a) (sa : Safe Z EL vm0 h a) (h2 : s.Since vm0 k0) (h3 : k0 ≤ h.size) (h4 : Z.Warmed39 vm0) (h5 : vm0.findClass own = some m.cls) (h6 : Fr n0 locs) (h7 : CHr Z EL s.vm s.heap vm0 h) (h8 : ∀ x ∈ sf, x < h.size ∧ Safe Z EL vm0 h x) (h9 : cw ∨ s.WarmedH vm0) (hO : Old Z n0 h) : Hs p l e R s m args below meth c Z a0 EL cw own n0 bytes maxL ret nm T' h' C S sf :=
  ⟨H.1, vm0, k0, locs ++ [⟨a, sl⟩], X', e', h2, by rw [W.size]; exact h3, h4, h5, Fr.snoc X' h6 q, h7.trans (CHr.wr W sa h7.1), fun x hx => ⟨by rw [W.size]; exact (h8 x hx).1, Safe.wr W sa h7.1 (h8 x hx).2⟩, h9, hO.wr W q⟩
theorem G.putF (H : Hs p l e R s m args below meth c Z a0 EL cw own n0 bytes maxL ret nm T h C S sf) {R0 O n d K : String} {index kk : Nat} {ty : FieldType} (w : (Cond.fieldLink own index R0 n d).before a0 Z = true) (via : Via Z R0 O n d) {a : Addr} {v old : Value} (F : Fld Z h a O n d old) (E : Exa Z h a K) (Ly : (Cond.lays K O n d).before a0 Z = true ∨ ((Cond.laysFinal K O n d).before a0 Z = true ∧ own = O ∧ nm = "<init>")) (wi : (Cond.instantiable K kk).before a0 Z = true) (hty : parseFieldDescriptor d = some ty) (hn : narrow ty v = v) (hf : fits ty v = true) (hq : n0 ≤ a) (hsf : Sf Z EL h sf a) {pc pc' : Nat} {L : Array Slot} {st : List Value} (hd : decode bytes pc = .ok (.putfield index, 3)) (hp : pc + 3 = pc')
    (k : ∀ T' h', Hs p l e R s m args below meth c Z a0 EL cw own n0 bytes maxL ret nm T' h' C S sf → Wr h h' a (RoadKit.slotOf Z O n d) v → Go p e below P (T'.setTop (mkF m pc' L st))) : Go p e below P (T.setTop (mkF m pc L (v :: .ref a :: st))) := by
  subst hp
  obtain ⟨hM, vm0, k0, locs, X, h1, h2, h3, h4, h5, h6, h7, h8, h9, hO⟩ := id H
  obtain ⟨T', h', X', e', W, st'⟩ := RoadKit.putF X H.exec h4 (host := "") h5 (Or.inl w) via h1 F E (Ly.imp id (fun q => ⟨q.1, q.2.1, hM.2.2.2.2.2.2.1.trans q.2.2⟩)) wi hty hn hf (g := mkF m pc L (v :: .ref a :: st)) rfl rfl (H.dec hd)
  exact Go.st st' (k T' h' (H.wr X' e' W hq (hsf.safe h4 h8) h2 h3 h4 h5 h6 h7 h8 h9 hO) W)
theorem G.stI (H : Hs p l e R s m args below meth c Z a0 EL cw own n0 bytes maxL ret nm T h C S sf) {a : Addr} {kc : ClassId} {z : Int32} {vs : List Value} {dv : Value} (A : Arv Z h a kc .int z vs dv) {j x : Int32} (hj : ¬ j < 0 ∧ j < z) {i : Nat} (hi : j.toNatClampNeg = i) (hlt : i < vs.length) (hq : n0 ≤ a) {pc pc' : Nat} {L : Array Slot} {st : List Value} (hd : decode bytes pc = .ok (.iastore, 1)) (hp : pc + 1 = pc')
    (k : ∀ T' h', Hs p l e R s m args below meth c Z a0 EL cw own n0 bytes maxL ret nm T' h' C S sf → Wr h h' a i (.int x) → Arv Z h' a kc .int z (vs.set i (.int x)) dv → Go p e below P (T'.setTop (mkF m pc' L st))) : Go p e below P (T.setTop (mkF m pc L (.int x :: .int j :: .ref a :: st))) := by
  subst hp; subst hi
  obtain ⟨hM, vm0, k0, locs, X, h1, h2, h3, h4, h5, h6, h7, h8, h9, hO⟩ := id H
  obtain ⟨cl, Ar, q1, S1, q3, H1, G1⟩ := A
  obtain ⟨T', h', X', e', W, st'⟩ := RoadKit.stI X H.exec h4 h1 Ar (inb_of S1 hj) (g := mkF m pc L (.int x :: .int j :: .ref a :: st)) rfl rfl (H.dec hd)
  exact Go.st st' (k T' h' (H.wr X' e' W hq (Safe.arr h4.alike Ar (by decide)) h2 h3 h4 h5 h6 h7 h8 h9 hO) W (Arv.set Ar q1 S1 q3 H1 G1 rfl W _ rfl hlt))
theorem G.stC (H : Hs p l e R s m args below meth c Z a0 EL cw own n0 bytes maxL ret nm T h C S sf) {a : Addr} {kc : ClassId} {z : Int32} {vs : List Value} {dv : Value} (A : Arv Z h a kc .char z vs dv) {j x : Int32} (hj : ¬ j < 0 ∧ j < z) {i : Nat} (hi : j.toNatClampNeg = i) (hlt : i < vs.length) (hq : n0 ≤ a) {y : Int32} (hy : nar .char x = y) {pc pc' : Nat} {L : Array Slot} {st : List Value} (hd : decode bytes pc = .ok (.castore, 1)) (hp : pc + 1 = pc')
    (k : ∀ T' h', Hs p l e R s m args below meth c Z a0 EL cw own n0 bytes maxL ret nm T' h' C S sf → Wr h h' a i (.int y) → Arv Z h' a kc .char z (vs.set i (.int y)) dv → Go p e below P (T'.setTop (mkF m pc' L st))) : Go p e below P (T.setTop (mkF m pc L (.int x :: .int j :: .ref a :: st))) := by
  subst hp; subst hi; subst hy
  obtain ⟨hM, vm0, k0, locs, X, h1, h2, h3, h4, h5, h6, h7, h8, h9, hO⟩ := id H
  obtain ⟨cl, Ar, q1, S1, q3, H1, G1⟩ := A
  obtain ⟨T', h', X', e', W, st'⟩ := RoadKit.stC X H.exec h4 h1 Ar (inb_of S1 hj) (g := mkF m pc L (.int x :: .int j :: .ref a :: st)) rfl rfl (H.dec hd)
  exact Go.st st' (k T' h' (H.wr X' e' W hq (Safe.arr h4.alike Ar (by decide)) h2 h3 h4 h5 h6 h7 h8 h9 hO) W (Arv.set Ar q1 S1 q3 H1 G1 (fits_nar_char x) W _ rfl hlt))
theorem G.stB (H : Hs p l e R s m args below meth c Z a0 EL cw own n0 bytes maxL ret nm T h C S sf) {a : Addr} {kc : ClassId} {z : Int32} {vs : List Value} {dv : Value} (A : Arv Z h a kc .byte z vs dv) {j x : Int32} (hj : ¬ j < 0 ∧ j < z) {i : Nat} (hi : j.toNatClampNeg = i) (hlt : i < vs.length) (hq : n0 ≤ a) (hsf : Sf Z EL h sf a) {y : Int32} (hy : nar .byte x = y) {pc pc' : Nat} {L : Array Slot} {st : List Value} (hd : decode bytes pc = .ok (.bastore, 1)) (hp : pc + 1 = pc')
    (k : ∀ T' h', Hs p l e R s m args below meth c Z a0 EL cw own n0 bytes maxL ret nm T' h' C S sf → Wr h h' a i (.int y) → Arv Z h' a kc .byte z (vs.set i (.int y)) dv → Go p e below P (T'.setTop (mkF m pc' L st))) : Go p e below P (T.setTop (mkF m pc L (.int x :: .int j :: .ref a :: st))) := by
  subst hp; subst hi; subst hy
  obtain ⟨hM, vm0, k0, locs, X, h1, h2, h3, h4, h5, h6, h7, h8, h9, hO⟩ := id H
  obtain ⟨cl, Ar, q1, S1, q3, H1, G1⟩ := A
  obtain ⟨T', h', X', e', W, st'⟩ := RoadKit.stB X H.exec h4 h1 Ar (inb_of S1 hj) (g := mkF m pc L (.int x :: .int j :: .ref a :: st)) rfl rfl (H.dec hd)
  exact Go.st st' (k T' h' (H.wr X' e' W hq (hsf.safe h4 h8) h2 h3 h4 h5 h6 h7 h8 h9 hO) W (Arv.set Ar q1 S1 q3 H1 G1 (fits_nar_byte x) W _ rfl hlt))
theorem G.stR (H : Hs p l e R s m args below meth c Z a0 EL cw own n0 bytes maxL ret nm T h C S sf) {a : Addr} {kc : ClassId} {ty : FieldType} {z : Int32} {vs : List Value} {dv : Value} (A : Arv Z h a kc ty z vs dv) (hty : ty.isReference = true) {j : Int32} {v : Value} (F : Sto Z h a v) (hv : v.isRef = true) (hj : ¬ j < 0 ∧ j < z) {i : Nat} (hi : j.toNatClampNeg = i) (hlt : i < vs.length) (hq : n0 ≤ a) {pc pc' : Nat} {L : Array Slot} {st : List Value} (hd : decode bytes pc = .ok (.aastore, 1)) (hp : pc + 1 = pc')
    (k : ∀ T' h', Hs p l e R s m args below meth c Z a0 EL cw own n0 bytes maxL ret nm T' h' C S sf → Wr h h' a i v → Arv Z h' a kc ty z (vs.set i v) dv → Go p e below P (T'.setTop (mkF m pc' L st))) : Go p e below P (T.setTop (mkF m pc L (v :: .int j :: .ref a :: st))) := by
  subst hp; subst hi
  obtain ⟨hM, vm0, k0, locs, X, h1, h2, h3, h4, h5, h6, h7, h8, h9, hO⟩ := id H
  obtain ⟨cl, Ar, q1, S1, q3, H1, G1⟩ := A
  obtain ⟨T', h', X', e', W, st'⟩ := RoadKit.stR X H.exec h4 h1 Ar (inb_of S1 hj) hty F (g := mkF m pc L (v :: .int j :: .ref a :: st)) rfl rfl (H.dec hd)
  exact Go.st st' (k T' h' (H.wr X' e' W hq (Safe.arr h4.alike Ar (by intro q; rw [q] at hty; cases hty)) h2 h3 h4 h5 h6 h7 h8 h9 hO) W (Arv.set Ar q1 S1 q3 H1 G1 (by rcases ref_cases hv with rfl | ⟨b, rfl⟩ <;> cases ty <;> first | rfl | cases hty) W _ rfl hlt))
/-! ## a String constant -/
theorem Hs.rebase {T' : State} {h' : Heap} {C' S' : Nat} {vm0 : Vm} {k1 : Nat} {locs : List Loc} (H : Hs p l e R s m args below meth c Z a0 EL cw own n0 bytes maxL ret nm T h C S sf) (hcw : cw) (X' : Stand p l e R (s.setVm T'.vm) m args below meth c T' locs C' S') (e' : T'.heap = h') (h2 : s.Since T'.vm k1) (h3 : k1 ≤ h'.size) (h4 : Z.Warmed39 T'.vm) (h5 : T'.vm.findClass own = some m.cls) (h6 : Fr n0 locs) (h7 : CHr Z EL s.vm s.heap vm0 h) (h7' : CHr Z EL vm0 h T'.vm h') (h8 : ∀ x ∈ sf, x < h.size ∧ Safe Z EL vm0 h x) (hO : Old Z n0 h') : Hs p l e R s m args below meth c Z a0 EL cw own n0 bytes maxL ret nm T' h' C' S' sf :=
  ⟨H.1, T'.vm, k1, locs, X', e', h2, h3, h4, h5, h6, h7.trans h7', fun x hx => ⟨Nat.lt_of_lt_of_le (h8 x hx).1 h7'.2.1, h7'.safe (h8 x hx).1 (h8 x hx).2⟩, Or.inl hcw, hO⟩
theorem G.ldcS (H : Hs p l e R s m args below meth c Z a0 EL cw own n0 bytes maxL ret nm T h C S sf) (hcw : cw) (wS : ∀ a ∈ Bundle.stringAtoms, a.before a0 Z = true) {index : Nat} {text : String} (w : (Cond.stringLink own index text).before a0 Z = true) (hmem : (own, index) ∈ EL) {vs : List Value} {z : Int32} (ht : (∀ c ∈ text.toList, c.toNat < 256) ∧ text.toList.map (fun c => Value.int (Jvm.Lit.byteI c.toNat.toUInt16)) = vs) (hz : ¬ z < 0) (hl : z.toNatClampNeg = vs.length) {n : Nat} (hn : 4 * text.toList.length ≤ n) (hbig : n ≤ 536870912) (hc : C + 2 ≤ R.cells) (hl' : S + (n + 4) ≤ R.slots) {pc pc' : Nat} {L : Array Slot} {st : List Value} (hd : decode bytes pc = .ok (.ldc index, 2)) (hp : pc + 2 = pc')
    (k : ∀ T' h' a b kb, Hs p l e R s m args below meth c Z a0 EL cw own n0 bytes maxL ret nm T' h' (C + 2) (S + (n + 4)) sf → Ext h h' → Exa Z h' a "java/lang/String" → Fld Z h' a "java/lang/String" "coder" "B" (.int 0) → Fld Z h' a "java/lang/String" "value" "[B" (.ref b) → Arv Z h' b kb .byte z vs (.int 0) → (∀ x ∈ sf, x ≠ a ∧ x ≠ b) → Go p e below P (T'.setTop (mkF m pc' L (.ref a :: st)))) : Go p e below P (T.setTop (mkF m pc L st)) := by
  subst hp
  obtain ⟨hM, vm0, k0, locs, X, h1, h2, h3, h4, h5, h6, h7, h8, h9, hO⟩ := id H
  obtain ⟨a, T', h', k1, b, kb, X', e', E, s2, s3, s4, s5, F1, F2, F3, F4, -, -, h7', -, hne, st'⟩ := RoadKit.ldcCH X H.exec h4 h5 w wS h1 h2 h3 hM.2.1 hmem h7.1 ht hz hl (g := mkF m pc L st) rfl (H.dec hd) hn hbig hc hl'
  exact Go.st st' (k T' h' a b kb (H.rebase hcw X' e' s2 s3 s4 s5 h6 h7 h7' h8 (hO.ext E)) E F1 F2 F3 F4 (fun x hx => hne x (h7'.safe (h8 x hx).1 (h8 x hx).2)))
theorem G.ldcO (H : Hs p l e R s m args below meth c Z a0 EL cw own n0 bytes maxL ret nm T h C S sf) (hcw : cw) (wS : ∀ a ∈ Bundle.stringAtoms, a.before a0 Z = true) {index : Nat} {text : String} (w : (Cond.stringLink own index text).before a0 Z = true) {n : Nat} (hn : 4 * text.toList.length ≤ n) (hbig : n ≤ 536870912) (hc : C + 2 ≤ R.cells) (hl' : S + (n + 4) ≤ R.slots) {pc pc' : Nat} {L : Array Slot} {st : List Value} (hd : decode bytes pc = .ok (.ldc index, 2)) (hp : pc + 2 = pc')
    (k : ∀ T' h' a, Hs p l e R s m args below meth c Z a0 EL cw own n0 bytes maxL ret nm T' h' (C + 2) (S + (n + 4)) sf → Ext h h' → Go p e below P (T'.setTop (mkF m pc' L (.ref a :: st)))) : Go p e below P (T.setTop (mkF m pc L st)) := by
  subst hp
  obtain ⟨hM, vm0, k0, locs, X, h1, h2, h3, h4, h5, h6, h7, h8, h9, hO⟩ := id H
  obtain ⟨a, T', h', k1, X', e', E, s2, s3, s4, s5, h7', -, st'⟩ := RoadKit.ldcOH X H.exec h4 h5 w wS h1 h2 h3 hM.2.1 h7.1 (g := mkF m pc L st) rfl (H.dec hd) hn hbig hc hl'
  exact Go.st st' (k T' h' a (H.rebase hcw X' e' s2 s3 s4 s5 h6 h7 h7' h8 (hO.ext E)) E)
/-! ## the end of a method -/
def FinP (s : State) (below : List Frame) (Z : State) (EL : List (String × Nat)) (cw : Prop) (n0 Cm Sm : Nat) (Q : Option Value → Heap → List Addr → Prop) : State → Outcome → Prop := fun u o =>
  u.status = .running ∧ Ended u below o ∧ ∃ v L so, o = .returned v ∧ Q v u.heap so ∧ Old Z n0 u.heap ∧ Fr n0 L ∧ CHr Z EL s.vm s.heap u.vm u.heap ∧ (∀ x ∈ so, x < u.heap.size ∧ Safe Z EL u.vm u.heap x) ∧ ReturnedEndW s o u L Cm Sm ∧ (cw ∨ FrameEnd s o u L Cm Sm)
theorem Hs.leave (H : Hs p l e R s m args below meth c Z a0 EL cw own n0 bytes maxL ret nm T h C S sf) {Cm Sm : Nat} {Q : Option Value → Heap → List Addr → Prop} {v : Option Value} {so : List Addr} (hv : ret = none → v = none) (hQ : Q v h so) (hso : ∀ x ∈ so, x ∈ sf) (hC : C ≤ Cm) (hS : S ≤ Sm) :
    ∃ fs, (∀ (f : JFrame) (acts : List Action), f.method = m → f.locked = none → f.entered = [] → (doReturn e (T.setTop f) acts v).1 = T.setFrames fs) ∧ FinP s below Z EL cw n0 Cm Sm Q (T.setFrames fs) (.returned v) := by
  obtain ⟨hM, vm0, k0, locs, X, h1, h2, h3, h4, h5, h6, h7, h8, h9, hO⟩ := H
  obtain ⟨-, hEL, -, -, hret, hlocks, -, -⟩ := hM
  obtain ⟨fs, hr, hrun, hended, hW, hsame⟩ := X.leave (v := v) (fun q => hv (hret.symm.trans q)) hlocks
  have hk : k0 ≤ (T.setFrames fs).heap.size := by show k0 ≤ T.heap.size; rw [h1]; exact h3
  obtain ⟨w1, w2, w3⟩ := h2.ended (U := T.setFrames fs) hW hk hsame
  have A := CHv.at X h4 hEL h7.1
  refine ⟨fs, hr, hrun, hended, v, locs, so, rfl, ?_, ?_, h6, ?_, ?_, ⟨⟨v, rfl⟩, w1, w2, w3.mono hC hS⟩, ?_⟩
  · show Q v T.heap so; rw [h1]; exact hQ
  · show Old Z n0 T.heap; rw [h1]; exact hO
  · show CHr Z EL s.vm s.heap T.vm T.heap; rw [h1]; exact h7.trans A
  · intro x hx
    show x < T.heap.size ∧ Safe Z EL T.vm T.heap x
    rw [h1]; exact ⟨(h8 x (hso x hx)).1, A.safe (h8 x (hso x hx)).1 (h8 x (hso x hx)).2⟩
  · exact h9.imp id (fun q => ⟨⟨v, rfl⟩, State.WarmedH.trans (t := s.setVm vm0) q hW, w3.mono hC hS⟩)
theorem G.retG (H : Hs p l e R s m args below meth c Z a0 EL cw own n0 bytes maxL ret nm T h C S sf) {Cm Sm : Nat} {Q : Option Value → Heap → List Addr → Prop} {so : List Addr} {pc : Nat} {L : Array Slot} {w : Value} {t : FieldType} {i : Instr} {rest : List Value} (hret : ret = some t) (hn : narrow t w = w)
    (hi : (i = .ireturn ∧ (t = .int ∨ t = .boolean ∨ t = .byte ∨ t = .char ∨ t = .short) ∧ ∃ z, w = .int z) ∨ (i = .lreturn ∧ t = .long ∧ ∃ z, w = .long z) ∨ (i = .dreturn ∧ t = .double ∧ ∃ z, w = .double z) ∨ (i = .freturn ∧ t = .float ∧ ∃ z, w = .float z) ∨ (i = .areturn ∧ t.isReference = true ∧ w.isRef = true))
    (hd : decode bytes pc = .ok (i, 1)) (hso : ∀ x ∈ so, x ∈ sf) (hC : C ≤ Cm) (hS : S ≤ Sm) (hQ : Q (some w) h so) : Go p e below (FinP s below Z EL cw n0 Cm Sm Q) (T.setTop (mkF m pc L (w :: rest))) := by
  obtain ⟨fs, hr, hF⟩ := H.leave (Q := Q) (v := some w) (Cm := Cm) (Sm := Sm) (fun q => by rw [hret] at q; cases q) hQ hso hC hS
  obtain ⟨hM, vm0, k0, locs, X, -⟩ := id H
  exact ⟨_, _, retOut X H.exec (hM.2.2.2.2.1.trans hret) hn hi (H.dec hd) hr, hF⟩
theorem G.retI (H : Hs p l e R s m args below meth c Z a0 EL cw own n0 bytes maxL ret nm T h C S sf) {Cm Sm : Nat} {Q : Option Value → Heap → List Addr → Prop} {so : List Addr} {pc : Nat} {L : Array Slot} {z : Int32} {rest : List Value} (hret : ret = some .int) (hd : decode bytes pc = .ok (.ireturn, 1)) (hso : ∀ x ∈ so, x ∈ sf) (hC : C ≤ Cm) (hS : S ≤ Sm) (hQ : Q (some (.int z)) h so) : Go p e below (FinP s below Z EL cw n0 Cm Sm Q) (T.setTop (mkF m pc L (.int z :: rest))) :=
  G.retG H hret rfl (Or.inl ⟨rfl, Or.inl rfl, z, rfl⟩) hd hso hC hS hQ
theorem G.retN (H : Hs p l e R s m args below meth c Z a0 EL cw own n0 bytes maxL ret nm T h C S sf) {Cm Sm : Nat} {Q : Option Value → Heap → List Addr → Prop} {so : List Addr} {pc : Nat} {L : Array Slot} {z : Int32} {t : FieldType} {rest : List Value} (hret : ret = some t) (ht : t = .boolean ∨ t = .byte ∨ t = .char ∨ t = .short) (hd : decode bytes pc = .ok (.ireturn, 1)) (hso : ∀ x ∈ so, x ∈ sf) (hC : C ≤ Cm) (hS : S ≤ Sm) (hQ : Q (some (.int (nar t z))) h so) : Go p e below (FinP s below Z EL cw n0 Cm Sm Q) (T.setTop (mkF m pc L (.int z :: rest))) := by
  obtain ⟨fs, hr, hF⟩ := H.leave (Q := Q) (v := some (.int (nar t z))) (Cm := Cm) (Sm := Sm) (fun q => by rw [hret] at q; cases q) hQ hso hC hS
  obtain ⟨hM, vm0, k0, locs, X, -⟩ := id H
  exact ⟨_, _, RoadKit.retN X H.exec (hM.2.2.2.2.1.trans hret) ht (H.dec hd) hr, hF⟩
theorem G.retA (H : Hs p l e R s m args below meth c Z a0 EL cw own n0 bytes maxL ret nm T h C S sf) {Cm Sm : Nat} {Q : Option Value → Heap → List Addr → Prop} {so : List Addr} {pc : Nat} {L : Array Slot} {w : Value} {t : FieldType} {rest : List Value} (hret : ret = some t) (ht : t.isReference = true) (hw : w.isRef = true) (hd : decode bytes pc = .ok (.areturn, 1)) (hso : ∀ x ∈ so, x ∈ sf) (hC : C ≤ Cm) (hS : S ≤ Sm) (hQ : Q (some w) h so) : Go p e below (FinP s below Z EL cw n0 Cm Sm Q) (T.setTop (mkF m pc L (w :: rest))) :=
  G.retG H hret (by rcases ref_cases hw with rfl | ⟨a, rfl⟩ <;> cases t <;> first | rfl | cases ht) (Or.inr (Or.inr (Or.inr (Or.inr ⟨rfl, ht, hw⟩)))) hd hso hC hS hQ
theorem G.retV (H : Hs p l e R s m args below meth c Z a0 EL cw own n0 bytes maxL ret nm T h C S sf) {Cm Sm : Nat} {Q : Option Value → Heap → List Addr → Prop} {so : List Addr} {pc : Nat} {L : Array Slot} (hret : ret = none) (hd : decode bytes pc = .ok (.return_, 1)) (hso : ∀ x ∈ so, x ∈ sf) (hC : C ≤ Cm) (hS : S ≤ Sm) (hQ : Q none h so) : Go p e below (FinP s below Z EL cw n0 Cm Sm Q) (T.setTop (mkF m pc L [])) := by
  obtain ⟨fs, hr, hF⟩ := H.leave (Q := Q) (v := none) (Cm := Cm) (Sm := Sm) (fun _ => rfl) hQ hso hC hS
  obtain ⟨hM, vm0, k0, locs, X, -⟩ := id H
  exact ⟨_, _, X.returnOut H.exec (hM.2.2.2.2.1.trans hret) (H.dec hd) hr, hF⟩
/-! ## a method's contract -/
def Met (Z : State) (a0 : Array Value) (EL : List (String × Nat)) (cw : Prop) (n0 : Nat) (l : Launch) (y : MethodName) (bytes : ByteArray) (maxL : Nat) (ret : Option FieldType) (rm : Room) (as' : Array Value) (h : Heap) (sfI : List Addr) (Q : Option Value → Heap → List Addr → Prop) : Prop :=
  ∀ ws, MetFree l y (head1 (Cond.code y bytes maxL ret :: ws) rm) (fun a U => a = as' ∧ Z.Warmed39 U.vm ∧ U.heap = h ∧ CHv Z EL U.vm h ∧ ∀ x ∈ sfI, x < h.size ∧ Safe Z EL U.vm h x) (fun _ _ _ _ _ => True)
    (fun _ U o U' => ∃ v L so, o = .returned v ∧ Q v U'.heap so ∧ Old Z n0 U'.heap ∧ Fr n0 L ∧ CHr Z EL U.vm U.heap U'.vm U'.heap ∧ (∀ x ∈ so, x < U'.heap.size ∧ Safe Z EL U'.vm U'.heap x) ∧ ReturnedEndW U o U' L rm.cells rm.slots ∧ (cw ∨ FrameEnd U o U' L rm.cells rm.slots))
theorem Met.of {y : MethodName} {rm : Room} {as' : Array Value} {sfI : List Addr} {Q : Option Value → Heap → List Addr → Prop} {L0 : Array Slot} (hEL : EW Z a0 EL) (hpn : plainFor y = true) (hO : Old Z n0 h) (hL : Jvm.Sym.laidSlots as'.toList ++ List.replicate (maxL - (Jvm.Sym.laidSlots as'.toList).length) .unset = L0.toList)
    (body : ∀ (p : Program) (e : Env) (s : State) (m : MethodId) (below : List Frame) (meth : Method) (c : Code) (T : State), Hs p l e rm s m as' below meth c Z a0 EL cw y.cls n0 bytes maxL ret y.name T h 0 0 sfI → Go p e below (FinP s below Z EL cw n0 rm.cells rm.slots Q) (T.setTop (mkF m 0 L0 []))) : Met Z a0 EL cw n0 l y bytes maxL ret rm as' h sfI Q := by
  intro ws
  refine MetFree.of_bodySF hpn hisR ?_
  intro p e s m args below meth c s₁ Bd hml hP hK
  obtain ⟨rfl, hZ, hh, hC, hs⟩ := hP
  have X0 : Stand p l e rm (s.setVm s.vm) m args below meth c s₁ [] 0 0 := Stand.of_body Bd
  have e0 : s₁.heap = h := by rw [← hh, Bd.state]; rfl
  have H : Hs p l e rm s m args below meth c Z a0 EL cw y.cls n0 bytes maxL ret y.name s₁ h 0 0 sfI :=
    ⟨⟨Bd.exec, hEL, Bd.bytes, hml, Bd.returns, Bd.notSynchronized, (name_of_methodNamed Bd.named Bd.method).1, by rw [hh, ← hO.1]; exact hO.2.1⟩, s.vm, s.heap.size, [], X0, e0, (State.WarmedH.refl s).since _, by rw [hh]; exact Nat.le_refl _, hZ, findClass_of_methodNamed Bd.named, Fr.nil n0, by rw [hh]; exact CHr.refl hC, hs, Or.inr (State.WarmedH.refl s), hO⟩
  obtain ⟨u, o, h1, h2, h3, v, L, so, r1, r2, rO, r3, r4, r5, r6, r7⟩ := body p e s m below meth c s₁ H
  exact ⟨u, o, (XT.entry hL).trans h1, h2, h3, v, L, so, r1, r2, rO, r3, r4, r5, r6, r7⟩
theorem Met.backS {y : MethodName} {rm : Room} {as' : Array Value} {sfI : List Addr} {Q : Option Value → Heap → List Addr → Prop} {vm0 : Vm} {len W : Nat} (M : Met Z a0 EL cw n0 l y bytes maxL ret rm as' h sfI Q) (hEL : EW Z a0 EL) (hZ : Z.Warmed39 vm0) (wc : (Cond.code y bytes maxL ret).before a0 Z = true) (wz : (Cond.initialized y.cls).before a0 Z = true) (hf : rm.frames + 1 ≤ R.frames) (hl : W + (maxL + 11) + rm.locals ≤ R.locals) (H : CHv Z EL vm0 h) (hs : ∀ x ∈ sfI, x < h.size ∧ Safe Z EL vm0 h x) :
    BackS l R p e below (s.setVm vm0) args y len W (fun A a => a = as' ∧ A.U.heap = h ∧ A.cells + rm.cells ≤ R.cells ∧ A.slots + rm.slots ≤ R.slots)
      (fun A _ v B => ∃ L so, Q v B.U.heap so ∧ Old Z n0 B.U.heap ∧ Fr n0 L ∧ B.locs = A.locs ++ L ∧ B.cells = A.cells + rm.cells ∧ B.slots = A.slots + rm.slots ∧ CHr Z EL vm0 h B.U.vm B.U.heap ∧ (∀ x ∈ so, x < B.U.heap.size ∧ Safe Z EL B.U.vm B.U.heap x) ∧ (cw ∨ (s.setVm vm0).WarmedH B.U.vm)) :=
  BackS.of_freeW (bytes := bytes) (maxL := maxL) (ret := ret)
    (E := fun _ first o t L k n => k = rm.cells ∧ n = rm.slots ∧ ∃ v so, o = .returned v ∧ Q v t.heap so ∧ Old Z n0 t.heap ∧ Fr n0 L ∧ CHr Z EL first.vm first.heap t.vm t.heap ∧ (∀ x ∈ so, x < t.heap.size ∧ Safe Z EL t.vm t.heap x) ∧ (cw ∨ first.WarmedH t.vm))
    (M []) hf hl
    (fun m meth c A a Y hp => have hU : Z.Warmed39 A.U.vm := wtrans (s := s.setVm vm0) hZ Y.warmed
      ⟨by show (Cond.and _ .tt).before a A.U = true; rw [Cond.before_and, mv hU wc]; rfl, mv hU wc, mv hU wz, hp.2.2.1, hp.2.2.2⟩)
    (fun m meth c A a g mk Y hp => by
      have A1 := CHv.at Y hZ hEL H
      exact ⟨hp.1, wtrans (s := s.setVm vm0) hZ Y.warmed, hp.2.1, A1.1, fun x hx => ⟨(hs x hx).1, A1.safe (hs x hx).1 (hs x hx).2⟩⟩)
    (fun _ _ _ _ _ _ _ _ _ => trivial)
    (fun _ _ _ _ ⟨v, L, so, h1, h2, hO, h3, h4, h5, h6, h7⟩ => ⟨L, _, _, h6, rfl, rfl, v, so, h1, h2, hO, h3, h4, h5, h7.imp id (fun q => q.2.1)⟩)
    (fun m meth c A a g mk v t L k n Y hp _ _ ⟨e1, e2, v', so, e3, e4, eO, e5, e6, e7, e8⟩ => by
      cases e3; subst e1 e2
      refine ⟨L, so, e4, eO, e5, rfl, rfl, rfl, (CHv.at Y hZ hEL H).trans ?_, e7, e8.imp id (fun q => State.WarmedH.trans (t := A.U) Y.warmed q)⟩
      rw [← hp.2.1]; exact e6)
/-- behind a call -/
theorem Hs.behind {vm0 vm₁ : Vm} {k0 : Nat} {locs : List Loc} {B : Pt} {L' : List Loc} {so : List Addr} {kc ks : Nat} (H : Hs p l e R s m args below meth c Z a0 EL cw own n0 bytes maxL ret nm T h C S sf) (h2 : s.Since vm0 k0) (h3 : k0 ≤ h.size) (h4 : Z.Warmed39 vm0) (h5 : vm0.findClass own = some m.cls) (h6 : Fr n0 locs) (h7 : CHr Z EL s.vm s.heap vm0 h) (h8 : ∀ x ∈ sf, x < h.size ∧ Safe Z EL vm0 h x) (h9 : cw ∨ s.WarmedH vm0)
    (X' : Stand p l e R ((s.setVm vm0).setVm B.U.vm) m args below meth c B.U B.locs B.cells B.slots) (hS : (s.setVm vm0).Since B.U.vm B.U.heap.size) (hg : h.size ≤ B.U.heap.size) (r1 : Fr n0 L') (r2 : B.locs = locs ++ L') (r3 : B.cells = C + kc) (r4 : B.slots = S + ks) (r5 : CHr Z EL vm0 h B.U.vm B.U.heap) (r6 : ∀ x ∈ so, x < B.U.heap.size ∧ Safe Z EL B.U.vm B.U.heap x) (r7 : cw ∨ (s.setVm vm0).WarmedH B.U.vm) (rO : Old Z n0 B.U.heap) : Hs p l e R s m args below meth c Z a0 EL cw own n0 bytes maxL ret nm B.U B.U.heap (C + kc) (S + ks) (so ++ sf) := by
  obtain ⟨Y, y1, y2, y3⟩ := rebS (Z := Z) (own := own) h2 h3 X' hS hg h4 h5
  refine ⟨H.1, B.U.vm, B.U.heap.size, B.locs, by rw [← r3, ← r4]; exact Y, rfl, y1, Nat.le_refl _, y2, y3, by rw [r2]; exact Fr.app h6 r1, h7.trans r5, fun x hx => ?_, ?_, rO⟩
  · rcases List.mem_append.mp hx with hx | hx
    · exact r6 x hx
    · exact ⟨Nat.lt_of_lt_of_le (h8 x hx).1 hg, r5.safe (h8 x hx).1 (h8 x hx).2⟩
  · rcases h9 with q | q
    · exact Or.inl q
    · exact r7.imp id (fun r => State.WarmedH.trans (t := s.setVm vm0) q r)
theorem G.callS (H : Hs p l e R s m args below meth c Z a0 EL cw own n0 bytes maxL ret nm T h C S sf) {y : MethodName} {yb : ByteArray} {ym : Nat} {yr : Option FieldType} {rm : Room} {as' : Array Value} {sfI : List Addr} {Q : Option Value → Heap → List Addr → Prop} (M : Met Z a0 EL cw n0 l y yb ym yr rm as' h sfI Q) {index : Nat} (w1 : (Cond.methodLink own index y).before a0 Z = true) (w2 : (Cond.static y).before a0 Z = true) (wz : (Cond.initialized y.cls).before a0 Z = true) (wc : (Cond.code y yb ym yr).before a0 Z = true) (hy : y.cls ≠ "java/lang/invoke/MethodHandle" ∧ y.cls ≠ "java/lang/invoke/VarHandle")
    {argsL rest st : List Value} {W : Nat} {pc pc' : Nat} {L : Array Slot} (hL : L.size = maxL) (has : argsL.toArray = as') (hlen : ∀ sig, parseMethodDescriptor y.desc = some sig → argsL.length = sig.parameters.length) (hst : st = argsL.reverse ++ rest) (hW : (rest.map fun v => v.category).sum = W) (hd : decode bytes pc = .ok (.invokestatic index, 3)) (hp : pc + 3 = pc') (hf : rm.frames + 1 ≤ R.frames) (hl : W + (ym + 11) + rm.locals ≤ R.locals) (hc : C + rm.cells ≤ R.cells) (hsl : S + rm.slots ≤ R.slots) (hsf : ∀ x ∈ sfI, x ∈ sf)
    (k : ∀ T' h' v so, Hs p l e R s m args below meth c Z a0 EL cw own n0 bytes maxL ret nm T' h' (C + rm.cells) (S + rm.slots) (so ++ sf) → Q v h' so → Go p e below P (T'.setTop (mkF m pc' L (v.toList ++ rest)))) : Go p e below P (T.setTop (mkF m pc L st)) := by
  subst hp; subst has
  obtain ⟨hM, vm0, k0, locs, X, h1, h2, h3, h4, h5, h6, h7, h8, h9, hO⟩ := id H
  obtain ⟨v, vm₁, B, hw, X', hS, hg, ⟨L', so, q1, rO, r1, r2, r3, r4, r5, r6, r7⟩, st'⟩ := RoadKit.callSS X H.exec h5 (mvT (s := s.setVm vm0) h4 w1) (mvT (s := s.setVm vm0) h4 w2) (mvT (s := s.setVm vm0) h4 wz) (mvT (s := s.setVm vm0) h4 wc) hy (M.backS (W := W) hM.2.1 h4 wc wz hf hl h7.1 (fun x hx => h8 x (hsf x hx))) (g := mkF m pc L st) rfl (by rw [hM.2.2.2.1]; exact hL) hlen hst (by show 2 * 0 + _ ≤ _; omega) (H.dec hd) (fun _ _ => ⟨rfl, h1, hc, hsl⟩)
  rw [h1] at hg
  exact Go.tr st' (k _ _ v so (H.behind (vm₁ := vm₁) h2 h3 h4 h5 h6 h7 h8 h9 X' hS hg r1 r2 r3 r4 r5 r6 r7 rO) q1)
theorem G.callI (H : Hs p l e R s m args below meth c Z a0 EL cw own n0 bytes maxL ret nm T h C S sf) {y : MethodName} {yb : ByteArray} {ym : Nat} {rm : Room} {as' : Array Value} {sfI : List Addr} {Q : Option Value → Heap → List Addr → Prop} (M : Met Z a0 EL cw n0 l y yb ym none rm as' h sfI Q) {index : Nat} (hy1 : y.name = "<init>") (w1 : (Cond.methodLink own index y).before a0 Z = true) (w2 : (Cond.instanceMethod y).before a0 Z = true) (wz : (Cond.initialized y.cls).before a0 Z = true) (wc : (Cond.code y yb ym none).before a0 Z = true) (hy : y.cls ≠ "java/lang/invoke/MethodHandle" ∧ y.cls ≠ "java/lang/invoke/VarHandle")
    {a : Addr} {argsL rest st : List Value} {W : Nat} {pc pc' : Nat} {L : Array Slot} (hL : L.size = maxL) (has : (Value.ref a :: argsL).toArray = as') (hlen : ∀ sig, parseMethodDescriptor y.desc = some sig → argsL.length = sig.parameters.length) (hst : st = argsL.reverse ++ .ref a :: rest) (hW : (rest.map fun v => v.category).sum = W) (hd : decode bytes pc = .ok (.invokespecial index, 3)) (hp : pc + 3 = pc') (hf : rm.frames + 1 ≤ R.frames) (hl : W + (ym + 11) + rm.locals ≤ R.locals) (hc : C + rm.cells ≤ R.cells) (hsl : S + rm.slots ≤ R.slots) (hsf : ∀ x ∈ sfI, x ∈ sf)
    (k : ∀ T' h' v so, Hs p l e R s m args below meth c Z a0 EL cw own n0 bytes maxL ret nm T' h' (C + rm.cells) (S + rm.slots) (so ++ sf) → Q v h' so → Go p e below P (T'.setTop (mkF m pc' L (v.toList ++ rest)))) : Go p e below P (T.setTop (mkF m pc L st)) := by
  subst hp; subst has
  obtain ⟨hM, vm0, k0, locs, X, h1, h2, h3, h4, h5, h6, h7, h8, h9, hO⟩ := id H
  obtain ⟨v, vm₁, B, hw, X', hS, hg, ⟨L', so, q1, rO, r1, r2, r3, r4, r5, r6, r7⟩, st'⟩ := X.specialBackS H.exec hy1 h5 (mvT (s := s.setVm vm0) h4 w1) (mvT (s := s.setVm vm0) h4 w2) (mvT (s := s.setVm vm0) h4 wc) hy (M.backS (W := W) hM.2.1 h4 wc wz hf hl h7.1 (fun x hx => h8 x (hsf x hx))) (g := mkF m pc L st) rfl (by rw [hM.2.2.2.1]; exact hL) (Steps.refl _) (a := a) hlen hst (by show 2 * 0 + _ ≤ _; omega) (H.dec hd) (fun _ _ => ⟨rfl, h1, hc, hsl⟩)
  rw [h1] at hg
  exact Go.tr st' (k _ _ v so (H.behind (vm₁ := vm₁) h2 h3 h4 h5 h6 h7 h8 h9 X' hS hg r1 r2 r3 r4 r5 r6 r7 rO) q1)
theorem G.callV (H : Hs p l e R s m args below meth c Z a0 EL cw own n0 bytes maxL ret nm T h C S sf) {y z : MethodName} {D : String} {yb : ByteArray} {ym : Nat} {yr : Option FieldType} {rm : Room} {as' : Array Value} {sfI : List Addr} {Q : Option Value → Heap → List Addr → Prop} (M : Met Z a0 EL cw n0 l z yb ym yr rm as' h sfI Q) {index : Nat} (w1 : (Cond.methodLink own index y).before a0 Z = true) (w2 : (Cond.declares y).before a0 Z = true) (wn : ∀ s' : State, Z.Warmed39 s'.vm → NotFace s' y) (w3 : (Cond.selects D y z).before a0 Z = true) (w4 : (Cond.instanceMethod z).before a0 Z = true) (wz : (Cond.initialized z.cls).before a0 Z = true) (wc : (Cond.code z yb ym yr).before a0 Z = true) (hy : y.cls ≠ "java/lang/invoke/MethodHandle" ∧ y.cls ≠ "java/lang/invoke/VarHandle")
    {a : Addr} (E : Exa Z h a D) {argsL rest st : List Value} {W : Nat} {pc pc' : Nat} {L : Array Slot} (hL : L.size = maxL) (has : (Value.ref a :: argsL).toArray = as') (hlen : ∀ sig, parseMethodDescriptor y.desc = some sig → argsL.length = sig.parameters.length) (hst : st = argsL.reverse ++ .ref a :: rest) (hW : (rest.map fun v => v.category).sum = W) (hd : decode bytes pc = .ok (.invokevirtual index, 3)) (hp : pc + 3 = pc') (hf : rm.frames + 1 ≤ R.frames) (hl : W + (ym + 11) + rm.locals ≤ R.locals) (hc : C + rm.cells ≤ R.cells) (hsl : S + rm.slots ≤ R.slots) (hsf : ∀ x ∈ sfI, x ∈ sf)
    (k : ∀ T' h' v so, Hs p l e R s m args below meth c Z a0 EL cw own n0 bytes maxL ret nm T' h' (C + rm.cells) (S + rm.slots) (so ++ sf) → Q v h' so → Go p e below P (T'.setTop (mkF m pc' L (v.toList ++ rest)))) : Go p e below P (T.setTop (mkF m pc L st)) := by
  subst hp; subst has
  obtain ⟨hM, vm0, k0, locs, X, h1, h2, h3, h4, h5, h6, h7, h8, h9, hO⟩ := id H
  obtain ⟨cq, kq, qa, qb, qc⟩ := isOf (s := s.setVm vm0) h4 h1 E
  obtain ⟨v, vm₁, B, hw, X', hS, hg, ⟨L', so, q1, rO, r1, r2, r3, r4, r5, r6, r7⟩, st'⟩ := X.virtualBackS H.exec h5 (mvT (s := s.setVm vm0) h4 w1) (mvT (s := s.setVm vm0) h4 w2) (wn (s.setVm vm0) h4) (mvT (s := s.setVm vm0) h4 w3) (mvT (s := s.setVm vm0) h4 w4) hy (M.backS (W := W) hM.2.1 h4 wc wz hf hl h7.1 (fun x hx => h8 x (hsf x hx))) qa qc (g := mkF m pc L st) rfl (by rw [hM.2.2.2.1]; exact hL) (Steps.refl _) hlen hst (by show 2 * 0 + _ ≤ _; omega) (H.dec hd) (fun _ _ => ⟨rfl, h1, hc, hsl⟩)
  rw [h1] at hg
  exact Go.tr st' (k _ _ v so (H.behind (vm₁ := vm₁) h2 h3 h4 h5 h6 h7 h8 h9 X' hS hg r1 r2 r3 r4 r5 r6 r7 rO) q1)
theorem nf_sel {y : MethodName} {D : String} (w : (Cond.selects D y y).before a0 Z = true) : ∀ s' : State, Z.Warmed39 s'.vm → NotFace s' y := fun s' hZ => notFace_of_selects (args := #[]) (mvT (s := s') hZ w)
/-! ## numbers -/
theorem own_and255 (x : Int32) : ¬ (x &&& 255) < 0 ∧ ¬ (255 : Int32) < (x &&& 255) := by
  have h : (x &&& 255).toBitVec.toNat < 256 := by
    simp only [Int32.toBitVec_and, BitVec.toNat_and]
    exact Nat.lt_succ_of_le Nat.and_le_right
  have h2 : (x &&& 255).toInt = ((x &&& 255).toBitVec.toNat : Int) := by
    show (x &&& 255).toBitVec.toInt = _
    rw [BitVec.toInt_eq_toNat_of_lt (by omega)]
  rw [Int32.lt_iff_toInt_lt, Int32.lt_iff_toInt_lt, h2]
  have e0 : (0 : Int32).toInt = 0 := rfl
  have e1 : (255 : Int32).toInt = 255 := rfl
  omega
theorem own_u16 {x : Int32} (h : ¬ x < 0 ∧ ¬ (255 : Int32) < x) : ¬ x < 0 ∧ ¬ (65535 : Int32) < x := by
  obtain ⟨h0, h1⟩ := h
  rw [Int32.lt_iff_toInt_lt] at h0 h1
  refine ⟨by rw [Int32.lt_iff_toInt_lt]; exact h0, ?_⟩
  rw [Int32.lt_iff_toInt_lt]
  have e1 : (255 : Int32).toInt = 255 := rfl
  have e2 : (65535 : Int32).toInt = 65535 := rfl
  omega
theorem own_c16 {x : Int32} (h : ¬ x < 0 ∧ ¬ (65535 : Int32) < x) : x.toUInt32.toUInt16.toUInt32.toInt32 = x := by
  obtain ⟨h0, h1⟩ := h
  rw [Int32.lt_iff_toInt_lt] at h0 h1
  have e0 : (0 : Int32).toInt = 0 := rfl
  have e2 : (65535 : Int32).toInt = 65535 := rfl
  have hb : x.toBitVec.toNat < 65536 := by
    have q : x.toBitVec.toInt = x.toInt := rfl
    have r := BitVec.toInt_eq_toNat_cond x.toBitVec
    split at r <;> omega
  apply Int32.toBitVec_inj.mp
  apply BitVec.eq_of_toNat_eq
  have e : x.toUInt32.toUInt16.toUInt32.toInt32.toBitVec.toNat = x.toUInt32.toUInt16.toUInt32.toNat := rfl
  rw [e, UInt16.toNat_toUInt32, UInt32.toNat_toUInt16]
  show x.toBitVec.toNat % 2 ^ 16 = _
  omega
theorem own_narC {x : Int32} (h : ¬ x < 0 ∧ ¬ (65535 : Int32) < x) : nar .char x = x := own_c16 h
theorem own_bool {x : Int32} (h : x = 0 ∨ x = 1) : nar .boolean x = x := by rcases h with rfl | rfl <;> rfl
theorem own_and255L (x : Int64) : ¬ (x &&& 255).toInt32 < 0 ∧ ¬ (255 : Int32) < (x &&& 255).toInt32 := by
  have h : (x &&& 255).toBitVec.toNat < 256 := by
    simp only [Int64.toBitVec_and, BitVec.toNat_and]
    exact Nat.lt_succ_of_le Nat.and_le_right
  have h1 : (x &&& 255).toInt32.toBitVec.toNat = (x &&& 255).toBitVec.toNat := by
    rw [Int64.toBitVec_toInt32, BitVec.signExtend_eq_setWidth_of_le _ (by decide), BitVec.toNat_setWidth]
    exact Nat.mod_eq_of_lt (by omega)
  have h2 : (x &&& 255).toInt32.toInt = ((x &&& 255).toInt32.toBitVec.toNat : Int) := by
    show (x &&& 255).toInt32.toBitVec.toInt = _
    rw [BitVec.toInt_eq_toNat_of_lt (by omega)]
  rw [Int32.lt_iff_toInt_lt, Int32.lt_iff_toInt_lt, h2, h1]
  have e0 : (0 : Int32).toInt = 0 := rfl
  have e1 : (255 : Int32).toInt = 255 := rfl
  omega
theorem own_rem {x : Int32} {k : Int32} (hk : 0 < k.toInt) : 0 ≤ ((x &&& 2147483647) % k).toInt ∧ ((x &&& 2147483647) % k).toInt < k.toInt := by
  have h : (x &&& 2147483647).toBitVec.toNat < 2 ^ 31 := by
    simp only [Int32.toBitVec_and, BitVec.toNat_and]
    exact Nat.lt_of_le_of_lt Nat.and_le_right (by decide)
  have h2 : (x &&& 2147483647).toInt = ((x &&& 2147483647).toBitVec.toNat : Int) := by
    show (x &&& 2147483647).toBitVec.toInt = _
    rw [BitVec.toInt_eq_toNat_of_lt (by omega)]
  rw [Int32.toInt_mod, h2]
  exact ⟨Int.tmod_nonneg _ (by omega), Int.tmod_lt_of_pos _ hk⟩
theorem own_andn (x k : Int32) (n : Nat) (hn : k.toBitVec.toNat = n) (h31 : n < 2 ^ 31) : 0 ≤ (x &&& k).toInt ∧ (x &&& k).toInt ≤ n := by
  have h : (x &&& k).toBitVec.toNat ≤ n := by
    simp only [Int32.toBitVec_and, BitVec.toNat_and]
    rw [← hn]; exact Nat.and_le_right
  have h2 : (x &&& k).toInt = ((x &&& k).toBitVec.toNat : Int) := by
    show (x &&& k).toBitVec.toInt = _
    rw [BitVec.toInt_eq_toNat_of_lt (by omega)]
  rw [h2]; omega
theorem own_and3 (x : Int32) : x &&& 3 = 0 ∨ x &&& 3 = 1 ∨ x &&& 3 = 2 ∨ x &&& 3 = 3 := by
  obtain ⟨h1, h2⟩ := own_andn x 3 3 rfl (by decide)
  generalize x &&& 3 = k at h1 h2
  have key : ∀ j : Int32, k.toInt = j.toInt → k = j := fun j h => Int32.toInt_inj.mp h
  have hs : k.toInt = 0 ∨ k.toInt = 1 ∨ k.toInt = 2 ∨ k.toInt = 3 := by omega
  rcases hs with h | h | h | h
  · exact Or.inl (key 0 h)
  · exact Or.inr (Or.inl (key 1 h))
  · exact Or.inr (Or.inr (Or.inl (key 2 h)))
  · exact Or.inr (Or.inr (Or.inr (key 3 h)))
theorem own_b8 {x k : Int32} (h : ¬ x < 0 ∧ ¬ (255 : Int32) < x) (hk : ¬ k < 0 ∧ ¬ (127 : Int32) < k) : x.toInt8.toInt32 = k ↔ x = k := by
  have t : ∀ j : Fin 256, ∀ i : Fin 128, (Int32.ofNat j.val).toInt8.toInt32 = Int32.ofNat i.val → j.val = i.val := by decide +kernel
  have nat : ∀ y : Int32, ¬ y < 0 → ∃ n : Nat, y.toInt = n ∧ y = Int32.ofNat n := fun y hy => by
    rw [Int32.lt_iff_toInt_lt] at hy
    have e0 : (0 : Int32).toInt = 0 := rfl
    have hb := y.toInt_lt
    obtain ⟨n, hn⟩ : ∃ n : Nat, y.toInt = n := ⟨y.toInt.toNat, by omega⟩
    exact ⟨n, hn, Int32.toInt_inj.mp (by rw [hn, Int32.toInt_ofNat_small (by omega)])⟩
  obtain ⟨n, hn, rfl⟩ := nat x h.1
  obtain ⟨i, hi, rfl⟩ := nat k hk.1
  have h1 := h.2; have k1 := hk.2
  rw [Int32.lt_iff_toInt_lt] at h1 k1
  have e1 : (255 : Int32).toInt = 255 := rfl
  have e2 : (127 : Int32).toInt = 127 := rfl
  constructor
  · intro q
    have := t ⟨n, by omega⟩ ⟨i, by omega⟩ q
    simp only at this
    rw [this]
  · intro q
    rw [q]
    have u : ∀ i : Fin 128, (Int32.ofNat i.val).toInt8.toInt32 = Int32.ofNat i.val := by decide +kernel
    exact u ⟨i, by omega⟩
theorem own_v3 (x : Int32) : (XT.ushr x 8 &&& 255) % 3 = 0 ∨ (XT.ushr x 8 &&& 255) % 3 = 1 ∨ (XT.ushr x 8 &&& 255) % 3 = 2 := by
  obtain ⟨a1, a2⟩ := own_andn (XT.ushr x 8) 255 255 rfl (by decide)
  generalize XT.ushr x 8 &&& 255 = y at a1 a2
  have h1 : 0 ≤ (y % 3).toInt ∧ (y % 3).toInt < 3 := by
    rw [Int32.toInt_mod]
    exact ⟨Int.tmod_nonneg _ a1, Int.tmod_lt_of_pos _ (by decide)⟩
  obtain ⟨h1, h2⟩ := h1
  generalize y % 3 = k at h1 h2
  have key : ∀ j : Int32, k.toInt = j.toInt → k = j := fun j h => Int32.toInt_inj.mp h
  have hs : k.toInt = 0 ∨ k.toInt = 1 ∨ k.toInt = 2 := by omega
  rcases hs with h | h | h
  · exact Or.inl (key 0 h)
  · exact Or.inr (Or.inl (key 1 h))
  · exact Or.inr (Or.inr (key 2 h))
/-! ## small words -/
theorem mG {α : Type} {L : List α} {a : α} {i : Nat} (q : L[i]? = some a) : a ∈ L := List.mem_of_getElem? q
theorem lB {n m : Nat} (q : Nat.ble n m = true := by rfl) : n ≤ m := Nat.le_of_ble_eq_true q
theorem sto_of {a y : Addr} {kc : ClassId} {ty : FieldType} {z : Int32} {vs : List Value} {dv : Value} {K : String} (A : Arv Z h a kc ty z vs dv) (O : Ovr Z kc K) (I : Ins Z h y K true) : Sto Z h a (.ref y) := by
  obtain ⟨cl, Ar, q, -⟩ := A; exact Sto.ofV Ar q O I
theorem own_pnZ {x : Int32} (h : x = 0 ∨ x = 1) : narrow .boolean (.int x) = .int x := by rcases h with rfl | rfl <;> rfl
theorem own_pfZ {x : Int32} (h : x = 0 ∨ x = 1) : fits .boolean (.int x) = true := by rcases h with rfl | rfl <;> rfl
theorem own_pnC {x : Int32} (h : ¬ x < 0 ∧ ¬ (65535 : Int32) < x) : narrow .char (.int x) = .int x := by
  show Value.int (x.toUInt32.toUInt16.toUInt32.toInt32) = _; rw [own_c16 h]
theorem own_pfC {x : Int32} (h : ¬ x < 0 ∧ ¬ (65535 : Int32) < x) : fits .char (.int x) = true := by
  have q := fits_nar_char x; rw [own_narC h] at q; exact q
theorem own_pnA {v : Value} {ty : FieldType} (hv : v.isRef = true) (ht : ty.isReference = true) : narrow ty v = v := by
  rcases ref_cases hv with rfl | ⟨a, rfl⟩ <;> cases ty <;> first | rfl | cases ht
theorem own_pfA {v : Value} {ty : FieldType} (hv : v.isRef = true) (ht : ty.isReference = true) : fits ty v = true := by
  rcases ref_cases hv with rfl | ⟨a, rfl⟩ <;> cases ty <;> first | rfl | cases ht
theorem cb0 : ∀ c ∈ ([] : List Int32), ¬ c < 0 ∧ ¬ (255 : Int32) < c := fun _ q => nomatch q
theorem cbS {x : Int32} {xs : List Int32} (q : ¬ x < 0 ∧ ¬ (255 : Int32) < x) (r : ∀ c ∈ xs, ¬ c < 0 ∧ ¬ (255 : Int32) < c) : ∀ c ∈ x :: xs, ¬ c < 0 ∧ ¬ (255 : Int32) < c := fun c hc => by
  rcases List.mem_cons.mp hc with rfl | hc
  · exact q
  · exact r c hc
/-- a Latin-1 String and its bytes -/
def Str (Z : State) (h : Heap) (a t : Addr) (kb : ClassId) (cs : List Int32) : Prop :=
  Exa Z h a "java/lang/String" ∧ Fld Z h a "java/lang/String" "coder" "B" (.int 0) ∧ Fld Z h a "java/lang/String" "value" "[B" (.ref t) ∧ Arv Z h t kb .byte (Int32.ofNat cs.length) (cs.map fun c => Value.int c.toInt8.toInt32) (.int 0) ∧ (∀ c ∈ cs, ¬ c < 0 ∧ ¬ (255 : Int32) < c) ∧ cs.length ≤ 4000
theorem Str.ext {h' : Heap} {a t : Addr} {kb : ClassId} {cs : List Int32} (E : Ext h h') (F : Str Z h a t kb cs) : Str Z h' a t kb cs := ⟨F.1.ext E, F.2.1.ext E, F.2.2.1.ext E, F.2.2.2.1.ext E, F.2.2.2.2⟩
theorem Str.keep {h' : Heap} {a t : Addr} {kb : ClassId} {cs : List Int32} {ws : List Addr} (F : Str Z h a t kb cs) (K : Keep h h' ws) (q : a ∉ ws) (r : t ∉ ws) : Str Z h' a t kb cs := ⟨F.1.keep K, F.2.1.keep K q, F.2.2.1.keep K q, F.2.2.2.1.keep K r, F.2.2.2.2⟩
theorem Str.other {h' : Heap} {a t w : Addr} {sl : Nat} {v : Value} {kb : ClassId} {cs : List Int32} (W : Wr h h' w sl v) (F : Str Z h a t kb cs) (q : a ≠ w) (r : t ≠ w) : Str Z h' a t kb cs := ⟨F.1.wr W, F.2.1.other W (Or.inl q), F.2.2.1.other W (Or.inl q), F.2.2.2.1.other W r, F.2.2.2.2⟩
theorem own_fldeq {args : Array Value} {t : Term} {K n d : String} {i : Int32} {x : Addr} (ev : t.eval args Z none [] Z = some (.ref x)) (hq : (Cond.eq (Term.field t K n d) (Term.int i)).value args Z none Z [] = some true) : Fld Z Z.heap x K n d (.int i) := by
  obtain ⟨u, w, hu, hw, k1, k2⟩ := cmp_v (Or.inl hq)
  have e1 : (Term.int i).eval args Z none [] Z = some (.int i) := Term.int_eval i
  cases e1.symm.trans hw
  obtain ⟨z, rfl⟩ := k2
  have e2 : z = i := gotT (Cond.eq_ints hu e1) hq
  subst e2
  exact Fld.start ((fld_at ev).symm.trans hu)
theorem arv_tyne {a b : Addr} {k1 k2 : ClassId} {t1 t2 : FieldType} {z1 z2 : Int32} {v1 v2 : List Value} {d1 d2 : Value} (A : Arv Z h a k1 t1 z1 v1 d1) (B : Arv Z h b k2 t2 z2 v2 d2) (q : t1 ≠ t2) : a ≠ b := fun e => by
  subst e
  obtain ⟨c1, ⟨a1, ⟨a2, kA, a3, compA, a4⟩, -⟩, -⟩ := A
  obtain ⟨c2, ⟨b1, ⟨b2, kB, b3, compB, b4⟩, -⟩, -⟩ := B
  cases a1.symm.trans b1
  cases a3.symm.trans b3
  have := a4.symm.trans b4
  injection this with _ e
  exact q e
/-! ## a call that a law of the pasted kind pays, the heap as it was -/
theorem G.pureV (H : Hs p l e R s m args below meth c Z a0 EL cw own n0 bytes maxL ret nm T h C S sf) {y : MethodName} {D : String} {Qv : Option Value → Prop} {as' : Array Value} {W : Nat} (hB : ∀ s' : State, Z.Warmed39 s'.vm → Back l R p e below s' args y 3 W (fun P a => a = as' ∧ P.U.heap = h ∧ P.cells + 0 ≤ R.cells ∧ P.slots + 0 ≤ R.slots) (fun P _ v B => ∃ L, (Qv v ∧ L = [] ∧ B.U.heap = h) ∧ B.locs = P.locs ++ L ∧ B.cells = P.cells + 0 ∧ B.slots = P.slots + 0))
    {index : Nat} (w1 : (Cond.methodLink own index y).before a0 Z = true) (w2 : (Cond.declares y).before a0 Z = true) (w3 : (Cond.selects D y y).before a0 Z = true) (w4 : (Cond.instanceMethod y).before a0 Z = true) (hy : y.cls ≠ "java/lang/invoke/MethodHandle" ∧ y.cls ≠ "java/lang/invoke/VarHandle")
    {a : Addr} (E : Exa Z h a D) {argsL rest st : List Value} {pc pc' : Nat} {L : Array Slot} (hL : L.size = maxL) (has : (Value.ref a :: argsL).toArray = as') (hlen : ∀ sig, parseMethodDescriptor y.desc = some sig → argsL.length = sig.parameters.length) (hst : st = argsL.reverse ++ .ref a :: rest) (hW : (rest.map fun v => v.category).sum = W) (hd : decode bytes pc = .ok (.invokevirtual index, 3)) (hp : pc + 3 = pc') (hc : C ≤ R.cells) (hsl : S ≤ R.slots)
    (k : ∀ T' v, Hs p l e R s m args below meth c Z a0 EL cw own n0 bytes maxL ret nm T' h C S sf → Qv v → Go p e below P (T'.setTop (mkF m pc' L (v.toList ++ rest)))) : Go p e below P (T.setTop (mkF m pc L st)) := by
  subst hp; subst has
  obtain ⟨hM, vm0, k0, locs, X, h1, h2, h3, h4, h5, h6, h7, h8, h9, hO⟩ := id H
  obtain ⟨cq, kq, qa, qb, qc⟩ := isOf (s := s.setVm vm0) h4 h1 E
  obtain ⟨v, vm₁, B, hw, X', ⟨L', ⟨q1, q2, q3⟩, r2, r3, r4⟩, st'⟩ := X.virtualBack H.exec h5 (mvT (s := s.setVm vm0) h4 w1) (mvT (s := s.setVm vm0) h4 w2) (notFace_of_selects (args := #[]) (mvT (s := s.setVm vm0) h4 w3)) (mvT (s := s.setVm vm0) h4 w3) (mvT (s := s.setVm vm0) h4 w4) hy (hB (s.setVm vm0) h4) qa qc (g := mkF m pc L st) rfl (by rw [hM.2.2.2.1]; exact hL) (Steps.refl _) hlen hst (by show 2 * 0 + _ ≤ _; omega) (H.dec hd) (fun _ _ => ⟨rfl, h1, hc, hsl⟩)
  subst q2
  refine Go.tr st' (k B.U v ⟨hM, vm0, k0, locs, ?_, q3, h2, h3, h4, h5, h6, h7, h8, h9, hO⟩ q1)
  have e1 : B.locs = locs := by rw [r2]; exact List.append_nil _
  have e2 : B.cells = C := r3
  have e3 : B.slots = S := r4
  rw [← e1, ← e2, ← e3]; exact X'
/-! ## calls through an interface, of an inherited method, of a private one -/
theorem G.callF (H : Hs p l e R s m args below meth c Z a0 EL cw own n0 bytes maxL ret nm T h C S sf) {xi z : MethodName} {D : String} {yb : ByteArray} {ym : Nat} {yr : Option FieldType} {rm : Room} {as' : Array Value} {sfI : List Addr} {Q : Option Value → Heap → List Addr → Prop} (M : Met Z a0 EL cw n0 l z yb ym yr rm as' h sfI Q) {index : Nat} {count : Nat} (w1 : (Cond.methodLink own index xi).before a0 Z = true) (w2 : (Cond.declares xi).before a0 Z = true) (w5 : ∀ (s' : State) (aa : Array Value), Z.Warmed39 s'.vm → (Cond.interfaceMethod xi.cls xi.cls xi.name xi.desc).before aa s' = true) (w3 : (Cond.selects D xi z).before a0 Z = true) (w4 : (Cond.instanceMethod z).before a0 Z = true) (w6 : (Cond.publicMethod z).before a0 Z = true) (w7 : (Cond.unhidden D xi.name xi.desc).before a0 Z = true) (w8 : (Cond.castable D xi.cls).before a0 Z = true) (wz : (Cond.initialized z.cls).before a0 Z = true) (wc : (Cond.code z yb ym yr).before a0 Z = true) (hy : xi.cls ≠ "java/lang/invoke/MethodHandle" ∧ xi.cls ≠ "java/lang/invoke/VarHandle")
    {a : Addr} (E : Exa Z h a D) {argsL rest st : List Value} {W : Nat} {pc pc' : Nat} {L : Array Slot} (hL : L.size = maxL) (has : (Value.ref a :: argsL).toArray = as') (hlen : ∀ sig, parseMethodDescriptor xi.desc = some sig → argsL.length = sig.parameters.length) (hst : st = argsL.reverse ++ .ref a :: rest) (hW : (rest.map fun v => v.category).sum = W) (hd : decode bytes pc = .ok (.invokeinterface index count, 5)) (hp : pc + 5 = pc') (hf : rm.frames + 1 ≤ R.frames) (hl : W + (ym + 11) + rm.locals ≤ R.locals) (hc : C + rm.cells ≤ R.cells) (hsl : S + rm.slots ≤ R.slots) (hsf : ∀ x ∈ sfI, x ∈ sf)
    (k : ∀ T' h' v so, Hs p l e R s m args below meth c Z a0 EL cw own n0 bytes maxL ret nm T' h' (C + rm.cells) (S + rm.slots) (so ++ sf) → Q v h' so → Go p e below P (T'.setTop (mkF m pc' L (v.toList ++ rest)))) : Go p e below P (T.setTop (mkF m pc L st)) := by
  subst hp; subst has
  obtain ⟨hM, vm0, k0, locs, X, h1, h2, h3, h4, h5, h6, h7, h8, h9, hO⟩ := id H
  obtain ⟨cq, kq, qa, qb, qc⟩ := isOf (s := s.setVm vm0) h4 h1 E
  obtain ⟨v, vm₁, B, hw, X', hS, hg, ⟨L', so, q1, rO, r1, r2, r3, r4, r5, r6, r7⟩, st'⟩ := X.interfaceBackS H.exec h5 (mvT (s := s.setVm vm0) h4 w1) (mvT (s := s.setVm vm0) h4 w2) (w5 (s.setVm vm0) args h4) (mvT (s := s.setVm vm0) h4 w3) (mvT (s := s.setVm vm0) h4 w4) (mvT (s := s.setVm vm0) h4 w6) (mvT (s := s.setVm vm0) h4 w7) (mvT (s := s.setVm vm0) h4 w8) hy (M.backS (W := W) hM.2.1 h4 wc wz hf hl h7.1 (fun x hx => h8 x (hsf x hx))) qa qb qc (g := mkF m pc L st) rfl (by rw [hM.2.2.2.1]; exact hL) (Steps.refl _) hlen hst (by show 2 * 0 + _ ≤ _; omega) (H.dec hd) (fun _ _ => ⟨rfl, h1, hc, hsl⟩)
  rw [h1] at hg
  exact Go.tr st' (k _ _ v so (H.behind (vm₁ := vm₁) h2 h3 h4 h5 h6 h7 h8 h9 X' hS hg r1 r2 r3 r4 r5 r6 r7 rO) q1)

theorem G.callFU (H : Hs p l e R s m args below meth c Z a0 EL cw own n0 bytes maxL ret nm T h C S sf) {xi z : MethodName} {D J : String} {yb : ByteArray} {ym : Nat} {yr : Option FieldType} {rm : Room} {as' : Array Value} {sfI : List Addr} {Q : Option Value → Heap → List Addr → Prop} (M : Met Z a0 EL cw n0 l z yb ym yr rm as' h sfI Q) {index : Nat} {count : Nat} (w1 : (Cond.methodLink own index xi).before a0 Z = true) (w2 : (Cond.declares ⟨J, xi.name, xi.desc⟩).before a0 Z = true) (w9 : (Cond.publicMethod ⟨J, xi.name, xi.desc⟩).before a0 Z = true) (w5 : ∀ (s' : State) (aa : Array Value), Z.Warmed39 s'.vm → (Cond.interfaceMethod xi.cls J xi.name xi.desc).before aa s' = true) (hxo : xi.cls ≠ J) (w3 : (Cond.selects D xi z).before a0 Z = true) (w4 : (Cond.instanceMethod z).before a0 Z = true) (w6 : (Cond.publicMethod z).before a0 Z = true) (w7 : (Cond.unhidden D xi.name xi.desc).before a0 Z = true) (w8 : (Cond.castable D xi.cls).before a0 Z = true) (wz : (Cond.initialized z.cls).before a0 Z = true) (wc : (Cond.code z yb ym yr).before a0 Z = true) (hy : xi.cls ≠ "java/lang/invoke/MethodHandle" ∧ xi.cls ≠ "java/lang/invoke/VarHandle")
    {a : Addr} (E : Exa Z h a D) {argsL rest st : List Value} {W : Nat} {pc pc' : Nat} {L : Array Slot} (hL : L.size = maxL) (has : (Value.ref a :: argsL).toArray = as') (hlen : ∀ sig, parseMethodDescriptor xi.desc = some sig → argsL.length = sig.parameters.length) (hst : st = argsL.reverse ++ .ref a :: rest) (hW : (rest.map fun v => v.category).sum = W) (hd : decode bytes pc = .ok (.invokeinterface index count, 5)) (hp : pc + 5 = pc') (hf : rm.frames + 1 ≤ R.frames) (hl : W + (ym + 11) + rm.locals ≤ R.locals) (hc : C + rm.cells ≤ R.cells) (hsl : S + rm.slots ≤ R.slots) (hsf : ∀ x ∈ sfI, x ∈ sf)
    (k : ∀ T' h' v so, Hs p l e R s m args below meth c Z a0 EL cw own n0 bytes maxL ret nm T' h' (C + rm.cells) (S + rm.slots) (so ++ sf) → Q v h' so → Go p e below P (T'.setTop (mkF m pc' L (v.toList ++ rest)))) : Go p e below P (T.setTop (mkF m pc L st)) := by
  subst hp; subst has
  obtain ⟨hM, vm0, k0, locs, X, h1, h2, h3, h4, h5, h6, h7, h8, h9, hO⟩ := id H
  obtain ⟨cq, kq, qa, qb, qc⟩ := isOf (s := s.setVm vm0) h4 h1 E
  obtain ⟨v, vm₁, B, hw, X', hS, hg, ⟨L', so, q1, rO, r1, r2, r3, r4, r5, r6, r7⟩, st'⟩ := interfaceBackUpS X H.exec h5 (mvT (s := s.setVm vm0) h4 w1) (mvT (s := s.setVm vm0) h4 w2) (mvT (s := s.setVm vm0) h4 w9) (w5 (s.setVm vm0) args h4) hxo (mvT (s := s.setVm vm0) h4 w3) (mvT (s := s.setVm vm0) h4 w4) (mvT (s := s.setVm vm0) h4 w6) (mvT (s := s.setVm vm0) h4 w7) (mvT (s := s.setVm vm0) h4 w8) hy (M.backS (W := W) hM.2.1 h4 wc wz hf hl h7.1 (fun x hx => h8 x (hsf x hx))) qa qb qc (g := mkF m pc L st) rfl (by rw [hM.2.2.2.1]; exact hL) (Steps.refl _) hlen hst (by show 2 * 0 + _ ≤ _; omega) (H.dec hd) (fun _ _ => ⟨rfl, h1, hc, hsl⟩)
  rw [h1] at hg
  exact Go.tr st' (k _ _ v so (H.behind (vm₁ := vm₁) h2 h3 h4 h5 h6 h7 h8 h9 X' hS hg r1 r2 r3 r4 r5 r6 r7 rO) q1)

theorem G.callVU (H : Hs p l e R s m args below meth c Z a0 EL cw own n0 bytes maxL ret nm T h C S sf) {y z : MethodName} {D owner : String} {yb : ByteArray} {ym : Nat} {yr : Option FieldType} {rm : Room} {as' : Array Value} {sfI : List Addr} {Q : Option Value → Heap → List Addr → Prop} (M : Met Z a0 EL cw n0 l z yb ym yr rm as' h sfI Q) {index : Nat} (w1 : (Cond.methodLink own index y).before a0 Z = true) (w5 : (Cond.sameMethod y.cls owner y.name y.desc).before a0 Z = true) (w2 : (Cond.declares ⟨owner, y.name, y.desc⟩).before a0 Z = true) (how : owner ≠ "java/lang/invoke/MethodHandle" ∧ owner ≠ "java/lang/invoke/VarHandle") (w3 : (Cond.selects D y z).before a0 Z = true) (w4 : (Cond.instanceMethod z).before a0 Z = true) (wz : (Cond.initialized z.cls).before a0 Z = true) (wc : (Cond.code z yb ym yr).before a0 Z = true)
    {a : Addr} (E : Exa Z h a D) {argsL rest st : List Value} {W : Nat} {pc pc' : Nat} {L : Array Slot} (hL : L.size = maxL) (has : (Value.ref a :: argsL).toArray = as') (hlen : ∀ sig, parseMethodDescriptor y.desc = some sig → argsL.length = sig.parameters.length) (hst : st = argsL.reverse ++ .ref a :: rest) (hW : (rest.map fun v => v.category).sum = W) (hd : decode bytes pc = .ok (.invokevirtual index, 3)) (hp : pc + 3 = pc') (hf : rm.frames + 1 ≤ R.frames) (hl : W + (ym + 11) + rm.locals ≤ R.locals) (hc : C + rm.cells ≤ R.cells) (hsl : S + rm.slots ≤ R.slots) (hsf : ∀ x ∈ sfI, x ∈ sf)
    (k : ∀ T' h' v so, Hs p l e R s m args below meth c Z a0 EL cw own n0 bytes maxL ret nm T' h' (C + rm.cells) (S + rm.slots) (so ++ sf) → Q v h' so → Go p e below P (T'.setTop (mkF m pc' L (v.toList ++ rest)))) : Go p e below P (T.setTop (mkF m pc L st)) := by
  subst hp; subst has
  obtain ⟨hM, vm0, k0, locs, X, h1, h2, h3, h4, h5, h6, h7, h8, h9, hO⟩ := id H
  obtain ⟨cq, kq, qa, qb, qc⟩ := isOf (s := s.setVm vm0) h4 h1 E
  obtain ⟨v, vm₁, B, hw, X', hS, hg, ⟨L', so, q1, rO, r1, r2, r3, r4, r5, r6, r7⟩, st'⟩ := virtualBackUpS X H.exec h5 (mvT (s := s.setVm vm0) h4 w1) (mvT (s := s.setVm vm0) h4 w5) (mvT (s := s.setVm vm0) h4 w2) how (mvT (s := s.setVm vm0) h4 w3) (mvT (s := s.setVm vm0) h4 w4) (M.backS (W := W) hM.2.1 h4 wc wz hf hl h7.1 (fun x hx => h8 x (hsf x hx))) qa qc (g := mkF m pc L st) rfl (by rw [hM.2.2.2.1]; exact hL) (Steps.refl _) hlen hst (by show 2 * 0 + _ ≤ _; omega) (H.dec hd) (fun _ _ => ⟨rfl, h1, hc, hsl⟩)
  rw [h1] at hg
  exact Go.tr st' (k _ _ v so (H.behind (vm₁ := vm₁) h2 h3 h4 h5 h6 h7 h8 h9 X' hS hg r1 r2 r3 r4 r5 r6 r7 rO) q1)

theorem G.callP (H : Hs p l e R s m args below meth c Z a0 EL cw own n0 bytes maxL ret nm T h C S sf) {z : MethodName} {D : String} {yb : ByteArray} {ym : Nat} {yr : Option FieldType} {rm : Room} {as' : Array Value} {sfI : List Addr} {Q : Option Value → Heap → List Addr → Prop} (M : Met Z a0 EL cw n0 l z yb ym yr rm as' h sfI Q) {index : Nat} (w1 : (Cond.methodLink own index z).before a0 Z = true) (w4 : (Cond.instanceMethod z).before a0 Z = true) (w3 : (Cond.selects z.cls z z).before a0 Z = true) (w5 : (Cond.privateMethod z).before a0 Z = true) (wz : (Cond.initialized z.cls).before a0 Z = true) (wc : (Cond.code z yb ym yr).before a0 Z = true) (hy : z.cls ≠ "java/lang/invoke/MethodHandle" ∧ z.cls ≠ "java/lang/invoke/VarHandle")
    {a : Addr} (E : Exa Z h a D) {argsL rest st : List Value} {W : Nat} {pc pc' : Nat} {L : Array Slot} (hL : L.size = maxL) (has : (Value.ref a :: argsL).toArray = as') (hlen : ∀ sig, parseMethodDescriptor z.desc = some sig → argsL.length = sig.parameters.length) (hst : st = argsL.reverse ++ .ref a :: rest) (hW : (rest.map fun v => v.category).sum = W) (hd : decode bytes pc = .ok (.invokevirtual index, 3)) (hp : pc + 3 = pc') (hf : rm.frames + 1 ≤ R.frames) (hl : W + (ym + 11) + rm.locals ≤ R.locals) (hc : C + rm.cells ≤ R.cells) (hsl : S + rm.slots ≤ R.slots) (hsf : ∀ x ∈ sfI, x ∈ sf)
    (k : ∀ T' h' v so, Hs p l e R s m args below meth c Z a0 EL cw own n0 bytes maxL ret nm T' h' (C + rm.cells) (S + rm.slots) (so ++ sf) → Q v h' so → Go p e below P (T'.setTop (mkF m pc' L (v.toList ++ rest)))) : Go p e below P (T.setTop (mkF m pc L st)) := by
  subst hp; subst has
  obtain ⟨hM, vm0, k0, locs, X, h1, h2, h3, h4, h5, h6, h7, h8, h9, hO⟩ := id H
  obtain ⟨cell, hcell, hobj⟩ := E.cell
  obtain ⟨v, vm₁, B, hw, X', hS, hg, ⟨L', so, q1, rO, r1, r2, r3, r4, r5, r6, r7⟩, st'⟩ := privateBackS X H.exec h5 (mvT (s := s.setVm vm0) h4 w1) (mvT (s := s.setVm vm0) h4 w4) (mvT (s := s.setVm vm0) h4 w3) (Cond.privateMethod_at (mvP (s := s.setVm vm0) (args := #[]) h4 w5)) (mvT (s := s.setVm vm0) h4 wc) hy (M.backS (W := W) hM.2.1 h4 wc wz hf hl h7.1 (fun x hx => h8 x (hsf x hx))) (g := mkF m pc L st) rfl (by rw [hM.2.2.2.1]; exact hL) (Steps.refl _) (by rw [h1]; exact hcell) hobj hlen hst (by show 2 * 0 + _ ≤ _; omega) (H.dec hd) (fun _ _ => ⟨rfl, h1, hc, hsl⟩)
  rw [h1] at hg
  exact Go.tr st' (k _ _ v so (H.behind (vm₁ := vm₁) h2 h3 h4 h5 h6 h7 h8 h9 X' hS hg r1 r2 r3 r4 r5 r6 r7 rO) q1)

/-! ## clone of an array, getClass, a class constant, arraycopy -/
theorem G.clone (H : Hs p l e R s m args below meth c Z a0 EL cw own n0 bytes maxL ret nm T h C S sf) {ad : String} {index : Nat} (w1 : (Cond.methodLink own index ⟨ad, "clone", "()Ljava/lang/Object;"⟩).before a0 Z = true) (w2 : (Cond.sameMethod ad "java/lang/Object" "clone" "()Ljava/lang/Object;").before a0 Z = true) (w3 : (Cond.native ⟨"java/lang/Object", "clone", "()Ljava/lang/Object;"⟩).before a0 Z = true) (w4 : (Cond.instanceMethod ⟨"java/lang/Object", "clone", "()Ljava/lang/Object;"⟩).before a0 Z = true) (w5 : (Cond.selects ad ⟨ad, "clone", "()Ljava/lang/Object;"⟩ ⟨"java/lang/Object", "clone", "()Ljava/lang/Object;"⟩).before a0 Z = true) (w6 : (Cond.castable ad "java/lang/Cloneable").before a0 Z = true)
    {a : Addr} {kc : ClassId} {ty : FieldType} {z : Int32} {vs : List Value} {dv : Value} (A : Arv Z h a kc ty z vs dv) (E : Exa Z h a ad) {st : List Value} {W cap : Nat} {pc pc' : Nat} {L : Array Slot} (hL : L.size = maxL) (hW : (st.map fun v => v.category).sum = W) (hd : decode bytes pc = .ok (.invokevirtual index, 3)) (hp : pc + 3 = pc') (hf : 1 ≤ R.frames) (hl : W + 14 ≤ R.locals) (hcap : z.toNatClampNeg ≤ cap) (hc : C + 1 ≤ R.cells) (hsl : S + cap ≤ R.slots)
    (k : ∀ T' h' b, b = h.size → Hs p l e R s m args below meth c Z a0 EL cw own n0 bytes maxL ret nm T' h' (C + 1) (S + cap) (b :: sf) → Ext h h' → Arv Z h' b kc ty z vs dv → Exa Z h' b ad → Go p e below P (T'.setTop (mkF m pc' L (.ref b :: st)))) : Go p e below P (T.setTop (mkF m pc L (.ref a :: st))) := by
  subst hp
  obtain ⟨hM, vm0, k0, locs, X, h1, h2, h3, h4, h5, h6, h7, h8, h9, hO⟩ := id H
  obtain ⟨T', h', X', e', Ex, A', E', st'⟩ := RoadKit.cloneH X H.exec h4 h5 w1 w2 w3 w4 w5 w6 h1 A.arh E (g := mkF m pc L (.ref a :: st)) rfl (by rw [hM.2.2.2.1]; exact hL) rfl (H.dec hd) hf (W := W) (by show 2 * 0 + _ ≤ _; omega) hl hcap hc hsl
  exact Go.st st' (k T' h' _ rfl (H.ext X' e' Ex h2 h3 h4 h5 h6 h7 h8 h9 hO E'.lt) Ex A' E')
theorem G.ldcK (H : Hs p l e R s m args below meth c Z a0 EL cw own n0 bytes maxL ret nm T h C S sf) {K : String} {index : Nat} {mr : Addr} (w : (Cond.classLink own index K).before a0 Z = true) (F : Mir Z K mr) {pc pc' : Nat} {L : Array Slot} {st : List Value} (hd : decode bytes pc = .ok (.ldc index, 2)) (hp : pc + 2 = pc')
    (k : ∀ T', Hs p l e R s m args below meth c Z a0 EL cw own n0 bytes maxL ret nm T' h C S sf → Go p e below P (T'.setTop (mkF m pc' L (.ref mr :: st)))) : Go p e below P (T.setTop (mkF m pc L st)) := by
  subst hp
  obtain ⟨hM, vm0, k0, locs, X, h1, h2, h3, h4, h5, h6, h7, h8, h9, hO⟩ := id H
  obtain ⟨cK, kK, f1, f2, f3, -⟩ := F
  have ev : (Term.mirror K).eval args (s.setVm vm0) none [] (s.setVm vm0) = some (.ref mr) := by
    obtain ⟨k', q1, q2⟩ := h4.alike.2.2 _ _ f2
    have e1 : vm0.findClass K = some cK := by rw [h4.alike.findClass]; exact f1
    have e2 : vm0.classes[cK]? = some k' := q1
    have e3 : k'.mirror = some mr := by rw [q2]; exact f3
    show ((vm0.findClass K).bind fun u => (vm0.classes[u]?).bind fun v => v.mirror.bind fun w => some (Value.ref w)) = _
    rw [e1]; show ((vm0.classes[cK]?).bind fun v => v.mirror.bind fun w => some (Value.ref w)) = _
    rw [e2]; show (k'.mirror.bind fun w => some (Value.ref w)) = _
    rw [e3]; rfl
  obtain ⟨vm', X', st'⟩ := X.ldcMirror H.exec h5 (mvT (s := s.setVm vm0) h4 w) ev (g := mkF m pc L st) rfl (H.dec hd)
  exact Go.st st' (k _ ⟨hM, vm0, k0, locs, X', h1, h2, h3, h4, h5, h6, h7, h8, h9, hO⟩)
theorem G.gclsI (H : Hs p l e R s m args below meth c Z a0 EL cw own n0 bytes maxL ret nm T h C S sf) {D : String} {index count : Nat} {xi : MethodName} (w1 : (Cond.methodLink own index xi).before a0 Z = true) (w2 : (Cond.declares ⟨"java/lang/Object", "getClass", "()Ljava/lang/Class;"⟩).before a0 Z = true) (w3 : ∀ (s' : State) (aa : Array Value), Z.Warmed39 s'.vm → (Cond.interfaceMethod xi.cls "java/lang/Object" xi.name xi.desc).before aa s' = true) (w4 : (Cond.selects D xi ⟨"java/lang/Object", "getClass", "()Ljava/lang/Class;"⟩).before a0 Z = true) (w5 : (Cond.instanceMethod ⟨"java/lang/Object", "getClass", "()Ljava/lang/Class;"⟩).before a0 Z = true) (w6 : (Cond.publicMethod ⟨"java/lang/Object", "getClass", "()Ljava/lang/Class;"⟩).before a0 Z = true) (w7 : (Cond.unhidden D xi.name xi.desc).before a0 Z = true) (w8 : (Cond.castable D xi.cls).before a0 Z = true) (w9 : (Cond.native ⟨"java/lang/Object", "getClass", "()Ljava/lang/Class;"⟩).before a0 Z = true) (hx : xi.cls ≠ "java/lang/invoke/MethodHandle" ∧ xi.cls ≠ "java/lang/invoke/VarHandle") (hxo : xi.cls ≠ "java/lang/Object") (hn : xi.name = "getClass") (hds : xi.desc = "()Ljava/lang/Class;")
    {a mr : Addr} (E : Exa Z h a D) (F : Mir Z D mr) {st : List Value} {W : Nat} {pc pc' : Nat} {L : Array Slot} (hL : L.size = maxL) (hW : (st.map fun v => v.category).sum = W) (hd : decode bytes pc = .ok (.invokeinterface index count, 5)) (hp : pc + 5 = pc') (hf : 1 ≤ R.frames) (hl : W + (nativeFrameWords "java/lang/Object" "getClass" 1 + 11) ≤ R.locals)
    (k : ∀ T', Hs p l e R s m args below meth c Z a0 EL cw own n0 bytes maxL ret nm T' h C S sf → Go p e below P (T'.setTop (mkF m pc' L (.ref mr :: st)))) : Go p e below P (T.setTop (mkF m pc L (.ref a :: st))) := by
  subst hp
  obtain ⟨hM, vm0, k0, locs, X, h1, h2, h3, h4, h5, h6, h7, h8, h9, hO⟩ := id H
  obtain ⟨cq, kq, qa, qb, qc⟩ := isOf (s := s.setVm vm0) h4 h1 E
  obtain ⟨cK, kK, f1, f2, f3, -⟩ := F
  have e1 : cq = cK := by
    have : vm0.findClass D = some cK := by rw [h4.alike.findClass]; exact f1
    exact Option.some.inj ((show vm0.findClass D = some cq from qa).symm.trans this)
  subst e1
  obtain ⟨k', q1, q2⟩ := h4.alike.2.2 _ _ f2
  have e3 : kq.mirror = some mr := by
    have : k' = kq := Option.some.inj ((show vm0.classes[cq]? = some k' from q1).symm.trans qb)
    rw [← this, q2]; exact f3
  obtain ⟨vm', X', st'⟩ := X.getClassOfI H.exec h5 (mvT (s := s.setVm vm0) h4 w1) (mvT (s := s.setVm vm0) h4 w2) (w3 (s.setVm vm0) args h4) (mvT (s := s.setVm vm0) h4 w4) (mvT (s := s.setVm vm0) h4 w5) (mvT (s := s.setVm vm0) h4 w6) (mvT (s := s.setVm vm0) h4 w7) (mvT (s := s.setVm vm0) h4 w8) (mvT (s := s.setVm vm0) h4 w9) hx hxo hn hds qa qb qc e3 (g := mkF m pc L (.ref a :: st)) rfl (by rw [hM.2.2.2.1]; exact hL) rfl (H.dec hd) hf (by show 2 * 0 + _ + _ ≤ _; omega)
  exact Go.st st' (k _ ⟨hM, vm0, k0, locs, X', h1, h2, h3, h4, h5, h6, h7, h8, h9, hO⟩)
theorem G.copy (H : Hs p l e R s m args below meth c Z a0 EL cw own n0 bytes maxL ret nm T h C S sf) {index : Nat} (w1 : (Cond.methodLink own index Jvm.Stand.acN).before a0 Z = true) (w2 : (Cond.native Jvm.Stand.acN).before a0 Z = true) (w3 : (Cond.static Jvm.Stand.acN).before a0 Z = true) (w4 : (Cond.initialized "java/lang/System").before a0 Z = true)
    {a b : Addr} {kc kc' : ClassId} {ty ty' : FieldType} {z z' sp dp nn : Int32} {vs vd us : List Value} {dv dd : Value} (A : Arv Z h a kc ty z vs dv) (B : Arv Z h b kc' ty' z' vd dd) (hty : (ty = ty' ∧ refKind ty = false) ∨ (refKind ty = true ∧ refKind ty' = true ∧ StoL Z h b us)) (g1 : ¬ sp < 0) (g2 : ¬ dp < 0) (g3 : ¬ nn < 0) (g4 : sp.toNatClampNeg + nn.toNatClampNeg ≤ z.toNatClampNeg) (g5 : dp.toNatClampNeg + nn.toNatClampNeg ≤ z'.toNatClampNeg) (hus : us = (List.range nn.toNatClampNeg).map fun i => vs.getD (sp.toNatClampNeg + i) dv) (hlen : dp.toNatClampNeg + nn.toNatClampNeg ≤ vd.length) {vr : List Value} (hvr : vd.take dp.toNatClampNeg ++ us ++ vd.drop (dp.toNatClampNeg + nn.toNatClampNeg) = vr) (hq : n0 ≤ b) (hsf : Sf Z EL h sf b)
    {st : List Value} {W : Nat} {pc pc' : Nat} {L : Array Slot} (hL : L.size = maxL) (hW : (st.map fun v => v.category).sum = W) (hd : decode bytes pc = .ok (.invokestatic index, 3)) (hp : pc + 3 = pc') (hf : 1 ≤ R.frames) (hl : W + (nativeFrameWords "java/lang/System" "arraycopy" 5 + 11) ≤ R.locals)
    (k : ∀ T' h', Hs p l e R s m args below meth c Z a0 EL cw own n0 bytes maxL ret nm T' h' C S sf → Keep h h' [b] → Arv Z h' b kc' ty' z' vr dd → Go p e below P (T'.setTop (mkF m pc' L st))) : Go p e below P (T.setTop (mkF m pc L (.int nn :: .int dp :: .ref b :: .int sp :: .ref a :: st))) := by
  subst hp; subst hvr
  obtain ⟨hM, vm0, k0, locs, X, h1, h2, h3, h4, h5, h6, h7, h8, h9, hO⟩ := id H
  obtain ⟨T', h', L', X', e', F', K', B', st'⟩ := RoadKit.cpA X H.exec h4 h5 w1 w2 w3 w4 h1 A B hty g1 g2 g3 g4 g5 hus hlen h6 hq (g := mkF m pc L (.int nn :: .int dp :: .ref b :: .int sp :: .ref a :: st)) rfl (by rw [hM.2.2.2.1]; exact hL) rfl (H.dec hd) hf (W := W) (by show 2 * 0 + _ ≤ _; omega) hl
  have sx : ∀ y ∈ [b], Safe Z EL vm0 h y := fun y hy => by rw [List.mem_singleton.mp hy]; exact hsf.safe h4 h8
  exact Go.st st' (k T' h' ⟨hM, vm0, k0, L', X', e', h2, Nat.le_trans h3 K'.1, h4, h5, F', h7.trans (CHr.keep K' sx h7.1), fun y hy => ⟨Nat.lt_of_lt_of_le (h8 y hy).1 K'.1, Safe.keep K' sx h7.1 (h8 y hy).2⟩, h9, hO.keep K' (fun y hy => by rw [List.mem_singleton.mp hy]; exact hq)⟩ K' B')
theorem nf_sup {y : MethodName} {K : String} (w : (Cond.superclass y.cls K).before a0 Z = true) : ∀ s' : State, Z.Warmed39 s'.vm → NotFace s' y := fun s' hZ => nf_super (args := #[]) (mvT (s := s') hZ w)
theorem G.castN (H : Hs p l e R s m args below meth c Z a0 EL cw own n0 bytes maxL ret nm T h C S sf) {index : Nat} {pc pc' : Nat} {L : Array Slot} {st : List Value} (hd : decode bytes pc = .ok (.checkcast index, 3)) (hp : pc + 3 = pc') (k : Go p e below P (T.setTop (mkF m pc' L (.null :: st)))) : Go p e below P (T.setTop (mkF m pc L (.null :: st))) := by
  subst hp
  obtain ⟨hM, vm0, k0, locs, X, -⟩ := id H
  exact Go.st (X.checkcastNull H.exec (g := mkF m pc L (.null :: st)) rfl rfl (H.dec hd)) k
theorem G.instN (H : Hs p l e R s m args below meth c Z a0 EL cw own n0 bytes maxL ret nm T h C S sf) {index : Nat} {pc pc' : Nat} {L : Array Slot} {st : List Value} (hd : decode bytes pc = .ok (.instanceof index, 3)) (hp : pc + 3 = pc') (k : Go p e below P (T.setTop (mkF m pc' L (.int 0 :: st)))) : Go p e below P (T.setTop (mkF m pc L (.null :: st))) := by
  subst hp
  obtain ⟨hM, vm0, k0, locs, X, -⟩ := id H
  exact Go.st (X.instanceofNull H.exec (g := mkF m pc L (.null :: st)) rfl rfl (H.dec hd)) k
/-! ## a static method named through a class below the one that declares it (its contract narrow) -/
theorem Met.back {y : MethodName} {rm : Room} {as' : Array Value} {sfI : List Addr} {Q : Option Value → Heap → List Addr → Prop} {vm0 : Vm} {len W : Nat} (M : Met Z a0 EL False n0 l y bytes maxL ret rm as' h sfI Q) (hEL : EW Z a0 EL) (hZ : Z.Warmed39 vm0) (wc : (Cond.code y bytes maxL ret).before a0 Z = true) (wz : (Cond.initialized y.cls).before a0 Z = true) (hf : rm.frames + 1 ≤ R.frames) (hl : W + (maxL + 11) + rm.locals ≤ R.locals) (H : CHv Z EL vm0 h) (hs : ∀ x ∈ sfI, x < h.size ∧ Safe Z EL vm0 h x) :
    Back l R p e below (s.setVm vm0) args y len W (fun A a => a = as' ∧ A.U.heap = h ∧ A.cells + rm.cells ≤ R.cells ∧ A.slots + rm.slots ≤ R.slots)
      (fun A _ v B => ∃ L so, Q v B.U.heap so ∧ Old Z n0 B.U.heap ∧ Fr n0 L ∧ B.locs = A.locs ++ L ∧ B.cells = A.cells + rm.cells ∧ B.slots = A.slots + rm.slots ∧ CHr Z EL vm0 h B.U.vm B.U.heap ∧ (∀ x ∈ so, x < B.U.heap.size ∧ Safe Z EL B.U.vm B.U.heap x)) :=
  Back.of_free (bytes := bytes) (maxL := maxL) (ret := ret)
    (E := fun _ first o t L k n => k = rm.cells ∧ n = rm.slots ∧ ∃ v so, o = .returned v ∧ Q v t.heap so ∧ Old Z n0 t.heap ∧ Fr n0 L ∧ CHr Z EL first.vm first.heap t.vm t.heap ∧ (∀ x ∈ so, x < t.heap.size ∧ Safe Z EL t.vm t.heap x))
    (M []) hf hl
    (fun m meth c A a Y hp => have hU : Z.Warmed39 A.U.vm := wtrans (s := s.setVm vm0) hZ Y.warmed
      ⟨by show (Cond.and _ .tt).before a A.U = true; rw [Cond.before_and, mv hU wc]; rfl, mv hU wc, mv hU wz, hp.2.2.1, hp.2.2.2⟩)
    (fun m meth c A a g mk Y hp => by
      have A1 := CHv.at Y hZ hEL H
      exact ⟨hp.1, wtrans (s := s.setVm vm0) hZ Y.warmed, hp.2.1, A1.1, fun x hx => ⟨(hs x hx).1, A1.safe (hs x hx).1 (hs x hx).2⟩⟩)
    (fun _ _ _ _ _ _ _ _ _ => trivial)
    (fun _ _ _ _ ⟨v, L, so, h1, h2, hO, h3, h4, h5, h6, h7⟩ => ⟨L, _, _, h7.resolve_left (fun q => q), rfl, rfl, v, so, h1, h2, hO, h3, h4, h5⟩)
    (fun m meth c A a g mk v t L k n Y hp _ _ ⟨e1, e2, v', so, e3, e4, eO, e5, e6, e7⟩ => by
      cases e3; subst e1 e2
      refine ⟨L, so, e4, eO, e5, rfl, rfl, rfl, (CHv.at Y hZ hEL H).trans ?_, e7⟩
      rw [← hp.2.1]; exact e6)
theorem G.callSU (H : Hs p l e R s m args below meth c Z a0 EL cw own n0 bytes maxL ret nm T h C S sf) {y : MethodName} {owner : String} {yb : ByteArray} {ym : Nat} {yr : Option FieldType} {rm : Room} {as' : Array Value} {sfI : List Addr} {Q : Option Value → Heap → List Addr → Prop} (M : Met Z a0 EL False n0 l ⟨owner, y.name, y.desc⟩ yb ym yr rm as' h sfI Q) {index : Nat} (w1 : (Cond.methodLink own index y).before a0 Z = true) (w5 : (Cond.sameMethod y.cls owner y.name y.desc).before a0 Z = true) (w2 : (Cond.static ⟨owner, y.name, y.desc⟩).before a0 Z = true) (wz : (Cond.initialized owner).before a0 Z = true) (wc : (Cond.code ⟨owner, y.name, y.desc⟩ yb ym yr).before a0 Z = true) (hy : owner ≠ "java/lang/invoke/MethodHandle" ∧ owner ≠ "java/lang/invoke/VarHandle")
    {argsL rest st : List Value} {W : Nat} {pc pc' : Nat} {L : Array Slot} (hL : L.size = maxL) (has : argsL.toArray = as') (hlen : ∀ sig, parseMethodDescriptor y.desc = some sig → argsL.length = sig.parameters.length) (hst : st = argsL.reverse ++ rest) (hW : (rest.map fun v => v.category).sum = W) (hd : decode bytes pc = .ok (.invokestatic index, 3)) (hp : pc + 3 = pc') (hf : rm.frames + 1 ≤ R.frames) (hl : W + (ym + 11) + rm.locals ≤ R.locals) (hc : C + rm.cells ≤ R.cells) (hsl : S + rm.slots ≤ R.slots) (hsf : ∀ x ∈ sfI, x ∈ sf)
    (k : ∀ T' h' v so, Hs p l e R s m args below meth c Z a0 EL cw own n0 bytes maxL ret nm T' h' (C + rm.cells) (S + rm.slots) (so ++ sf) → Q v h' so → Go p e below P (T'.setTop (mkF m pc' L (v.toList ++ rest)))) : Go p e below P (T.setTop (mkF m pc L st)) := by
  subst hp; subst has
  obtain ⟨hM, vm0, k0, locs, X, h1, h2, h3, h4, h5, h6, h7, h8, h9, hO⟩ := id H
  have wc' := mvT (s := s.setVm vm0) (args := args) h4 wc
  obtain ⟨mk, hnamed⟩ := Cond.code_named wc'
  obtain ⟨methM, cM, hmethM, -, -, -, -, -, -, hsig⟩ := Cond.code_spec hnamed wc'
  obtain ⟨v, vm₁, B, hw, X', ⟨L', so, q1, rO, r1, r2, r3, r4, r5, r6⟩, st'⟩ := X.staticBackUp H.exec h5 (mvT (s := s.setVm vm0) h4 w1) (mvT (s := s.setVm vm0) h4 w5) (mvT (s := s.setVm vm0) h4 w2) (mvT (s := s.setVm vm0) h4 wz) hnamed hmethM hsig hy (M.back (W := W) hM.2.1 h4 wc wz hf hl h7.1 (fun x hx => h8 x (hsf x hx))) (g := mkF m pc L st) rfl (by rw [hM.2.2.2.1]; exact hL) (Steps.refl _) hlen hst (by show 2 * 0 + _ ≤ _; omega) (H.dec hd) (fun _ _ => ⟨rfl, h1, hc, hsl⟩)
  have hg : h.size ≤ B.U.heap.size := r5.2.1
  exact Go.tr st' (k _ _ v so (H.behind (vm₁ := vm₁) h2 h3 h4 h5 h6 h7 h8 h9 (X'.retabled X'.warmed.wide) (X'.warmed.since _) hg r1 r2 r3 r4 r5 r6 (Or.inr X'.warmed) rO) q1)
/-! ## from the case's words to facts at the start -/
theorem own_evI {args : Array Value} {a : Term} {i : Int32} (hq : (Cond.eq a (Term.int i)).value args Z none Z [] = some true) : a.eval args Z none [] Z = some (.int i) := by
  obtain ⟨u, w, hu, hw, k1, k2⟩ := cmp_v (Or.inl hq)
  have e1 : (Term.int i).eval args Z none [] Z = some (.int i) := Term.int_eval i
  cases e1.symm.trans hw
  obtain ⟨z, rfl⟩ := k2
  have e2 : z = i := gotT (Cond.eq_ints hu e1) hq
  subst e2; exact hu
theorem own_evR {args : Array Value} {a b : Term} {y : Addr} (hb : b.eval args Z none [] Z = some (.ref y)) (hq : (Cond.eq a b).value args Z none Z [] = some true) : a.eval args Z none [] Z = some (.ref y) := by
  obtain ⟨u, w, hu, hw, k1, k2⟩ := cmp_v (Or.inl hq)
  cases hb.symm.trans hw
  have e2 : u = .ref y := gotT (eq_R hu hb k2.2 rfl) hq
  subst e2; exact hu
theorem own_len {args : Array Value} {t : Term} {ty : FieldType} {x : Addr} {n : Int32} {cl : Cell} (ev : t.eval args Z none [] Z = some (.ref x)) (A : Arr Z Z.heap x cl ty) (hl : (Cond.eq (Term.length t) (Term.int n)).value args Z none Z [] = some true) : cl.slots.size < 2 ^ 31 ∧ cl.slots.size.toInt32 = n := by
  have e := own_evI hl
  have ha : Z.arrayAt? x = some cl := Arr.fin (U := Z) (Vm.Alike.refl _) A
  by_cases hs : cl.slots.size < 2 ^ 31
  · have q := (len_f ev ha hs).symm.trans e
    exact ⟨hs, by injection q with q; injection q⟩
  · simp [Term.eval, ev, ha, hs] at e
theorem own_el {args : Array Value} {t : Term} {ty : FieldType} {x : Addr} {cl : Cell} {j : Int32} {v : Value} {i : Nat} (ev : t.eval args Z none [] Z = some (.ref x)) (A : Arr Z Z.heap x cl ty) (he : (Term.elem t (Term.int j)).eval args Z none [] Z = some v) (hi : j.toNatClampNeg = i) : cl.slots[i]? = some v := by
  subst hi; exact (elem_in he ev (Term.int_eval j) A.1).2
theorem own_mirlt {K : String} {x : Addr} (F : Mir Z K x) : x < Z.heap.size := by
  obtain ⟨c, k, -, -, -, cell, q, -⟩ := F; exact (Array.getElem?_eq_some_iff.mp q).1
end Kit
end Jvm.OwnKit
/- laws to paste: Road.backV, Road.eqW (cut by pick.py; bodies as the Statement names them) -/
namespace Jvm.Pilot.@@N@@
namespace StrChars
open Jvm Sem ClassFile Op Lib Jvm.Stand Jvm.Free.XT Jvm.Free.ALB Jvm.Free.JM Jvm.Free
open Jvm.Lib.Cold (StaticIs)
/-- a char array whose places are chars -/
def Ch (a : Addr) (A : Cell) (U : State) : Prop := Arr .char a A U ∧ Typed .char A
theorem Ch.mv {a : Addr} {A : Cell} {U U' : State} (h : Ch a A U) (hal : U.vm.Alike U'.vm) (hh : U'.heap = U.heap) : Ch a A U' := ⟨h.1.mv hal hh, h.2⟩
theorem Ch.keep {a : Addr} {A : Cell} {U U' : State} (h : Ch a A U) (hal : U.vm.Alike U'.vm) (hk : U'.heap[a]? = some A) : Ch a A U' := ⟨h.1.keep hal hk, h.2⟩
/-- what place i of a char[]'s cell holds -/
def cv (A : Cell) (i : Nat) : Int32 := match A.slots[i]? with | some (.int x) => x | _ => 0
theorem Ch.get {a : Addr} {A : Cell} {U : State} (h : Ch a A U) {i : Nat} (hi : i < A.slots.size) : A.slots[i]? = some (.int (cv A i)) := by
  have e := Array.getElem?_eq_getElem hi
  have f := h.2 i _ e
  unfold cv; rw [e]
  generalize A.slots[i] = v at f
  cases v <;> simp [fits] at f ⊢
/-- the byte that i2b leaves of a char -/
def lo8 (x : Int32) : Int32 := x.toInt8.toInt32
theorem fits_lo8 (y : Int32) : fits .byte (.int (lo8 y)) = true := by
  have h1 := y.toInt8.le_toInt
  have h2 := y.toInt8.toInt_lt
  simp only [lo8, fits, Bool.and_eq_true, decide_eq_true_eq, Int32.le_iff_toInt_le, Int8.toInt_toInt32, show (-128 : Int32).toInt = -128 from by decide, show (127 : Int32).toInt = 127 from by decide]
  omega
/-- A' is A but that each place j of lo .. hi - 1 holds f j -/
def Laid (A A' : Cell) (lo hi : Nat) (f : Nat → Value) : Prop := A'.cls = A.cls ∧ A'.vm = A.vm ∧ A'.slots.size = A.slots.size ∧ ∀ i, A'.slots[i]? = if lo ≤ i ∧ i < hi then some (f i) else A.slots[i]?
theorem Laid.zero (A : Cell) (lo : Nat) (f : Nat → Value) : Laid A A lo (lo + 0) f := ⟨rfl, rfl, rfl, fun i => by rw [if_neg (by omega)]⟩
theorem Laid.step {A Ak : Cell} {lo k : Nat} {f : Nat → Value} {v : Value} (h : Laid A Ak lo k f) (hlo : lo ≤ k) (hk : k < Ak.slots.size) (hv : v = f k) : Laid A (Ak.setSlot k v) lo (k + 1) f := by
  refine ⟨h.1, h.2.1, by simpa [Cell.setSlot] using h.2.2.1, fun i => ?_⟩
  by_cases e : k = i
  · subst e; rw [Cell.slots_setSlot_self v hk, if_pos (by omega), hv]
  · rw [Cell.slots_setSlot_ne v e, h.2.2.2 i]
    by_cases q : lo ≤ i ∧ i < k
    · rw [if_pos q, if_pos (by omega)]
    · rw [if_neg q, if_neg (by omega)]
def U16 : String := "java/lang/StringUTF16"
namespace Cmp5
def yN : MethodName := ⟨"java/lang/StringUTF16", "compress", "([CI[BII)I"⟩
abbrev yB : ByteArray := jdk_52_method_21_code
theorem d0 : decode yB 0 = .ok (.iconst 0, 1) := by decide +kernel
theorem d1 : decode yB 1 = .ok (.istore 5, 2) := by decide +kernel
theorem d3 : decode yB 3 = .ok (.iload 5, 2) := by decide +kernel
theorem d5 : decode yB 5 = .ok (.iload 4, 2) := by decide +kernel
theorem d7 : decode yB 7 = .ok (.if_icmp (.ge) 37, 3) := by decide +kernel
theorem d10 : decode yB 10 = .ok (.aload_n 0, 1) := by decide +kernel
theorem d11 : decode yB 11 = .ok (.iload_n 1, 1) := by decide +kernel
theorem d12 : decode yB 12 = .ok (.caload, 1) := by decide +kernel
theorem d13 : decode yB 13 = .ok (.istore 6, 2) := by decide +kernel
theorem d15 : decode yB 15 = .ok (.iload 6, 2) := by decide +kernel
theorem d17 : decode yB 17 = .ok (.sipush 255, 3) := by decide +kernel
theorem d20 : decode yB 20 = .ok (.if_icmp (.le) 6, 3) := by decide +kernel
theorem d26 : decode yB 26 = .ok (.aload_n 2, 1) := by decide +kernel
theorem d27 : decode yB 27 = .ok (.iload_n 3, 1) := by decide +kernel
theorem d28 : decode yB 28 = .ok (.iload 6, 2) := by decide +kernel
theorem d30 : decode yB 30 = .ok (.i2b, 1) := by decide +kernel
theorem d31 : decode yB 31 = .ok (.bastore, 1) := by decide +kernel
theorem d32 : decode yB 32 = .ok (.iinc 1 1, 3) := by decide +kernel
theorem d35 : decode yB 35 = .ok (.iinc 3 1, 3) := by decide +kernel
theorem d38 : decode yB 38 = .ok (.iinc 5 1, 3) := by decide +kernel
theorem d41 : decode yB 41 = .ok (.goto (-38), 3) := by decide +kernel
theorem d44 : decode yB 44 = .ok (.iload 4, 2) := by decide +kernel
theorem d46 : decode yB 46 = .ok (.ireturn, 1) := by decide +kernel
def site : List Cond := []
def tab : Cond := tabOf yN yB 7 (some .int) site
def P (b : Addr) (A : Cell) (d : Addr) (B : Cell) (o q len : Nat) (args : Array Value) (s : State) : Prop := args = #[.ref b, .int (Int32.ofNat o), .ref d, .int (Int32.ofNat q), .int (Int32.ofNat len)] ∧ Ch b A s ∧ Arr .byte d B s ∧ b ≠ d ∧ o + len ≤ A.slots.size ∧ q + len ≤ B.slots.size ∧ ∀ i, i < len → ¬ 255 < cv A (o + i)
def E (b : Addr) (A : Cell) (d : Addr) (B : Cell) (o q len : Nat) (r : Option Value) (s u : State) : Prop := r = some (.int (Int32.ofNat len)) ∧ ∃ B', Put d B' s u ∧ Laid B B' q (q + len) (fun j => Value.int (lo8 (cv A (o + (j - q)))))
/-- no char of the range above 255: len; the places written hold each char's low byte -/
theorem law (l : Launch) (b : Addr) (A : Cell) (d : Addr) (B : Cell) (o q len : Nat) : Law l yN 5 5 0 0 yB 7 (some .int) site (P b A d B o q len) (E b A d B o q len) (copyLocs d q len) 0 0 := by
  refine Law.of_walk (plainFor_of_name (by decide +kernel)) (by decide +kernel) (by decide +kernel) (by decide) (fun _ _ h => by rw [h.1]; rfl) (fun _ U U' hal hh h => ⟨h.1, h.2.1.mv hal hh, h.2.2.1.mv hal hh, h.2.2.2⟩) (fun r U U' V V' h1 hal h2 h => ⟨h.1, h.2.elim fun B' q => ⟨B', q.1.mv h1 h2, q.2⟩⟩) ?_
  intro p e s m args below meth c s₁ X0 hexec hbytes hml hret hlk hnm hown hh0 W hP
  obtain ⟨rfl, hA, hB, hne, l1, l2, hp⟩ := hP
  have c1 : Steps p.tables e below (s₁.setTop (entryFrame m #[.ref b, .int (Int32.ofNat o), .ref d, .int (Int32.ofNat q), .int (Int32.ofNat len)] 7)) (s₁.setTop (mkF m 0 #[.val (.ref b), .val (.int (Int32.ofNat o)), .val (.ref d), .val (.int (Int32.ofNat q)), .val (.int (Int32.ofNat len)), .unset, .unset] [])) := entry rfl
  have hA0 := hA.1.mv X0.warmed.alike hh0
  have hB0 := hB.mv X0.warmed.alike hh0
  have a31 := hA.1.2.2.2
  have c2 : Steps p.tables e below (s₁.setTop (entryFrame m #[.ref b, .int (Int32.ofNat o), .ref d, .int (Int32.ofNat q), .int (Int32.ofNat len)] 7)) (s₁.setTop (mkF m 3 #[.val (.ref b), .val (.int (Int32.ofNat o)), .val (.ref d), .val (.int (Int32.ofNat q)), .val (.int (Int32.ofNat len)), .val (.int 0), .unset] [])) := c1.trans (by
    refine iconstV X0.here hexec rfl 0 (hb hbytes d0) (by decide) ?_
    refine XS.istore X0.here hexec rfl (hb hbytes d1) rfl rfl ?_
    exact Steps.refl _)
  have loop : ∀ (r i : Nat), i + r = len → ∀ (z : Slot), (z = .unset ∨ ∃ w, z = .val w ∧ w.category = 1) → ∀ (Tl : State) (Bk : Cell), Stand p l e { frames := 0, locals := 0, cells := 0, slots := 0 } s m #[.ref b, .int (Int32.ofNat o), .ref d, .int (Int32.ofNat q), .int (Int32.ofNat len)] below meth c Tl ([] ++ copyLocs d q i) 0 0 → Put d Bk s₁ Tl → Laid B Bk q (q + i) (fun j => Value.int (lo8 (cv A (o + (j - q))))) →
      Steps p.tables e below (s₁.setTop (entryFrame m #[.ref b, .int (Int32.ofNat o), .ref d, .int (Int32.ofNat q), .int (Int32.ofNat len)] 7)) (Tl.setTop (mkF m 3 #[.val (.ref b), .val (.int (Int32.ofNat (o + i))), .val (.ref d), .val (.int (Int32.ofNat (q + i))), .val (.int (Int32.ofNat len)), .val (.int (Int32.ofNat i)), z] [])) → ∃ (T' : State) (B' : Cell) (z' : Slot), Stand p l e { frames := 0, locals := 0, cells := 0, slots := 0 } s m #[.ref b, .int (Int32.ofNat o), .ref d, .int (Int32.ofNat q), .int (Int32.ofNat len)] below meth c T' ([] ++ copyLocs d q len) 0 0 ∧ Put d B' s₁ T' ∧ Laid B B' q (q + len) (fun j => Value.int (lo8 (cv A (o + (j - q))))) ∧
      Steps p.tables e below (s₁.setTop (entryFrame m #[.ref b, .int (Int32.ofNat o), .ref d, .int (Int32.ofNat q), .int (Int32.ofNat len)] 7)) (T'.setTop (mkF m 3 #[.val (.ref b), .val (.int (Int32.ofNat (o + len))), .val (.ref d), .val (.int (Int32.ofNat (q + len))), .val (.int (Int32.ofNat len)), .val (.int (Int32.ofNat len)), z'] [])) := by
    intro r
    induction r with
    | zero =>
      intro i hi z hz Tl Bk Xl pl fl cl
      have hil : i = len := by omega
      rw [hil] at Xl fl cl
      exact ⟨Tl, Bk, z, Xl, pl, fl, cl⟩
    | succ r ih =>
      intro i hi z hz Tl Bk Xl pl fl cl
      have all := X0.warmed.alike.symm.trans Xl.warmed.alike
      have hAl := hA0.keep all (pl.other hne hA0.1)
      have hBk := hB0.like all pl.1 fl.1 fl.2.1 fl.2.2.1
      have hlt : q + i < Bk.slots.size := by rw [fl.2.2.1]; omega
      have c3 : Steps p.tables e below (s₁.setTop (entryFrame m #[.ref b, .int (Int32.ofNat o), .ref d, .int (Int32.ofNat q), .int (Int32.ofNat len)] 7)) (Tl.setTop (mkF m 12 #[.val (.ref b), .val (.int (Int32.ofNat (o + i))), .val (.ref d), .val (.int (Int32.ofNat (q + i))), .val (.int (Int32.ofNat len)), .val (.int (Int32.ofNat i)), z] [.int (Int32.ofNat (o + i)), .ref b])) := cl.trans (by
        refine XS.iload Xl.here hexec rfl (hb hbytes d3) rfl ?_
        refine XS.iload Xl.here hexec rfl (hb hbytes d5) rfl ?_
        refine XS.icmpNo Xl.here hexec rfl (hb hbytes d7) rfl (ii_ge_f (lt32 (by omega) (by omega))) ?_
        refine XS.aloadN Xl.here hexec rfl (hb hbytes d10) rfl rfl ?_
        refine XS.iloadN Xl.here hexec rfl (hb hbytes d11) rfl ?_
        exact Steps.refl _)
      have c4 : Steps p.tables e below (s₁.setTop (entryFrame m #[.ref b, .int (Int32.ofNat o), .ref d, .int (Int32.ofNat q), .int (Int32.ofNat len)] 7)) (Tl.setTop (mkF m 13 #[.val (.ref b), .val (.int (Int32.ofNat (o + i))), .val (.ref d), .val (.int (Int32.ofNat (q + i))), .val (.int (Int32.ofNat len)), .val (.int (Int32.ofNat i)), z] [.int (cv A (o + i))])) := c3.trans (by
        refine Xl.aget hexec hAl rfl (hA.get (i := o + i) (by omega)) rfl rfl (hb hbytes d12) ?_
        exact Steps.refl _)
      have c5 : Steps p.tables e below (s₁.setTop (entryFrame m #[.ref b, .int (Int32.ofNat o), .ref d, .int (Int32.ofNat q), .int (Int32.ofNat len)] 7)) (Tl.setTop (mkF m 15 #[.val (.ref b), .val (.int (Int32.ofNat (o + i))), .val (.ref d), .val (.int (Int32.ofNat (q + i))), .val (.int (Int32.ofNat len)), .val (.int (Int32.ofNat i)), .val (.int (cv A (o + i)))] [])) := c4.trans (by
        refine XS.istoreS Xl.here hexec rfl (hb hbytes d13) rfl rfl hz ?_
        exact Steps.refl _)
      have c6 : Steps p.tables e below (s₁.setTop (entryFrame m #[.ref b, .int (Int32.ofNat o), .ref d, .int (Int32.ofNat q), .int (Int32.ofNat len)] 7)) (Tl.setTop (mkF m 31 #[.val (.ref b), .val (.int (Int32.ofNat (o + i))), .val (.ref d), .val (.int (Int32.ofNat (q + i))), .val (.int (Int32.ofNat len)), .val (.int (Int32.ofNat i)), .val (.int (cv A (o + i)))] [.int (lo8 (cv A (o + i))), .int (Int32.ofNat (q + i)), .ref d])) := c5.trans (by
        refine XS.iload Xl.here hexec rfl (hb hbytes d15) rfl ?_
        refine sipushV Xl.here hexec rfl 255 (hb hbytes d17) (by decide) ?_
        refine XS.icmpYes Xl.here hexec rfl (pc0 := 20) rfl (hb hbytes d20) rfl (ii_le_t (hp i (by omega))) (by decide) rfl ?_
        refine XS.aloadN Xl.here hexec rfl (hb hbytes d26) rfl rfl ?_
        refine XS.iloadN Xl.here hexec rfl (hb hbytes d27) rfl ?_
        refine XS.iload Xl.here hexec rfl (hb hbytes d28) rfl ?_
        refine i2b Xl.here hexec rfl (hb hbytes d30) rfl ?_
        exact Steps.refl _)
      obtain ⟨T7, X7, p7, st7⟩ := Xl.aput hexec hBk rfl hlt rfl (fits_lo8 (cv A (o + i))) (g := (mkF m 31 #[.val (.ref b), .val (.int (Int32.ofNat (o + i))), .val (.ref d), .val (.int (Int32.ofNat (q + i))), .val (.int (Int32.ofNat len)), .val (.int (Int32.ofNat i)), .val (.int (cv A (o + i)))] [.int (lo8 (cv A (o + i))), .int (Int32.ofNat (q + i)), .ref d])) rfl (rest := []) rfl (hb hbytes d31)
      have c8 : Steps p.tables e below (s₁.setTop (entryFrame m #[.ref b, .int (Int32.ofNat o), .ref d, .int (Int32.ofNat q), .int (Int32.ofNat len)] 7)) (T7.setTop (mkF m 32 #[.val (.ref b), .val (.int (Int32.ofNat (o + i))), .val (.ref d), .val (.int (Int32.ofNat (q + i))), .val (.int (Int32.ofNat len)), .val (.int (Int32.ofNat i)), .val (.int (cv A (o + i)))] [])) := c6.trans (st7 _ (Steps.refl _))
      have c9 : Steps p.tables e below (s₁.setTop (entryFrame m #[.ref b, .int (Int32.ofNat o), .ref d, .int (Int32.ofNat q), .int (Int32.ofNat len)] 7)) (T7.setTop (mkF m 3 #[.val (.ref b), .val (.int (Int32.ofNat (o + i) + 1)), .val (.ref d), .val (.int (Int32.ofNat (q + i) + 1)), .val (.int (Int32.ofNat len)), .val (.int (Int32.ofNat i + 1)), .val (.int (cv A (o + i)))] [])) := c8.trans (by
        refine iincV X7.here hexec rfl 1 (hb hbytes d32) (by decide) rfl rfl ?_
        refine iincV X7.here hexec rfl 1 (hb hbytes d35) (by decide) rfl rfl ?_
        refine iincV X7.here hexec rfl 1 (hb hbytes d38) (by decide) rfl rfl ?_
        refine XS.goto X7.here hexec rfl (pc0 := 41) rfl (hb hbytes d41) (by decide) rfl ?_
        exact Steps.refl _)
      have c10 : Steps p.tables e below (s₁.setTop (entryFrame m #[.ref b, .int (Int32.ofNat o), .ref d, .int (Int32.ofNat q), .int (Int32.ofNat len)] 7)) (T7.setTop (mkF m 3 #[.val (.ref b), .val (.int (Int32.ofNat (o + (i + 1)))), .val (.ref d), .val (.int (Int32.ofNat (q + (i + 1)))), .val (.int (Int32.ofNat len)), .val (.int (Int32.ofNat (i + 1))), .val (.int (cv A (o + i)))] [])) := by
        have := c9
        rw [succ32, succ32, succ32] at this
        exact this
      exact ih (i + 1) (by omega) _ (Or.inr ⟨_, rfl, rfl⟩) T7 _ (by rw [copyLocs_step, ← List.append_assoc]; exact X7) (pl.trans p7) (fl.step (by omega) hlt (by simp)) c10
  obtain ⟨T9, B9, z9, X9, p9, f9, g9⟩ := loop len 0 (by omega) .unset (Or.inl rfl) s₁ B (by simpa [copyLocs] using X0) ⟨hB0.1, fun _ _ => rfl, rfl⟩ (Laid.zero _ _ _) c2
  have c11 : Steps p.tables e below (s₁.setTop (entryFrame m #[.ref b, .int (Int32.ofNat o), .ref d, .int (Int32.ofNat q), .int (Int32.ofNat len)] 7)) (T9.setTop (mkF m 46 #[.val (.ref b), .val (.int (Int32.ofNat (o + len))), .val (.ref d), .val (.int (Int32.ofNat (q + len))), .val (.int (Int32.ofNat len)), .val (.int (Int32.ofNat len)), z9] [.int (Int32.ofNat len)])) := g9.trans (by
    refine XS.iload X9.here hexec rfl (hb hbytes d3) rfl ?_
    refine XS.iload X9.here hexec rfl (hb hbytes d5) rfl ?_
    refine XS.icmpYes X9.here hexec rfl (pc0 := 7) rfl (hb hbytes d7) rfl (ii_ge_t (nlt32 (by omega) (Nat.le_refl _))) (by decide) rfl ?_
    refine XS.iload X9.here hexec rfl (hb hbytes d44) rfl ?_
    exact Steps.refl _)
  exact ⟨T9, some (.int (Int32.ofNat len)), _, _, _, X9, by simp, rfl, rfl, (fun h => by cases h), ⟨rfl, B9, p9.from hh0, f9⟩, fun fs hl => c11.trans (X9.ireturnOut hexec hret rfl (Or.inl rfl) (hb hbytes d46) hl)⟩
end Cmp5
namespace Cmp3
def yN : MethodName := ⟨"java/lang/StringUTF16", "compress", "([CII)[B"⟩
abbrev yB : ByteArray := jdk_52_method_16_code
theorem d0 : decode yB 0 = .ok (.iload_n 2, 1) := by decide +kernel
theorem d1 : decode yB 1 = .ok (.newarray .byte, 2) := by decide +kernel
theorem d3 : decode yB 3 = .ok (.astore_n 3, 1) := by decide +kernel
theorem d4 : decode yB 4 = .ok (.aload_n 0, 1) := by decide +kernel
theorem d5 : decode yB 5 = .ok (.iload_n 1, 1) := by decide +kernel
theorem d6 : decode yB 6 = .ok (.aload_n 3, 1) := by decide +kernel
theorem d7 : decode yB 7 = .ok (.iconst 0, 1) := by decide +kernel
theorem d8 : decode yB 8 = .ok (.iload_n 2, 1) := by decide +kernel
theorem d9 : decode yB 9 = .ok (.invokestatic 115, 3) := by decide +kernel
theorem d12 : decode yB 12 = .ok (.istore 4, 2) := by decide +kernel
theorem d14 : decode yB 14 = .ok (.iload 4, 2) := by decide +kernel
theorem d16 : decode yB 16 = .ok (.iload_n 2, 1) := by decide +kernel
theorem d17 : decode yB 17 = .ok (.if_icmp (.eq) 40, 3) := by decide +kernel
theorem d57 : decode yB 57 = .ok (.aload_n 3, 1) := by decide +kernel
theorem d58 : decode yB 58 = .ok (.areturn, 1) := by decide +kernel
def site : List Cond := [.arrayClass .byte, Cmp5.tab] ++ staticW U16 115 Cmp5.yN
def tab : Cond := tabOf yN yB 6 (some (.array .byte)) site
def P (b : Addr) (A : Cell) (o len : Nat) (args : Array Value) (s : State) : Prop := args = #[.ref b, .int (Int32.ofNat o), .int (Int32.ofNat len)] ∧ Ch b A s ∧ o + len ≤ A.slots.size ∧ len ≤ 536870912 ∧ ∀ i, i < len → ¬ 255 < cv A (o + i)
def E (b : Addr) (A : Cell) (o len : Nat) (r : Option Value) (s u : State) : Prop := NewArr .byte "[B" len (fun j => .int (lo8 (cv A (o + j)))) r s u ∧ u.heap.size = s.heap.size + 1
/-- no char of the range above 255: a new byte[] of their low bytes -/
theorem law (l : Launch) (b : Addr) (A : Cell) (o len : Nat) : Law l yN 3 3 1 18 yB 6 (some (.array .byte)) site (P b A o len) (E b A o len) [] 1 len := by
  refine Law.of_walk (plainFor_of_name (by decide +kernel)) (by decide +kernel) (by decide +kernel) (by decide) (fun _ _ h => by rw [h.1]; rfl) (fun _ U U' hal hh h => ⟨h.1, h.2.1.mv hal hh, h.2.2⟩) (fun r U U' V V' h1 hal h2 h => ⟨NewArr.mv r U U' V V' h1 hal h2 h.1, by rw [h1, h2]; exact h.2⟩) ?_
  intro p e s m args below meth c s₁ X0 hexec hbytes hml hret hlk hnm hown hh0 W hP
  obtain ⟨rfl, hA, l1, l2, hp⟩ := hP
  have a31 := hA.1.2.2.2
  have c1 : Steps p.tables e below (s₁.setTop (entryFrame m #[.ref b, .int (Int32.ofNat o), .int (Int32.ofNat len)] 6)) (s₁.setTop (mkF m 0 #[.val (.ref b), .val (.int (Int32.ofNat o)), .val (.int (Int32.ofNat len)), .unset, .unset, .unset] [])) := entry rfl
  have c2 : Steps p.tables e below (s₁.setTop (entryFrame m #[.ref b, .int (Int32.ofNat o), .int (Int32.ofNat len)] 6)) (s₁.setTop (mkF m 1 #[.val (.ref b), .val (.int (Int32.ofNat o)), .val (.int (Int32.ofNat len)), .unset, .unset, .unset] [.int (Int32.ofNat len)])) := c1.trans (by
    refine XS.iloadN X0.here hexec rfl (hb hbytes d0) rfl ?_
    exact Steps.refl _)
  obtain ⟨T3, B3, X3, ba3, bs3, bv3, bh3, bf3, st3⟩ := X0.anew hexec (atype := .byte) (wk W (.arrayClass .byte)) rfl (by show len * 1 ≤ _; omega) (by omega) (g := (mkF m 1 #[.val (.ref b), .val (.int (Int32.ofNat o)), .val (.int (Int32.ofNat len)), .unset, .unset, .unset] [.int (Int32.ofNat len)])) rfl (hb hbytes d1) (rest := []) rfl (Nat.le_refl _) (by show 0 + len ≤ len; omega)
  rw [hh0] at ba3 st3
  have kp3 : XT.Kept s T3 := (XT.Kept.of_eq hh0).push bh3
  have hA3 := hA.keep X3.warmed.alike (kp3 _ _ hA.1.1)
  have hne : b ≠ s.heap.size := hA.1.ne
  have c4 : Steps p.tables e below (s₁.setTop (entryFrame m #[.ref b, .int (Int32.ofNat o), .int (Int32.ofNat len)] 6)) (T3.setTop (mkF m 3 #[.val (.ref b), .val (.int (Int32.ofNat o)), .val (.int (Int32.ofNat len)), .unset, .unset, .unset] [.ref s.heap.size])) := c2.trans (st3 _ (Steps.refl _))
  have c5 : Steps p.tables e below (s₁.setTop (entryFrame m #[.ref b, .int (Int32.ofNat o), .int (Int32.ofNat len)] 6)) (T3.setTop (mkF m 9 #[.val (.ref b), .val (.int (Int32.ofNat o)), .val (.int (Int32.ofNat len)), .val (.ref s.heap.size), .unset, .unset] [.int (Int32.ofNat len), .int 0, .ref s.heap.size, .int (Int32.ofNat o), .ref b])) := c4.trans (by
    refine XS.astoreN X3.here hexec rfl (hb hbytes d3) rfl rfl rfl ?_
    refine XS.aloadN X3.here hexec rfl (hb hbytes d4) rfl rfl ?_
    refine XS.iloadN X3.here hexec rfl (hb hbytes d5) rfl ?_
    refine XS.aloadN X3.here hexec rfl (hb hbytes d6) rfl rfl ?_
    refine iconstV X3.here hexec rfl 0 (hb hbytes d7) (by decide) ?_
    refine XS.iloadN X3.here hexec rfl (hb hbytes d8) rfl ?_
    exact Steps.refl _)
  obtain ⟨v6, T6, X6, E6, g6⟩ := X3.callS hexec (Cmp5.law l b A s.heap.size B3 o 0 len) hown (wks W (staticW U16 115 Cmp5.yN)) (wk W Cmp5.tab) (W := 0) (Nat.le_of_ble_eq_true rfl) (Nat.le_of_ble_eq_true rfl) (Nat.le_refl _) (by show 0 + len + 0 ≤ len; omega) (g := (mkF m 9 #[.val (.ref b), .val (.int (Int32.ofNat o)), .val (.int (Int32.ofNat len)), .val (.ref s.heap.size), .unset, .unset] [.int (Int32.ofNat len), .int (Int32.ofNat 0), .ref s.heap.size, .int (Int32.ofNat o), .ref b])) rfl (by rw [hml]; rfl) c5 (argsL := [.ref b, .int (Int32.ofNat o), .ref s.heap.size, .int (Int32.ofNat 0), .int (Int32.ofNat len)]) (rest := []) rfl rfl (by show 2 * 0 + 0 ≤ _; decide) (hb hbytes d9) (⟨rfl, hA3, ba3, hne, l1, by rw [bs3]; simp, hp⟩)
  obtain ⟨rfl, B6, p6, f6⟩ := E6
  have c7 : Steps p.tables e below (s₁.setTop (entryFrame m #[.ref b, .int (Int32.ofNat o), .int (Int32.ofNat len)] 6)) (T6.setTop (mkF m 12 #[.val (.ref b), .val (.int (Int32.ofNat o)), .val (.int (Int32.ofNat len)), .val (.ref s.heap.size), .unset, .unset] [.int (Int32.ofNat len)])) := g6
  have c8 : Steps p.tables e below (s₁.setTop (entryFrame m #[.ref b, .int (Int32.ofNat o), .int (Int32.ofNat len)] 6)) (T6.setTop (mkF m 58 #[.val (.ref b), .val (.int (Int32.ofNat o)), .val (.int (Int32.ofNat len)), .val (.ref s.heap.size), .val (.int (Int32.ofNat len)), .unset] [.ref s.heap.size])) := c7.trans (by
    refine XS.istore X6.here hexec rfl (hb hbytes d12) rfl rfl ?_
    refine XS.iload X6.here hexec rfl (hb hbytes d14) rfl ?_
    refine XS.iloadN X6.here hexec rfl (hb hbytes d16) rfl ?_
    refine XS.icmpYes X6.here hexec rfl (pc0 := 17) rfl (hb hbytes d17) rfl (ii_eq_t rfl) (by decide) rfl ?_
    refine XS.aloadN X6.here hexec rfl (hb hbytes d57) rfl rfl ?_
    exact Steps.refl _)
  have X8 := X6.wide (L' := []) (cells' := 1) (slots' := len) (fun x hx hlt => by
    simp only [List.nil_append, copyLocs, List.mem_map, List.mem_range] at hx
    obtain ⟨i, -, rfl⟩ := hx
    exact absurd hlt (Nat.lt_irrefl _)) (Nat.le_refl _) (by omega)
  exact ⟨T6, some (.ref s.heap.size), _, _, _, X8, rfl, rfl, rfl, (fun h => by cases h), ⟨⟨rfl, B6, ba3.like (X3.warmed.alike.symm.trans X6.warmed.alike) p6.1 f6.1 f6.2.1 f6.2.2.1, f6.2.1.trans bv3, by rw [X6.warmed.alike.findClass, f6.1]; exact bf3, by rw [f6.2.2.1, bs3]; simp, fun j hj => by rw [f6.2.2.2 j, if_pos (by omega)]; rfl, kp3.put p6 (Nat.le_refl _)⟩, by rw [p6.2.2, bh3, hh0]; simp⟩, fun fs hl => c8.trans (X8.areturnOut hexec rfl hret rfl (hb hbytes d58) hl)⟩
end Cmp3
namespace CodL
def yN : MethodName := ⟨"java/lang/StringUTF16", "coderFromArrayLen", "([BI)B"⟩
abbrev yB : ByteArray := jdk_52_method_15_code
theorem d0 : decode yB 0 = .ok (.iload_n 1, 1) := by decide +kernel
theorem d1 : decode yB 1 = .ok (.aload_n 0, 1) := by decide +kernel
theorem d2 : decode yB 2 = .ok (.arraylength, 1) := by decide +kernel
theorem d3 : decode yB 3 = .ok (.isub, 1) := by decide +kernel
theorem d4 : decode yB 4 = .ok (.bipush 31, 2) := by decide +kernel
theorem d6 : decode yB 6 = .ok (.iushr, 1) := by decide +kernel
theorem d7 : decode yB 7 = .ok (.i2b, 1) := by decide +kernel
theorem d8 : decode yB 8 = .ok (.ireturn, 1) := by decide +kernel
def site : List Cond := []
def tab : Cond := tabOf yN yB 2 (some .byte) site
def P (d : Addr) (B : Cell) (args : Array Value) (s : State) : Prop := args = #[.ref d, .int (Int32.ofNat B.slots.size)] ∧ Arr .byte d B s
def E (r : Option Value) (s u : State) : Prop := XT.PureE (some (.int 0)) r s u
/-- an array as long as the number of chars: LATIN1 -/
theorem law (l : Launch) (d : Addr) (B : Cell) : Law l yN 2 2 0 0 yB 2 (some .byte) site (P d B) E [] 0 0 := by
  refine Law.of_walk (plainFor_of_name (by decide +kernel)) (by decide +kernel) (by decide +kernel) (by decide) (fun _ _ h => by rw [h.1]; rfl) (fun _ U U' hal hh h => ⟨h.1, h.2.mv hal hh⟩) (fun r U U' V V' h1 hal h2 h => XT.PureE.mv r U U' V V' h1 hal h2 h) ?_
  intro p e s m args below meth c s₁ X0 hexec hbytes hml hret hlk hnm hown hh0 W hP
  obtain ⟨rfl, hB⟩ := hP
  have hB0 := hB.mv X0.warmed.alike hh0
  have c1 : Steps p.tables e below (s₁.setTop (entryFrame m #[.ref d, .int (Int32.ofNat B.slots.size)] 2)) (s₁.setTop (mkF m 0 #[.val (.ref d), .val (.int (Int32.ofNat B.slots.size))] [])) := entry rfl
  have c2 : Steps p.tables e below (s₁.setTop (entryFrame m #[.ref d, .int (Int32.ofNat B.slots.size)] 2)) (s₁.setTop (mkF m 2 #[.val (.ref d), .val (.int (Int32.ofNat B.slots.size))] [.ref d, .int (Int32.ofNat B.slots.size)])) := c1.trans (by
    refine XS.iloadN X0.here hexec rfl (hb hbytes d0) rfl ?_
    refine XS.aloadN X0.here hexec rfl (hb hbytes d1) rfl rfl ?_
    exact Steps.refl _)
  have c3 : Steps p.tables e below (s₁.setTop (entryFrame m #[.ref d, .int (Int32.ofNat B.slots.size)] 2)) (s₁.setTop (mkF m 8 #[.val (.ref d), .val (.int (Int32.ofNat B.slots.size))] [.int (lo8 (ushr (Int32.ofNat B.slots.size - Int32.ofNat B.slots.size) 31))])) := c2.trans (by
    refine X0.alen hexec hB0 rfl rfl (hb hbytes d2) ?_
    refine XS.isub X0.here hexec rfl (hb hbytes d3) rfl ?_
    refine bipushV X0.here hexec rfl 31 (hb hbytes d4) (by decide) ?_
    refine iushr X0.here hexec rfl (hb hbytes d6) rfl ?_
    refine i2b X0.here hexec rfl (hb hbytes d7) rfl ?_
    exact Steps.refl _)
  have e0 : lo8 (ushr (Int32.ofNat B.slots.size - Int32.ofNat B.slots.size) 31) = 0 := by rw [Int32.sub_self]; decide
  rw [e0] at c3
  exact ⟨s₁, some (.int 0), _, _, _, X0, rfl, rfl, rfl, (fun h => by cases h), ⟨rfl, hh0⟩, fun fs hl => c3.trans (X0.ireturnOut hexec hret rfl (Or.inr (Or.inr (Or.inl rfl))) (hb hbytes d8) hl)⟩
end CodL
/-- the String at a is Latin-1 over a new byte[] (the heap's one new cell): the low bytes of the len chars of A from o on; every cell but a is kept -/
def Got (a : Addr) (D : Cell) (fV fC : Field) (A : Cell) (o len : Nat) (r : Option Value) (s u : State) : Prop := r = none ∧ ∃ D' V : Cell, Blank "java/lang/String" a D' u ∧ Same D D' [fV.slot, fC.slot] ∧ D'.slots[fV.slot]? = some (.ref s.heap.size) ∧ D'.slots[fC.slot]? = some (.int 0) ∧ Arr .byte s.heap.size V u ∧ V.vm = .none ∧ u.vm.findClass "[B" = some V.cls ∧ V.slots.size = len ∧ (∀ j, j < len → V.slots[j]? = some (.int (lo8 (cv A (o + j))))) ∧ (∀ (y : Addr) (c : Cell), y ≠ a → s.heap[y]? = some c → u.heap[y]? = some c) ∧ u.heap.size = s.heap.size + 1
theorem Got.mv {a : Addr} {D A : Cell} {fV fC : Field} {o len : Nat} : ∀ r (U U' V V' : State), U'.heap = U.heap → V.vm.Alike V'.vm → V'.heap = V.heap → Got a D fV fC A o len r U V → Got a D fV fC A o len r U' V' :=
  fun r U U' V V' h1 hal h2 ⟨e0, D', X, a1, a2, a3, a4, a5, a6, a7, a8, a9, a10, a11⟩ => ⟨e0, D', X, a1.mv hal h2, a2, by rw [h1]; exact a3, a4, by rw [h1]; exact a5.mv hal h2, a6, by rw [hal.findClass]; exact a7, a8, a9, by rw [h1, h2]; exact a10, by rw [h1, h2]; exact a11⟩
namespace New4
def yN : MethodName := ⟨"java/lang/String", "<init>", "([CIILjava/lang/Void;)V"⟩
abbrev yB : ByteArray := jdk_42_method_149_code
theorem d0 : decode yB 0 = .ok (.aload_n 0, 1) := by decide +kernel
theorem d1 : decode yB 1 = .ok (.invokespecial 1, 3) := by decide +kernel
theorem d4 : decode yB 4 = .ok (.iload_n 3, 1) := by decide +kernel
theorem d5 : decode yB 5 = .ok (.ifCond (.ne) 22, 3) := by decide +kernel
theorem d27 : decode yB 27 = .ok (.getstatic 38, 3) := by decide +kernel
theorem d30 : decode yB 30 = .ok (.ifCond (.eq) 28, 3) := by decide +kernel
theorem d33 : decode yB 33 = .ok (.aload_n 1, 1) := by decide +kernel
theorem d34 : decode yB 34 = .ok (.iload_n 2, 1) := by decide +kernel
theorem d35 : decode yB 35 = .ok (.iload_n 3, 1) := by decide +kernel
theorem d36 : decode yB 36 = .ok (.invokestatic 177, 3) := by decide +kernel
theorem d39 : decode yB 39 = .ok (.astore 5, 2) := by decide +kernel
theorem d41 : decode yB 41 = .ok (.aload_n 0, 1) := by decide +kernel
theorem d42 : decode yB 42 = .ok (.aload 5, 2) := by decide +kernel
theorem d44 : decode yB 44 = .ok (.iload_n 3, 1) := by decide +kernel
theorem d45 : decode yB 45 = .ok (.invokestatic 47, 3) := by decide +kernel
theorem d48 : decode yB 48 = .ok (.putfield 15, 3) := by decide +kernel
theorem d51 : decode yB 51 = .ok (.aload_n 0, 1) := by decide +kernel
theorem d52 : decode yB 52 = .ok (.aload 5, 2) := by decide +kernel
theorem d54 : decode yB 54 = .ok (.putfield 9, 3) := by decide +kernel
theorem d57 : decode yB 57 = .ok (.return_, 1) := by decide +kernel
def site : List Cond := [.fieldLink "java/lang/String" 38 "java/lang/String" "COMPACT_STRINGS" "Z", Cmp3.tab, CodL.tab, .laysFinal "java/lang/String" "java/lang/String" "value" "[B", .fieldLink "java/lang/String" 9 "java/lang/String" "value" "[B", .laysFinal "java/lang/String" "java/lang/String" "coder" "B", .fieldLink "java/lang/String" 15 "java/lang/String" "coder" "B"] ++ objW "java/lang/String" 1 ++ staticW "java/lang/String" 177 Cmp3.yN ++ staticW "java/lang/String" 47 CodL.yN
def tab : Cond := tabOf yN yB 6 none site
def P (a : Addr) (D : Cell) (fV fC : Field) (b : Addr) (A : Cell) (z : Int32) (o len : Nat) (args : Array Value) (s : State) : Prop := args = #[.ref a, .ref b, .int (Int32.ofNat o), .int (Int32.ofNat len), .null] ∧ Blank "java/lang/String" a D s ∧ Found "java/lang/String" "value" "[B" fV s ∧ Found "java/lang/String" "coder" "B" fC s ∧ Ch b A s ∧ StaticIs s "java/lang/String" "COMPACT_STRINGS" "Z" (.int z) ∧ ¬ z = 0 ∧ 0 < len ∧ o + len ≤ A.slots.size ∧ len ≤ 536870912 ∧ ∀ i, i < len → ¬ 255 < cv A (o + i)
def E (a : Addr) (D : Cell) (fV fC : Field) (A : Cell) (o len : Nat) (r : Option Value) (s u : State) : Prop := Got a D fV fC A o len r s u
/-- len > 0, no char of the range above 255: a Latin-1 String of their low bytes -/
theorem law (l : Launch) (a : Addr) (D : Cell) (fV fC : Field) (b : Addr) (A : Cell) (z : Int32) (o len : Nat) : Law l yN 5 4 2 35 yB 6 none site (P a D fV fC b A z o len) (E a D fV fC A o len) [⟨a, fC.slot⟩, ⟨a, fV.slot⟩] 1 len := by
  refine Law.of_walk (plainFor_of_name (by decide +kernel)) (by decide +kernel) (by decide +kernel) (by decide) (fun _ _ h => by rw [h.1]; rfl) (fun _ U U' hal hh h => ⟨h.1, h.2.1.mv hal hh, h.2.2.1.al hal, h.2.2.2.1.al hal, h.2.2.2.2.1.mv hal hh, h.2.2.2.2.2.1.there hal hh, h.2.2.2.2.2.2⟩) (fun r U U' V V' h1 hal h2 h => Got.mv r U U' V V' h1 hal h2 h) ?_
  intro p e s m args below meth c s₁ X0 hexec hbytes hml hret hlk hnm hown hh0 W hP
  obtain ⟨rfl, hB, f1, f2, hA, s1, hz, l0, l1, l2, hp⟩ := hP
  have a31 := hA.1.2.2.2
  have c1 : Steps p.tables e below (s₁.setTop (entryFrame m #[.ref a, .ref b, .int (Int32.ofNat o), .int (Int32.ofNat len), .null] 6)) (s₁.setTop (mkF m 0 #[.val (.ref a), .val (.ref b), .val (.int (Int32.ofNat o)), .val (.int (Int32.ofNat len)), .val .null, .unset] [])) := entry rfl
  have c2 : Steps p.tables e below (s₁.setTop (entryFrame m #[.ref a, .ref b, .int (Int32.ofNat o), .int (Int32.ofNat len), .null] 6)) (s₁.setTop (mkF m 1 #[.val (.ref a), .val (.ref b), .val (.int (Int32.ofNat o)), .val (.int (Int32.ofNat len)), .val .null, .unset] [.ref a])) := c1.trans (by
    refine XS.aloadN X0.here hexec rfl (hb hbytes d0) rfl rfl ?_
    exact Steps.refl _)
  obtain ⟨T3, X3, q3, st3⟩ := X0.oinit hexec hown (wks W (objW "java/lang/String" 1)) (g := (mkF m 1 #[.val (.ref a), .val (.ref b), .val (.int (Int32.ofNat o)), .val (.int (Int32.ofNat len)), .val .null, .unset] [.ref a])) rfl (by rw [hml]; rfl) (rest := []) rfl (hb hbytes d1) (W := 0) (by show 2 * 0 + 0 ≤ _; decide) (Nat.le_of_ble_eq_true rfl) (Nat.le_of_ble_eq_true rfl)
  have hh3 := q3.trans hh0
  have c4 : Steps p.tables e below (s₁.setTop (entryFrame m #[.ref a, .ref b, .int (Int32.ofNat o), .int (Int32.ofNat len), .null] 6)) (T3.setTop (mkF m 27 #[.val (.ref a), .val (.ref b), .val (.int (Int32.ofNat o)), .val (.int (Int32.ofNat len)), .val .null, .unset] [])) := (c2.trans (st3 _ (Steps.refl _))).trans (by
    refine XS.iloadN X3.here hexec rfl (hb hbytes d4) rfl ?_
    refine XS.ifYes X3.here hexec rfl (pc0 := 5) rfl (hb hbytes d5) rfl (i0_ne_t (nz32 (by omega) l0)) (by decide) rfl ?_
    exact Steps.refl _)
  obtain ⟨T5, X5, q5, st5⟩ := X3.sget hexec hown (wk W (.fieldLink "java/lang/String" 38 "java/lang/String" "COMPACT_STRINGS" "Z")) s1 (fun _ _ h => by rw [hh3]; exact h) (g := (mkF m 27 #[.val (.ref a), .val (.ref b), .val (.int (Int32.ofNat o)), .val (.int (Int32.ofNat len)), .val .null, .unset] [])) rfl (hb hbytes d27)
  have hh5 := q5.trans hh3
  have c6 : Steps p.tables e below (s₁.setTop (entryFrame m #[.ref a, .ref b, .int (Int32.ofNat o), .int (Int32.ofNat len), .null] 6)) (T5.setTop (mkF m 30 #[.val (.ref a), .val (.ref b), .val (.int (Int32.ofNat o)), .val (.int (Int32.ofNat len)), .val .null, .unset] [.int z])) := c4.trans (st5 _ (Steps.refl _))
  have c7 : Steps p.tables e below (s₁.setTop (entryFrame m #[.ref a, .ref b, .int (Int32.ofNat o), .int (Int32.ofNat len), .null] 6)) (T5.setTop (mkF m 36 #[.val (.ref a), .val (.ref b), .val (.int (Int32.ofNat o)), .val (.int (Int32.ofNat len)), .val .null, .unset] [.int (Int32.ofNat len), .int (Int32.ofNat o), .ref b])) := c6.trans (by
    refine XS.ifNo X5.here hexec rfl (hb hbytes d30) rfl (i0_eq_f hz) ?_
    refine XS.aloadN X5.here hexec rfl (hb hbytes d33) rfl rfl ?_
    refine XS.iloadN X5.here hexec rfl (hb hbytes d34) rfl ?_
    refine XS.iloadN X5.here hexec rfl (hb hbytes d35) rfl ?_
    exact Steps.refl _)
  obtain ⟨v8, T8, X8, E8, g8⟩ := X5.callS hexec (Cmp3.law l b A o len) hown (wks W (staticW "java/lang/String" 177 Cmp3.yN)) (wk W Cmp3.tab) (W := 0) (Nat.le_of_ble_eq_true rfl) (Nat.le_of_ble_eq_true rfl) (Nat.le_refl _) (by show 0 + len ≤ len; omega) (g := (mkF m 36 #[.val (.ref a), .val (.ref b), .val (.int (Int32.ofNat o)), .val (.int (Int32.ofNat len)), .val .null, .unset] [.int (Int32.ofNat len), .int (Int32.ofNat o), .ref b])) rfl (by rw [hml]; rfl) c7 (argsL := [.ref b, .int (Int32.ofNat o), .int (Int32.ofNat len)]) (rest := []) rfl rfl (by show 2 * 0 + 0 ≤ _; decide) (hb hbytes d36) (⟨rfl, hA.mv X5.warmed.alike hh5, l1, l2, hp⟩)
  obtain ⟨e8, z8⟩ := E8
  obtain ⟨rfl, N, n1, n2, n3, n4, n5, n6⟩ := NewArr.mv _ T5 s _ _ hh5.symm (Vm.Alike.refl _) rfl e8
  rw [hh5] at z8
  have hB1 := hB.keep X8.warmed.alike (n6 _ _ hB.1)
  have hne : s.heap.size ≠ a := (Nat.ne_of_lt (Array.getElem?_eq_some_iff.mp hB.1).1).symm
  have c9 : Steps p.tables e below (s₁.setTop (entryFrame m #[.ref a, .ref b, .int (Int32.ofNat o), .int (Int32.ofNat len), .null] 6)) (T8.setTop (mkF m 39 #[.val (.ref a), .val (.ref b), .val (.int (Int32.ofNat o)), .val (.int (Int32.ofNat len)), .val .null, .unset] [.ref s.heap.size])) := g8
  have c10 : Steps p.tables e below (s₁.setTop (entryFrame m #[.ref a, .ref b, .int (Int32.ofNat o), .int (Int32.ofNat len), .null] 6)) (T8.setTop (mkF m 45 #[.val (.ref a), .val (.ref b), .val (.int (Int32.ofNat o)), .val (.int (Int32.ofNat len)), .val .null, .val (.ref s.heap.size)] [.int (Int32.ofNat N.slots.size), .ref s.heap.size, .ref a])) := by
    have hc : Steps p.tables e below (s₁.setTop (entryFrame m #[.ref a, .ref b, .int (Int32.ofNat o), .int (Int32.ofNat len), .null] 6)) (T8.setTop (mkF m 45 #[.val (.ref a), .val (.ref b), .val (.int (Int32.ofNat o)), .val (.int (Int32.ofNat len)), .val .null, .val (.ref s.heap.size)] [.int (Int32.ofNat len), .ref s.heap.size, .ref a])) := c9.trans (by
      refine XS.astore X8.here hexec rfl (hb hbytes d39) rfl rfl rfl ?_
      refine XS.aloadN X8.here hexec rfl (hb hbytes d41) rfl rfl ?_
      refine XS.aload X8.here hexec rfl (hb hbytes d42) rfl rfl ?_
      refine XS.iloadN X8.here hexec rfl (hb hbytes d44) rfl ?_
      exact Steps.refl _)
    rw [n4]; exact hc
  obtain ⟨v11, T11, X11, E11, g11⟩ := X8.callS hexec (CodL.law l s.heap.size N) hown (wks W (staticW "java/lang/String" 47 CodL.yN)) (wk W CodL.tab) (W := 1) (Nat.le_of_ble_eq_true rfl) (Nat.le_of_ble_eq_true rfl) (Nat.le_refl _) (by show 0 + len + 0 ≤ len; omega) (g := (mkF m 45 #[.val (.ref a), .val (.ref b), .val (.int (Int32.ofNat o)), .val (.int (Int32.ofNat len)), .val .null, .val (.ref s.heap.size)] [.int (Int32.ofNat N.slots.size), .ref s.heap.size, .ref a])) rfl (by rw [hml]; rfl) c10 (argsL := [.ref s.heap.size, .int (Int32.ofNat N.slots.size)]) (rest := [.ref a]) rfl rfl (by show 2 * 0 + (1 + 0) ≤ _; decide) (hb hbytes d45) (⟨rfl, n1⟩)
  obtain ⟨rfl, q11⟩ := E11
  have hB11 := hB1.mv (X8.warmed.alike.symm.trans X11.warmed.alike) q11
  have c12 : Steps p.tables e below (s₁.setTop (entryFrame m #[.ref a, .ref b, .int (Int32.ofNat o), .int (Int32.ofNat len), .null] 6)) (T11.setTop (mkF m 48 #[.val (.ref a), .val (.ref b), .val (.int (Int32.ofNat o)), .val (.int (Int32.ofNat len)), .val .null, .val (.ref s.heap.size)] [.int 0, .ref a])) := g11
  obtain ⟨T13, X13, p13, bl13, sl13, st13⟩ := X11.finit hexec hown (wk W (.fieldLink "java/lang/String" 15 "java/lang/String" "coder" "B")) (Or.inr ⟨_, (wk W (.laysFinal "java/lang/String" "java/lang/String" "coder" "B"))⟩) (Or.inl ⟨rfl, hnm⟩) f2 (Or.inl rfl) hB11 (t := .byte) (by decide +kernel) rfl (g := (mkF m 48 #[.val (.ref a), .val (.ref b), .val (.int (Int32.ofNat o)), .val (.int (Int32.ofNat len)), .val .null, .val (.ref s.heap.size)] [.int 0, .ref a])) rfl (rest := []) rfl (hb hbytes d48)
  have c14 : Steps p.tables e below (s₁.setTop (entryFrame m #[.ref a, .ref b, .int (Int32.ofNat o), .int (Int32.ofNat len), .null] 6)) (T13.setTop (mkF m 54 #[.val (.ref a), .val (.ref b), .val (.int (Int32.ofNat o)), .val (.int (Int32.ofNat len)), .val .null, .val (.ref s.heap.size)] [.ref s.heap.size, .ref a])) := (c12.trans (st13 _ (Steps.refl _))).trans (by
    refine XS.aloadN X13.here hexec rfl (hb hbytes d51) rfl rfl ?_
    refine XS.aload X13.here hexec rfl (hb hbytes d52) rfl rfl ?_
    exact Steps.refl _)
  obtain ⟨T15, X15, p15, bl15, sl15, st15⟩ := X13.finit hexec hown (wk W (.fieldLink "java/lang/String" 9 "java/lang/String" "value" "[B")) (Or.inr ⟨_, (wk W (.laysFinal "java/lang/String" "java/lang/String" "value" "[B"))⟩) (Or.inl ⟨rfl, hnm⟩) f1 (Or.inl rfl) bl13 (t := (.array .byte)) (by decide +kernel) rfl (g := (mkF m 54 #[.val (.ref a), .val (.ref b), .val (.int (Int32.ofNat o)), .val (.int (Int32.ofNat len)), .val .null, .val (.ref s.heap.size)] [.ref s.heap.size, .ref a])) rfl (rest := []) rfl (hb hbytes d54)
  have c16 : Steps p.tables e below (s₁.setTop (entryFrame m #[.ref a, .ref b, .int (Int32.ofNat o), .int (Int32.ofNat len), .null] 6)) (T15.setTop (mkF m 57 #[.val (.ref a), .val (.ref b), .val (.int (Int32.ofNat o)), .val (.int (Int32.ofNat len)), .val .null, .val (.ref s.heap.size)] [])) := c14.trans (st15 _ (Steps.refl _))
  have ap := apart (Or.inr ⟨_, (wk W (.laysFinal "java/lang/String" "java/lang/String" "value" "[B"))⟩) (Or.inr ⟨_, (wk W (.laysFinal "java/lang/String" "java/lang/String" "coder" "B"))⟩) f1 f2 (t₁ := .array .byte) (t₂ := .byte) (by decide +kernel) (by decide +kernel) (by decide)
  have al := X8.warmed.alike.symm.trans X15.warmed.alike
  have n7 : T11.heap[s.heap.size]? = some N := by rw [q11]; exact n1.1
  exact ⟨T15, none, _, _, _, X15, by simp, rfl, by omega, (fun _ => rfl), ⟨rfl, _, N, bl15, ((Same.refl D _).set _ (by simp)).set _ (by simp), sl15, (Cell.slots_setSlot_ne _ ap).trans sl13, n1.keep al (p15.other hne (p13.other hne n7)), n2, by rw [al.findClass]; exact n3, n4, n5, fun y c h1 h2 => p15.other h1 (p13.other h1 (by rw [q11]; exact n6 y c h2)), by rw [p15.2.2, p13.2.2, q11]; exact z8⟩, fun fs hl => c16.trans (X15.returnOut hexec hret (hb hbytes d57) hl)⟩
end New4
namespace New1
def yN : MethodName := ⟨"java/lang/String", "<init>", "([C)V"⟩
abbrev yB : ByteArray := jdk_42_method_3_code
theorem d0 : decode yB 0 = .ok (.aload_n 0, 1) := by decide +kernel
theorem d1 : decode yB 1 = .ok (.aload_n 1, 1) := by decide +kernel
theorem d2 : decode yB 2 = .ok (.iconst 0, 1) := by decide +kernel
theorem d3 : decode yB 3 = .ok (.aload_n 1, 1) := by decide +kernel
theorem d4 : decode yB 4 = .ok (.arraylength, 1) := by decide +kernel
theorem d5 : decode yB 5 = .ok (.aconst_null, 1) := by decide +kernel
theorem d6 : decode yB 6 = .ok (.invokespecial 27, 3) := by decide +kernel
theorem d9 : decode yB 9 = .ok (.return_, 1) := by decide +kernel
def site : List Cond := [New4.tab] ++ initW "java/lang/String" 27 New4.yN
def tab : Cond := tabOf yN yB 2 none site
def P (a : Addr) (D : Cell) (fV fC : Field) (b : Addr) (A : Cell) (z : Int32) (args : Array Value) (s : State) : Prop := args = #[.ref a, .ref b] ∧ Blank "java/lang/String" a D s ∧ Found "java/lang/String" "value" "[B" fV s ∧ Found "java/lang/String" "coder" "B" fC s ∧ Ch b A s ∧ StaticIs s "java/lang/String" "COMPACT_STRINGS" "Z" (.int z) ∧ ¬ z = 0 ∧ 0 < A.slots.size ∧ A.slots.size ≤ 536870912 ∧ ∀ i, i < A.slots.size → ¬ 255 < cv A i
def E (a : Addr) (D : Cell) (fV fC : Field) (A : Cell) (r : Option Value) (s u : State) : Prop := Got a D fV fC A 0 A.slots.size r s u
/-- new String(chars), not empty, no char above 255: a Latin-1 String of their low bytes -/
theorem law (l : Launch) (a : Addr) (D : Cell) (fV fC : Field) (b : Addr) (A : Cell) (z : Int32) : Law l yN 2 1 3 52 yB 2 none site (P a D fV fC b A z) (E a D fV fC A) [⟨a, fC.slot⟩, ⟨a, fV.slot⟩] 1 A.slots.size := by
  refine Law.of_walk (plainFor_of_name (by decide +kernel)) (by decide +kernel) (by decide +kernel) (by decide) (fun _ _ h => by rw [h.1]; rfl) (fun _ U U' hal hh h => ⟨h.1, h.2.1.mv hal hh, h.2.2.1.al hal, h.2.2.2.1.al hal, h.2.2.2.2.1.mv hal hh, h.2.2.2.2.2.1.there hal hh, h.2.2.2.2.2.2⟩) (fun r U U' V V' h1 hal h2 h => Got.mv r U U' V V' h1 hal h2 h) ?_
  intro p e s m args below meth c s₁ X0 hexec hbytes hml hret hlk hnm hown hh0 W hP
  obtain ⟨rfl, hB, f1, f2, hA, s1, hz, l0, l2, hp⟩ := hP
  have c1 : Steps p.tables e below (s₁.setTop (entryFrame m #[.ref a, .ref b] 2)) (s₁.setTop (mkF m 0 #[.val (.ref a), .val (.ref b)] [])) := entry rfl
  have c2 : Steps p.tables e below (s₁.setTop (entryFrame m #[.ref a, .ref b] 2)) (s₁.setTop (mkF m 6 #[.val (.ref a), .val (.ref b)] [.null, .int (Int32.ofNat A.slots.size), .int 0, .ref b, .ref a])) := c1.trans (by
    refine XS.aloadN X0.here hexec rfl (hb hbytes d0) rfl rfl ?_
    refine XS.aloadN X0.here hexec rfl (hb hbytes d1) rfl rfl ?_
    refine iconstV X0.here hexec rfl 0 (hb hbytes d2) (by decide) ?_
    refine XS.aloadN X0.here hexec rfl (hb hbytes d3) rfl rfl ?_
    refine X0.alen hexec (hA.1.mv X0.warmed.alike hh0) rfl rfl (hb hbytes d4) ?_
    refine XS.aconstNull X0.here hexec rfl (hb hbytes d5) ?_
    exact Steps.refl _)
  obtain ⟨v3, T3, X3, E3, g3⟩ := X0.callN hexec (New4.law l a D fV fC b A z 0 A.slots.size) rfl hown (wks W (initW "java/lang/String" 27 New4.yN)) (W New4.tab (by simp only [site, List.mem_cons, List.mem_append, true_or, or_true])) (W := 0) (Nat.le_of_ble_eq_true rfl) (Nat.le_of_ble_eq_true rfl) (Nat.le_refl _) (by show 0 + A.slots.size ≤ A.slots.size; omega) (g := (mkF m 6 #[.val (.ref a), .val (.ref b)] [.null, .int (Int32.ofNat A.slots.size), .int (Int32.ofNat 0), .ref b, .ref a])) rfl (by rw [hml]; rfl) c2 (argsL := [.ref b, .int (Int32.ofNat 0), .int (Int32.ofNat A.slots.size), .null]) (rest := []) rfl rfl (by show 2 * 0 + 0 ≤ _; decide) (hb hbytes d6) (⟨rfl, hB.mv X0.warmed.alike hh0, f1.al X0.warmed.alike, f2.al X0.warmed.alike, hA.mv X0.warmed.alike hh0, s1.there X0.warmed.alike hh0, hz, l0, by omega, l2, fun i hi => by rw [Nat.zero_add]; exact hp i hi⟩)
  have e0 := Got.mv _ s₁ s _ _ hh0.symm (Vm.Alike.refl _) rfl E3
  obtain rfl := e0.1
  have c4 : Steps p.tables e below (s₁.setTop (entryFrame m #[.ref a, .ref b] 2)) (T3.setTop (mkF m 9 #[.val (.ref a), .val (.ref b)] [])) := g3
  exact ⟨T3, none, _, _, _, X3, by simp, rfl, by omega, (fun _ => rfl), e0, fun fs hl => c4.trans (X3.returnOut hexec hret (hb hbytes d9) hl)⟩
theorem pays {l : Launch} {R : Room} {p : Program} {e : Env} {below : List Frame} {s : State} {sargs : Array Value} {len W : Nat} (a : Addr) (D : Cell) (fV fC : Field) (b : Addr) (A : Cell) (z : Int32) (htab : tab.before sargs s = true) (hfr : 4 ≤ R.frames) (hlo : W + 65 ≤ R.locals) :
    Back l R p e below s sargs yN len W (fun A₁ a₁ => A₁.cells + 1 ≤ R.cells ∧ A₁.slots + A.slots.size ≤ R.slots ∧ P a D fV fC b A z a₁ A₁.U) (fun A₁ _ v₁ B₁ => E a D fV fC A v₁ A₁.U B₁.U ∧ B₁.locs = A₁.locs ++ [⟨a, fC.slot⟩, ⟨a, fV.slot⟩] ∧ B₁.cells = A₁.cells + 1 ∧ B₁.slots = A₁.slots + A.slots.size) :=
  (law l a D fV fC b A z).pays htab hfr (by omega)
end New1
/-- the byte, read back as charAt reads it, is the char -/
theorem lo8_mask {x : Int32} (h0 : ¬ x < 0) (h1 : ¬ 255 < x) : lo8 x &&& 255 = x := by
  have t : ∀ k : Fin 256, lo8 (Int32.ofNat k.val) &&& 255 = Int32.ofNat k.val := by decide +kernel
  rw [Int32.lt_iff_toInt_lt] at h0 h1
  have e0 : (0 : Int32).toInt = 0 := rfl
  have e1 : (255 : Int32).toInt = 255 := rfl
  obtain ⟨k, hk⟩ : ∃ k : Nat, x.toInt = k := ⟨x.toInt.toNat, by omega⟩
  have hx : x = Int32.ofNat k := Int32.toInt_inj.mp (by rw [hk, Int32.toInt_ofNat_small (by omega)])
  rw [hx]
  exact t ⟨k, by omega⟩
end StrChars
namespace StrChars.Road
open Jvm Sem ClassFile Op Lib Jvm.Stand Jvm.Free Jvm.Free.XT
open Jvm.Lib.Cold (StaticIs)
abbrev ST : String := "java/lang/String"
/-- every table word that New1's law asks, flat -/
abbrev words : List Jvm.Cond := [.code New1.yN New1.yB 2 none, .initialized ST, .methodLink ST 27 New4.yN, .instanceMethod New4.yN,
  .code New4.yN New4.yB 6 none, .fieldLink ST 38 ST "COMPACT_STRINGS" "Z", .laysFinal ST ST "value" "[B", .fieldLink ST 9 ST "value" "[B", .laysFinal ST ST "coder" "B", .fieldLink ST 15 ST "coder" "B",
  .methodLink ST 1 Lib.objectInit, .instanceMethod Lib.objectInit, .code Lib.objectInit ⟨#[0xb1]⟩ 1 none, .methodLink ST 177 Cmp3.yN, .static Cmp3.yN, .methodLink ST 47 CodL.yN, .static CodL.yN,
  .code Cmp3.yN Cmp3.yB 6 (some (.array .byte)), .initialized U16, .arrayClass .byte, .methodLink U16 115 Cmp5.yN, .static Cmp5.yN, .code Cmp5.yN Cmp5.yB 7 (some .int), .code CodL.yN CodL.yB 2 (some .byte)]
theorem tab_of {a : Array Value} {s : State} (h : ∀ w ∈ words, w.before a s = true) : New1.tab.before a s = true := by
  have h5 : Cmp5.tab.before a s = true := unparts (wk h (.code Cmp5.yN Cmp5.yB 7 (some .int))) (wks h (.initialized Cmp5.yN.cls :: Cmp5.site))
  have hc : CodL.tab.before a s = true := unparts (wk h (.code CodL.yN CodL.yB 2 (some .byte))) (wks h (.initialized CodL.yN.cls :: CodL.site))
  have q5 : ∀ w ∈ Cmp5.tab :: words, w.before a s = true := fun w hw => (List.mem_cons.mp hw).elim (fun e => e ▸ h5) (h w)
  have h3 : Cmp3.tab.before a s = true := unparts (wk q5 (.code Cmp3.yN Cmp3.yB 6 (some (.array .byte)))) (wks q5 (.initialized Cmp3.yN.cls :: Cmp3.site))
  have q3 : ∀ w ∈ Cmp3.tab :: CodL.tab :: words, w.before a s = true := fun w hw => (List.mem_cons.mp hw).elim (fun e => e ▸ h3) fun hw => (List.mem_cons.mp hw).elim (fun e => e ▸ hc) (h w)
  have h4 : New4.tab.before a s = true := unparts (wk q3 (.code New4.yN New4.yB 6 none)) (wks q3 (.initialized New4.yN.cls :: New4.site))
  have q4 : ∀ w ∈ New4.tab :: words, w.before a s = true := fun w hw => (List.mem_cons.mp hw).elim (fun e => e ▸ h4) (h w)
  exact unparts (wk q4 (.code New1.yN New1.yB 2 none)) (wks q4 (.initialized New1.yN.cls :: New1.site))
/-- the words ride from the start Z to the walk's own state -/
theorem moved {Z s : State} {a0 args : Array Value} (hZ : Z.Warmed39 s.vm) (hw : ∀ d ∈ words, d.before a0 Z = true) : ∀ d ∈ words, d.before args s = true := fun d hd => by
  have q := hw d hd
  have t : ∀ d ∈ words, d = .arrayClass .byte ∨ (d.onTables && d.keepsFace) = true := by decide +kernel
  rcases t d hd with rfl | t
  · exact RoadKit.mvA hZ q
  · exact RoadKit.mv hZ q t
/-- WHAT COMES BACK, over the tables of the start Z: h the heap at the call, h' behind it -/
def Q (Z : State) (x : Addr) (A : Cell) (h : Heap) (v : Option Value) (h' : Heap) (L : List Loc) : Prop := v = none ∧ (∀ y ∈ L, y.base = x) ∧ RoadKit.Keep h h' [x] ∧ h'.size = h.size + 1 ∧ RoadKit.Exa Z h' x ST ∧ RoadKit.Fld Z h' x ST "value" "[B" (.ref h.size) ∧ RoadKit.Fld Z h' x ST "coder" "B" (.int 0) ∧
  (∃ V : Cell, RoadKit.Arr Z h' h.size V .byte ∧ V.vm = .none ∧ Z.vm.findClass "[B" = some V.cls ∧ V.slots.size = A.slots.size ∧ ∀ j, j < A.slots.size → V.slots[j]? = some (.int (lo8 (cv A j)))) ∧
  ∀ (O n d : String) (w : Value), RoadKit.Fld Z h x O n d w → RoadKit.slotOf Z O n d ≠ RoadKit.slotOf Z ST "value" "[B" → RoadKit.slotOf Z O n d ≠ RoadKit.slotOf Z ST "coder" "B" → RoadKit.Fld Z h' x O n d w
/-- **new String(chars) AT A CALL, IN THE ROAD'S FORM**: for specialBack behind newO: x the fresh String, b the char[] with the cell A -/
theorem back {p : Program} {l : Launch} {e : Env} {R : Room} {s : State} {args : Array Value} {below : List Frame} {len W : Nat} {Z : State} {a0 : Array Value} {h : Heap} (hZ : Z.Warmed39 s.vm) (hw : ∀ d ∈ words, d.before a0 Z = true) {kI : Nat} (wi : (Jvm.Cond.instantiable ST kI).before a0 Z = true)
    {x b : Addr} {A : Cell} {z : Int32} {v0 c0 : Value} (E : RoadKit.Exa Z h x ST) (V : RoadKit.Fld Z h x ST "value" "[B" v0) (C : RoadKit.Fld Z h x ST "coder" "B" c0) (K : RoadKit.Arr Z h b A .char) (hty : Typed .char A) (S : RoadKit.Sta Z h ST "COMPACT_STRINGS" "Z" (.int z)) (hz : ¬ z = 0)
    (l0 : 0 < A.slots.size) (l2 : A.slots.size ≤ 536870912) (hp : ∀ i, i < A.slots.size → ¬ 255 < cv A i) (hfr : 4 ≤ R.frames) (hlo : W + 65 ≤ R.locals) :
    Back l R p e below s args New1.yN len W (fun P a => a = #[.ref x, .ref b] ∧ P.U.heap = h ∧ P.cells + 1 ≤ R.cells ∧ P.slots + A.slots.size ≤ R.slots)
      (fun P _ v B => ∃ L, Q Z x A h v B.U.heap L ∧ B.locs = P.locs ++ L ∧ B.cells = P.cells + 1 ∧ B.slots = P.slots + A.slots.size) := by
  intro m meth c P g ig mk a X hg hsize hdg hW hn hp'
  obtain ⟨rfl, rfl, r1, r2⟩ := hp'
  have al : Z.vm.Alike P.U.vm := hZ.alike.trans X.warmed.alike
  obtain ⟨D, cfV, kV, iV, fV, hD, gV, stV, knV, obV, asV, slV⟩ := id V
  obtain ⟨D', cfC, kC, iC, fC, hD', gC, stC, -, -, asC, slC⟩ := id C
  cases hD.symm.trans hD'
  obtain ⟨D2, kD, e1, e2, e3, e4, e5⟩ := id E
  cases hD.symm.trans e1
  obtain ⟨c2, k2, i1, i2, i3, -⟩ := Cond.instantiable_spec wi
  cases e2.symm.trans i1
  cases e3.symm.trans i2
  obtain ⟨kU, u1, u2⟩ := al.2.2 _ _ e3
  have hB : Blank ST x D P.U := ⟨hD, ⟨knV, fun q hq => by rw [hq] at obV; cases obV⟩, by rw [al.findClass]; exact e2, kU, u1, by rw [u2]; exact i3, by rw [u2]; exact e5 i3⟩
  have F1 : Found ST "value" "[B" fV P.U := ⟨SBG.found_only al ⟨cfV, kV, iV, gV⟩, stV⟩
  have F2 : Found ST "coder" "B" fC P.U := ⟨SBG.found_only al ⟨cfC, kC, iC, gC⟩, stC⟩
  have hA : Ch b A P.U := ⟨⟨K.1, State.isArrayOf_alike al K.2.1, K.2.2, by omega⟩, hty⟩
  have hS : StaticIs P.U ST "COMPACT_STRINGS" "Z" (.int z) := by
    obtain ⟨cfS, iS, kS, fS, st, cS, t1, t2, t3, t4, t5, t6, t7⟩ := S
    exact StaticIs.there (s := { Z with heap := P.U.heap }) ⟨cfS, iS, kS, fS, st, cS, t1, t2, t3, t4, t5, (fun q => by rw [q] at t6; cases t6), t7⟩ al rfl
  obtain ⟨v, B, X', ⟨⟨hv, E', V', q1, q2, q3, q4, q5, q6, q7, q8, q9, q10, q11⟩, hl, hc, hs⟩, st⟩ := New1.pays x D fV fC b A z (tab_of (moved hZ hw)) hfr hlo m meth c P g ig mk _ X hg hsize hdg hW hn ⟨r1, r2, rfl, hB, F1, F2, hA, hS, hz, l0, l2, hp⟩
  have al' : Z.vm.Alike B.U.vm := hZ.alike.trans X'.warmed.alike
  have hsz : E'.slots.size = D.slots.size := by
    obtain ⟨-, -, -, kB, w1, w2, w3⟩ := q1
    obtain ⟨kB', y1, y2⟩ := al'.2.2 _ _ e3
    rw [q2.2.1] at w1
    cases w1.symm.trans y1
    rw [w3, e5 i3, y2]
  refine ⟨v, B, X', ⟨_, ⟨hv, ?_, ⟨by omega, fun y cy hy hn' => q10 y cy (by simpa using hn') hy, fun y cy hy => ?_⟩, q11, ⟨E', _, q1.1, by rw [q2.2.1]; exact e2, by rw [q2.2.1]; exact e3, by rw [q2.1]; exact obV, fun _ => by rw [hsz]; exact e5 i3⟩,
    ⟨E', cfV, kV, iV, fV, q1.1, gV, stV, by rw [q2.1]; exact knV, by rw [q2.1]; exact obV, by rw [q2.2.1]; exact asV, q3⟩, ⟨E', cfC, kC, iC, fC, q1.1, gC, stC, by rw [q2.1]; exact knV, by rw [q2.1]; exact obV, by rw [q2.2.1]; exact asC, q4⟩,
    ⟨V', ⟨q5.1, State.isArrayOf_alike al'.symm q5.2.1, q5.2.2.1⟩, q6, by rw [← al'.findClass]; exact q7, q8, fun j hj => by have := q9 j hj; rwa [Nat.zero_add] at this⟩, fun O n d w F n1 n2 => ?_⟩, hl, hc, hs⟩, st⟩
  · intro y hy
    simp only [List.mem_cons, List.not_mem_nil, or_false] at hy
    rcases hy with rfl | rfl <;> rfl
  · by_cases q : y = x
    · subst q
      cases hD.symm.trans hy
      exact ⟨E', q1.1, q2.2.1, q2.1, hsz⟩
    · exact ⟨cy, q10 y cy q hy, rfl, rfl, rfl⟩
  · obtain ⟨D3, cf, k, i, f, g1, g2, g3, g4, g5, g6, g7⟩ := F
    cases hD.symm.trans g1
    simp only [RoadKit.slotOf, g2, gV, gC, Option.map_some, Option.getD_some] at n1 n2
    exact ⟨E', cf, k, i, f, q1.1, g2, g3, by rw [q2.1]; exact g4, by rw [q2.1]; exact g5, by rw [q2.2.1]; exact g6, by rw [q2.2.2 f.slot (by simp [n1, n2])]; exact g7⟩
end StrChars.Road
namespace StrChars.Road
open Jvm Sem ClassFile Op Lib Jvm.Stand Jvm.Free Jvm.Free.XT
/-- WHAT COMES BACK, the byte[] as a list of values -/
def QA (Z : State) (x : Addr) (zn : Int32) (cs : List Int32) (h : Heap) (v : Option Value) (h' : Heap) (L : List Loc) : Prop := v = none ∧ (∀ y ∈ L, y.base = x) ∧ RoadKit.Keep h h' [x] ∧ h'.size = h.size + 1 ∧ RoadKit.Exa Z h' x ST ∧ RoadKit.Fld Z h' x ST "value" "[B" (.ref h.size) ∧ RoadKit.Fld Z h' x ST "coder" "B" (.int 0) ∧
  (∃ kb, Z.vm.findClass "[B" = some kb ∧ RoadKit.Arv Z h' h.size kb .byte zn (cs.map fun c => .int (lo8 c)) (.int 0)) ∧
  ∀ (O n d : String) (w : Value), RoadKit.Fld Z h x O n d w → RoadKit.slotOf Z O n d ≠ RoadKit.slotOf Z ST "value" "[B" → RoadKit.slotOf Z O n d ≠ RoadKit.slotOf Z ST "coder" "B" → RoadKit.Fld Z h' x O n d w
/-- **new String(chars) AT A CALL, THE ARRAYS AS LISTS**: the char[] at b holds cs, not empty, no char above 255 -/
theorem backArv {p : Program} {l : Launch} {e : Env} {R : Room} {s : State} {args : Array Value} {below : List Frame} {len W : Nat} {Z : State} {a0 : Array Value} {h : Heap} (hZ : Z.Warmed39 s.vm) (hw : ∀ d ∈ words, d.before a0 Z = true) {kI : Nat} (wi : (Jvm.Cond.instantiable ST kI).before a0 Z = true)
    {x b : Addr} {k : ClassId} {zn z : Int32} {cs : List Int32} {dv v0 c0 : Value} (E : RoadKit.Exa Z h x ST) (V : RoadKit.Fld Z h x ST "value" "[B" v0) (C : RoadKit.Fld Z h x ST "coder" "B" c0) (K : RoadKit.Arv Z h b k .char zn (cs.map Value.int) dv) (S : RoadKit.Sta Z h ST "COMPACT_STRINGS" "Z" (.int z)) (hz : ¬ z = 0)
    (hlen : zn.toNatClampNeg = cs.length) (h0 : 0 < cs.length) (hbig : cs.length ≤ 536870912) (hall : ∀ c ∈ cs, ¬ 255 < c) (hfr : 4 ≤ R.frames) (hlo : W + 65 ≤ R.locals) :
    Back l R p e below s args New1.yN len W (fun P a => a = #[.ref x, .ref b] ∧ P.U.heap = h ∧ P.cells + 1 ≤ R.cells ∧ P.slots + cs.length ≤ R.slots)
      (fun P _ v B => ∃ L, QA Z x zn cs h v B.U.heap L ∧ B.locs = P.locs ++ L ∧ B.cells = P.cells + 1 ∧ B.slots = P.slots + cs.length) := by
  obtain ⟨A, K1, K2, K3, K4, K5, K6⟩ := K
  have e : A.slots.size = cs.length := K3.trans hlen
  have hat : ∀ (i : Nat) (hi : i < cs.length), A.slots[i]? = some (.int cs[i]) := fun i hi => by rw [K5 i (by omega)]; simp [List.getD_eq_getElem?_getD, hi]
  have hcv : ∀ (i : Nat) (hi : i < cs.length), cv A i = cs[i] := fun i hi => by unfold cv; rw [hat i hi]
  have hty : Typed .char A := fun i v hv => by
    have hi : i < A.slots.size := (Array.getElem?_eq_some_iff.mp hv).1
    have q := K5 i hi
    rw [hv] at q
    rw [Option.some.inj q]
    exact K6 i hi
  refine Back.mono (back hZ hw wi E V C K1 hty S hz (by omega) (by omega) (fun i hi => by rw [hcv i (by omega)]; exact hall _ (List.getElem_mem _)) hfr hlo) (fun P a hp => ⟨hp.1, hp.2.1, hp.2.2.1, by rw [e]; exact hp.2.2.2⟩) (fun P a v B hp hq => ?_)
  obtain ⟨L, ⟨q1, q2, q3, q4, q5, q6, q7, ⟨V', v1, v2, v3, v4, v5⟩, q9⟩, hl, hc, hs⟩ := hq
  refine ⟨L, ⟨q1, q2, q3, q4, q5, q6, q7, ⟨V'.cls, v3, V', v1, rfl, by rw [v4, e, hlen], K4, fun i hi => ?_, fun i hi => ?_⟩, q9⟩, hl, hc, by rw [hs, e]⟩
  · have hi' : i < cs.length := by omega
    rw [v5 i (by omega), hcv i hi']; simp [List.getD_eq_getElem?_getD, hi']
  · have hi' : i < cs.length := by omega
    simp only [List.getD_eq_getElem?_getD, List.getElem?_map, List.getElem?_eq_getElem hi', Option.map_some, Option.getD_some]
    exact fits_lo8 _
end StrChars.Road
namespace StrChars.Road
open Jvm Sem ClassFile Op Lib Jvm.Stand Jvm.Free Jvm.Free.XT
/-- WHAT COMES BACK, in the writer's own shape -/
def QV (Z : State) (x : Addr) (N : Int32) (bs : List Int32) (h : Heap) (n0 : Nat) (v : Option Value) (h' : Heap) (L : List Loc) : Prop := v = none ∧ RoadKit.Fr n0 L ∧ RoadKit.Keep h h' [x] ∧ RoadKit.Exa Z h' x ST ∧ RoadKit.Fld Z h' x ST "coder" "B" (.int 0) ∧
  ∃ (t : Addr) (kb : ClassId), n0 ≤ t ∧ h.size ≤ t ∧ ¬ t = x ∧ RoadKit.Fld Z h' x ST "value" "[B" (.ref t) ∧ RoadKit.Arv Z h' t kb .byte N (bs.map Value.int) (.int 0)
/-- **new String(chars) AT A CALL, FOR THE WRITER**: a char[] of n known ints, each 0 to 255 -/
theorem backV {p : Program} {l : Launch} {e : Env} {R : Room} {s : State} {args : Array Value} {below : List Frame} {len W : Nat} {Z : State} {a0 : Array Value} {h : Heap} (hZ : Z.Warmed39 s.vm) (hw : ∀ d ∈ words, d.before a0 Z = true) {kI : Nat} (wi : (Jvm.Cond.instantiable ST kI).before a0 Z = true)
    {x b : Addr} {kC : ClassId} {cs bs : List Int32} {d v0 c0 : Value} {z N : Int32} {n n0 : Nat} (hx0 : n0 ≤ x) (hh0 : n0 ≤ h.size) (E : RoadKit.Exa Z h x ST) (V : RoadKit.Fld Z h x ST "value" "[B" v0) (C : RoadKit.Fld Z h x ST "coder" "B" c0) (K : RoadKit.Arv Z h b kC .char N (cs.map Value.int) d) (S : RoadKit.Sta Z h ST "COMPACT_STRINGS" "Z" (.int z)) (hz : ¬ z = 0)
    (hn : cs.length = n) (hN : N = Int32.ofNat n) (l0 : 0 < n) (l2 : n ≤ 4000) (hp : ∀ c ∈ cs, ¬ c < 0 ∧ ¬ (255 : Int32) < c) (hb : bs = cs.map (fun c => c.toInt8.toInt32)) (hfr : 4 ≤ R.frames) (hlo : W + 65 ≤ R.locals) :
    Back l R p e below s args (⟨"java/lang/String", "<init>", "([C)V"⟩ : MethodName) len W (fun P a => a = #[.ref x, .ref b] ∧ P.U.heap = h ∧ P.cells + 1 ≤ R.cells ∧ P.slots + n ≤ R.slots)
      (fun P _ v B => ∃ L, QV Z x N bs h n0 v B.U.heap L ∧ B.locs = P.locs ++ L ∧ B.cells = P.cells + 1 ∧ B.slots = P.slots + n) := by
  subst hn hN hb
  refine Back.mono (backArv hZ hw wi E V C K S hz (n32 (by omega)) l0 (by omega) (fun c hc => (hp c hc).2) hfr hlo) (fun P a hp => hp) (fun P a v B hp hq => ?_)
  obtain ⟨L, ⟨q1, q2, q3, q4, q5, q6, q7, ⟨kb, v1, v2⟩, q9⟩, hl, hc, hs⟩ := hq
  exact ⟨L, ⟨q1, fun y hy => by rw [q2 y hy]; exact hx0, q3, q5, q7, h.size, kb, hh0, Nat.le_refl _, Nat.ne_of_gt E.lt, q6, by rw [List.map_map]; exact v2⟩, hl, hc, hs⟩
end StrChars.Road
namespace StrChars
open Jvm Sem ClassFile Op Lib Jvm.Stand Jvm.Free.XT Jvm.Free.ALB Jvm.Free.JM Jvm.Free
open Jvm.Lib.Cold (StaticIs)
def hi8 (x : Int32) : Int32 := lo8 (x >>> ((8 : Int32) &&& 31))
/-- what StringUTF16.getChar makes of two bytes -/
def pairCh (u v : Int32) : Int32 := (((u &&& 255) <<< ((0 : Int32) &&& 31)) ||| ((v &&& 255) <<< ((8 : Int32) &&& 31))).toUInt32.toUInt16.toUInt32.toInt32
theorem lo8_and (x : Int32) : (lo8 x &&& 255).toBitVec.toNat = x.toBitVec.toNat % 256 := by
  have h : (lo8 x).toBitVec = (x.toBitVec.signExtend 8).signExtend 32 := by rw [lo8, Int8.toBitVec_toInt32, Int32.toBitVec_toInt8]
  rw [Int32.toBitVec_and, BitVec.toNat_and, h]
  have e : ((x.toBitVec.signExtend 8).signExtend 32).toNat % 256 = x.toBitVec.toNat % 256 := by
    rw [BitVec.toNat_signExtend]
    have hlt := x.toBitVec.isLt
    simp only [BitVec.toNat_setWidth, BitVec.toNat_signExtend]
    split <;> split <;> omega
  rw [← e]
  exact Nat.and_two_pow_sub_one_eq_mod _ 8
theorem pair_says {c : Int32} (h0 : ¬ c < 0) (h1 : ¬ 65535 < c) : pairCh (lo8 c) (hi8 c) = c := by
  rw [Int32.lt_iff_toInt_lt] at h0 h1
  have e0 : (0 : Int32).toInt = 0 := rfl
  have e1 : (65535 : Int32).toInt = 65535 := rfl
  have hc : c.toInt = c.toBitVec.toNat := by
    have := c.toBitVec.isLt
    have e : c.toInt = c.toBitVec.toInt := rfl
    rw [e] at h0 h1
    rw [e]
    rw [BitVec.toInt_eq_toNat_cond] at h0 h1 ⊢
    split at h0 <;> split <;> omega
  have hn : c.toBitVec.toNat < 65536 := by omega
  have a1 := lo8_and c
  have a2 : (hi8 c &&& 255).toBitVec.toNat = c.toBitVec.toNat / 256 := by
    rw [hi8, lo8_and]
    have e : ((8 : Int32) &&& 31) = 8 := by decide
    rw [e, Int32.toBitVec_shiftRight]
    have e2 : ((8 : Int32).toBitVec.smod 32) = 8#32 := by decide
    rw [e2, BitVec.sshiftRight_eq', BitVec.toNat_sshiftRight_of_msb_false (by rw [BitVec.msb_eq_false_iff_two_mul_lt]; omega)]
    show c.toBitVec.toNat >>> 8 % 256 = _
    rw [Nat.shiftRight_eq_div_pow]
    omega
  unfold pairCh
  apply Int32.toBitVec_inj.mp
  apply BitVec.eq_of_toNat_eq
  have f0 : ((0 : Int32) &&& 31) = 0 := by decide
  have f8 : ((8 : Int32) &&& 31) = 8 := by decide
  rw [f0, f8]
  have g : (((lo8 c &&& 255) <<< (0 : Int32)) ||| ((hi8 c &&& 255) <<< (8 : Int32))).toBitVec.toNat = c.toBitVec.toNat := by
    rw [Int32.toBitVec_or, Int32.toBitVec_shiftLeft, Int32.toBitVec_shiftLeft]
    have s0 : ((0 : Int32).toBitVec.smod 32) = 0#32 := by decide
    have s8 : ((8 : Int32).toBitVec.smod 32) = 8#32 := by decide
    rw [s0, s8, BitVec.toNat_or]
    simp only [BitVec.shiftLeft_eq', BitVec.toNat_shiftLeft, a1, a2]
    show (c.toBitVec.toNat % 256) <<< 0 % 2 ^ 32 ||| (c.toBitVec.toNat / 256) <<< 8 % 2 ^ 32 = _
    rw [Nat.shiftLeft_zero, Nat.mod_eq_of_lt (show c.toBitVec.toNat % 256 < 2 ^ 32 by omega), Nat.mod_eq_of_lt (show (c.toBitVec.toNat / 256) <<< 8 < 2 ^ 32 by rw [Nat.shiftLeft_eq]; omega), Nat.or_comm, ← Nat.shiftLeft_add_eq_or_of_lt (by omega), Nat.shiftLeft_eq]
    omega
  show BitVec.toNat (((((lo8 c &&& 255) <<< (0 : Int32)) ||| ((hi8 c &&& 255) <<< (8 : Int32))).toBitVec.setWidth 16).setWidth 32) = _
  rw [BitVec.toNat_setWidth, BitVec.toNat_setWidth, g]
  omega
end StrChars
namespace StrChars
open Jvm Sem ClassFile Op Lib Jvm.Stand Jvm.Free.XT Jvm.Free.ALB Jvm.Free.JM Jvm.Free
open Jvm.Lib.Cold (StaticIs)
/-- the array's cell V codes the n chars f 0 .. f (n - 1) by the coder cd, as the JDK does: coder 1 just where some char is above 255 -/
def Cod (cd : Int32) (n : Nat) (f : Nat → Int32) (V : Cell) : Prop := (cd = 0 ∧ V.slots.size = n ∧ ∀ j, j < n → V.slots[j]? = some (.int (lo8 (f j))) ∧ ¬ 255 < f j) ∨ (cd = 1 ∧ V.slots.size = 2 * n ∧ (∀ j, j < n → V.slots[2 * j]? = some (.int (lo8 (f j))) ∧ V.slots[2 * j + 1]? = some (.int (hi8 (f j)))) ∧ ∃ j, j < n ∧ 255 < f j)
/-- **x is a String of the n chars f 0 .. f (n - 1)**, Latin-1 or UTF-16; its array at t has the cell V -/
def Txt (x t : Addr) (V : Cell) (cd : Int32) (n : Nat) (f : Nat → Int32) (U : State) : Prop := Exact "java/lang/String" x U ∧ Has x "java/lang/String" "value" "[B" (.ref t) U ∧ Has x "java/lang/String" "coder" "B" (.int cd) U ∧ XT.Arr .byte t V U ∧ Cod cd n f V ∧ ∀ j, j < n → ¬ f j < 0 ∧ ¬ 65535 < f j
theorem Txt.mv {x t : Addr} {V : Cell} {cd : Int32} {n : Nat} {f : Nat → Int32} {U U' : State} (h : Txt x t V cd n f U) (hal : U.vm.Alike U'.vm) (hh : U'.heap = U.heap) : Txt x t V cd n f U' := ⟨h.1.mv hal hh, h.2.1.mv hal hh, h.2.2.1.mv hal hh, h.2.2.2.1.mv hal hh, h.2.2.2.2⟩
end StrChars
namespace StrChars.Road
open Jvm Sem ClassFile Op Lib Jvm.Stand Jvm.Free Jvm.Free.XT
open Jvm.Lib.Cold (StaticIs)
theorem consq {a : Array Value} {s : State} {c : Jvm.Cond} {L : List Jvm.Cond} (h0 : c.before a s = true) (h : ∀ w ∈ L, w.before a s = true) : ∀ w ∈ c :: L, w.before a s = true := fun w hw => (List.mem_cons.mp hw).elim (fun e => e ▸ h0) (h w)
/-- the bytes of the chars cs, low before high -/
def wideBytes : List Int32 → List Value
  | [] => []
  | c :: cs => .int (lo8 c) :: .int (hi8 c) :: wideBytes cs
theorem wide_lo (d : Value) : ∀ (cs : List Int32) (j : Nat), j < cs.length → (wideBytes cs).getD (2 * j) d = .int (lo8 (cs.getD j 0))
  | [], j, h => absurd h (Nat.not_lt_zero j)
  | c :: cs, 0, _ => rfl
  | c :: cs, j + 1, h => by
    have q := wide_lo d cs j (by simpa using h)
    rw [show 2 * (j + 1) = 2 * j + 1 + 1 from by omega]
    simpa [wideBytes] using q
theorem wide_hi (d : Value) : ∀ (cs : List Int32) (j : Nat), j < cs.length → (wideBytes cs).getD (2 * j + 1) d = .int (hi8 (cs.getD j 0))
  | [], j, h => absurd h (Nat.not_lt_zero j)
  | c :: cs, 0, _ => rfl
  | c :: cs, j + 1, h => by
    have q := wide_hi d cs j (by simpa using h)
    rw [show 2 * (j + 1) + 1 = 2 * j + 1 + 1 + 1 from by omega]
    simpa [wideBytes] using q
theorem low_at (d : Value) (cs : List Int32) (j : Nat) (h : j < cs.length) : (cs.map fun c => Value.int (lo8 c)).getD j d = .int (lo8 (cs.getD j 0)) := by
  simp [List.getD_eq_getElem?_getD, h]
/-- an array of N2 bytes vs codes the chars cs by the coder cd -/
def CodA (cs : List Int32) (cd N2 : Int32) (vs : List Value) : Prop := (cd = 0 ∧ N2 = Int32.ofNat cs.length ∧ vs = (cs.map fun c => Value.int (lo8 c)) ∧ ∀ c ∈ cs, ¬ 255 < c) ∨ (cd = 1 ∧ N2 = Int32.ofNat (2 * cs.length) ∧ vs = wideBytes cs ∧ ∃ c ∈ cs, 255 < c)
theorem CodA.cod {cs : List Int32} {cd N2 : Int32} {vs : List Value} {V : Cell} (h : CodA cs cd N2 vs) (hn : 2 * cs.length < 2 ^ 31) (hs : V.slots.size = N2.toNatClampNeg) (hv : RoadKit.Has V vs (.int 0)) : Cod cd cs.length (fun j => cs.getD j 0) V := by
  rcases h with ⟨rfl, rfl, rfl, h⟩ | ⟨rfl, rfl, rfl, c, hc, hw⟩
  · rw [n32 (by omega)] at hs
    exact Or.inl ⟨rfl, hs, fun j hj => ⟨by rw [hv j (by omega), low_at _ _ _ hj], by
      have e : cs.getD j 0 = cs[j] := by simp [List.getD_eq_getElem?_getD, hj]
      show ¬ 255 < cs.getD j 0
      rw [e]; exact h _ (List.getElem_mem _)⟩⟩
  · rw [n32 (by omega)] at hs
    obtain ⟨j, hj, rfl⟩ := List.getElem_of_mem hc
    exact Or.inr ⟨rfl, hs, fun j hj => ⟨by rw [hv _ (by omega), wide_lo _ _ _ hj], by rw [hv _ (by omega), wide_hi _ _ _ hj]⟩, j, hj, by
      have e : cs.getD j 0 = cs[j] := by simp [List.getD_eq_getElem?_getD, hj]
      show 255 < cs.getD j 0
      rw [e]; exact hw⟩
/-- an object of exactly java/lang/String, its two fields found: as the laws ask it -/
theorem strObj {Z U : State} {a0 : Array Value} {kI : Nat} (wi : (Jvm.Cond.instantiable ST kI).before a0 Z = true) (al : Z.vm.Alike U.vm) {x : Addr} {v0 c0 : Value} (E : RoadKit.Exa Z U.heap x ST) (V : RoadKit.Fld Z U.heap x ST "value" "[B" v0) (C : RoadKit.Fld Z U.heap x ST "coder" "B" c0) :
    ∃ (D : Cell) (fV fC : Field), Blank ST x D U ∧ Found ST "value" "[B" fV U ∧ Found ST "coder" "B" fC U ∧ D.slots[fV.slot]? = some v0 ∧ D.slots[fC.slot]? = some c0 ∧ RoadKit.slotOf Z ST "value" "[B" = fV.slot ∧ RoadKit.slotOf Z ST "coder" "B" = fC.slot := by
  obtain ⟨D, cfV, kV, iV, fV, hD, gV, stV, knV, obV, asV, slV⟩ := V
  obtain ⟨D', cfC, kC, iC, fC, hD', gC, stC, -, -, asC, slC⟩ := C
  cases hD.symm.trans hD'
  obtain ⟨D2, kD, e1, e2, e3, e4, e5⟩ := E
  cases hD.symm.trans e1
  obtain ⟨c2, k2, i1, i2, i3, -⟩ := Cond.instantiable_spec wi
  cases e2.symm.trans i1
  cases e3.symm.trans i2
  obtain ⟨kU, u1, u2⟩ := al.2.2 _ _ e3
  exact ⟨D, fV, fC, ⟨hD, ⟨knV, fun q hq => by rw [hq] at obV; cases obV⟩, by rw [al.findClass]; exact e2, kU, u1, by rw [u2]; exact i3, by rw [u2]; exact e5 i3⟩, ⟨SBG.found_only al ⟨cfV, kV, iV, gV⟩, stV⟩, ⟨SBG.found_only al ⟨cfC, kC, iC, gC⟩, stC⟩, slV, slC, by simp [RoadKit.slotOf, gV], by simp [RoadKit.slotOf, gC]⟩
theorem sta_is {Z U : State} (al : Z.vm.Alike U.vm) {C n d : String} {v : Value} (S : RoadKit.Sta Z U.heap C n d v) : StaticIs U C n d v := by
  obtain ⟨cfS, iS, kS, fS, st, cS, t1, t2, t3, t4, t5, t6, t7⟩ := S
  exact StaticIs.there (s := { Z with heap := U.heap }) ⟨cfS, iS, kS, fS, st, cS, t1, t2, t3, t4, t5, (fun q => by rw [q] at t6; cases t6), t7⟩ al rfl
end StrChars.Road
namespace StrChars
open Jvm Sem ClassFile Op Lib Jvm.Stand Jvm.Free.XT Jvm.Free.ALB Jvm.Free.JM Jvm.Free
open Jvm.Lib.Cold (StaticIs)
/-- what place i of a byte[]'s cell holds -/
def yv (A : Cell) (i : Nat) : Int32 := match A.slots[i]? with | some (.int x) => x | _ => 0
theorem yv_get {a : Addr} {A : Cell} {U : State} (h : XT.Arr .byte a A U) (ht : Typed .byte A) {i : Nat} (hi : i < A.slots.size) : A.slots[i]? = some (.int (yv A i)) := by
  have e := Array.getElem?_eq_getElem hi
  have f := ht i _ e
  unfold yv; rw [e]
  generalize A.slots[i] = v at f
  cases v <;> simp [fits] at f ⊢
/-- the two arrays are equal, place for place -/
def EqC (A B : Cell) : Prop := A.slots.size = B.slots.size ∧ ∀ i, i < A.slots.size → yv A i = yv B i
/-- a boolean that says whether p -/
def Says01 (q : Prop) (r : Option Value) (s u : State) : Prop := ∃ v : Int32, r = some (.int v) ∧ u.heap = s.heap ∧ ((v = 1 ∧ q) ∨ (v = 0 ∧ ¬ q))
theorem Says01.mv {q : Prop} : ∀ r (U U' V V' : State), U'.heap = U.heap → V.vm.Alike V'.vm → V'.heap = V.heap → Says01 q r U V → Says01 q r U' V' :=
  fun r U U' V V' h1 _ h2 ⟨v, a, b, c⟩ => ⟨v, a, by rw [h1, h2]; exact b, c⟩
namespace LEq
def yN : MethodName := ⟨"java/lang/StringLatin1", "equals", "([B[B)Z"⟩
abbrev yB : ByteArray := jdk_43_method_13_code
theorem d0 : decode yB 0 = .ok (.aload_n 0, 1) := by decide +kernel
theorem d1 : decode yB 1 = .ok (.arraylength, 1) := by decide +kernel
theorem d2 : decode yB 2 = .ok (.aload_n 1, 1) := by decide +kernel
theorem d3 : decode yB 3 = .ok (.arraylength, 1) := by decide +kernel
theorem d4 : decode yB 4 = .ok (.if_icmp (.ne) 30, 3) := by decide +kernel
theorem d7 : decode yB 7 = .ok (.iconst 0, 1) := by decide +kernel
theorem d8 : decode yB 8 = .ok (.istore_n 2, 1) := by decide +kernel
theorem d9 : decode yB 9 = .ok (.iload_n 2, 1) := by decide +kernel
theorem d10 : decode yB 10 = .ok (.aload_n 0, 1) := by decide +kernel
theorem d11 : decode yB 11 = .ok (.arraylength, 1) := by decide +kernel
theorem d12 : decode yB 12 = .ok (.if_icmp (.ge) 20, 3) := by decide +kernel
theorem d15 : decode yB 15 = .ok (.aload_n 0, 1) := by decide +kernel
theorem d16 : decode yB 16 = .ok (.iload_n 2, 1) := by decide +kernel
theorem d17 : decode yB 17 = .ok (.baload, 1) := by decide +kernel
theorem d18 : decode yB 18 = .ok (.aload_n 1, 1) := by decide +kernel
theorem d19 : decode yB 19 = .ok (.iload_n 2, 1) := by decide +kernel
theorem d20 : decode yB 20 = .ok (.baload, 1) := by decide +kernel
theorem d21 : decode yB 21 = .ok (.if_icmp (.eq) 5, 3) := by decide +kernel
theorem d24 : decode yB 24 = .ok (.iconst 0, 1) := by decide +kernel
theorem d25 : decode yB 25 = .ok (.ireturn, 1) := by decide +kernel
theorem d26 : decode yB 26 = .ok (.iinc 2 1, 3) := by decide +kernel
theorem d29 : decode yB 29 = .ok (.goto (-20), 3) := by decide +kernel
theorem d32 : decode yB 32 = .ok (.iconst 1, 1) := by decide +kernel
theorem d33 : decode yB 33 = .ok (.ireturn, 1) := by decide +kernel
theorem d34 : decode yB 34 = .ok (.iconst 0, 1) := by decide +kernel
theorem d35 : decode yB 35 = .ok (.ireturn, 1) := by decide +kernel
def site : List Cond := []
def tab : Cond := tabOf yN yB 3 (some .boolean) site
def P (a : Addr) (A : Cell) (b : Addr) (B : Cell) (args : Array Value) (s : State) : Prop := args = #[.ref a, .ref b] ∧ XT.Arr .byte a A s ∧ Typed .byte A ∧ XT.Arr .byte b B s ∧ Typed .byte B
/-- whether two byte[] are equal, place for place -/
theorem law (l : Launch) (a : Addr) (A : Cell) (b : Addr) (B : Cell) : Law l yN 2 2 0 0 yB 3 (some .boolean) site (P a A b B) (Says01 (EqC A B)) [] 0 0 := by
  refine Law.of_walk (plainFor_of_name (by decide +kernel)) (by decide +kernel) (by decide +kernel) (by decide) (fun _ _ h => by rw [h.1]; rfl) (fun _ U U' hal hh h => ⟨h.1, h.2.1.mv hal hh, h.2.2.1, h.2.2.2.1.mv hal hh, h.2.2.2.2⟩) (fun r U U' V V' h1 hal h2 h => Says01.mv r U U' V V' h1 hal h2 h) ?_
  intro p e s m args below meth c s₁ X0 hexec hbytes hml hret hlk hnm hown hh0 W hP
  obtain ⟨rfl, hA, tA, hB, tB⟩ := hP
  have a31 := hA.2.2.2
  have b31 := hB.2.2.2
  have hA0 := hA.mv X0.warmed.alike hh0
  have hB0 := hB.mv X0.warmed.alike hh0
  have c1 : Steps p.tables e below (s₁.setTop (entryFrame m #[.ref a, .ref b] 3)) (s₁.setTop (mkF m 0 #[.val (.ref a), .val (.ref b), .unset] [])) := entry rfl
  have c2 : Steps p.tables e below (s₁.setTop (entryFrame m #[.ref a, .ref b] 3)) (s₁.setTop (mkF m 4 #[.val (.ref a), .val (.ref b), .unset] [.int (Int32.ofNat B.slots.size), .int (Int32.ofNat A.slots.size)])) := c1.trans (by
    refine XS.aloadN X0.here hexec rfl (hb hbytes d0) rfl rfl ?_
    refine X0.alen hexec hA0 rfl rfl (hb hbytes d1) ?_
    refine XS.aloadN X0.here hexec rfl (hb hbytes d2) rfl rfl ?_
    refine X0.alen hexec hB0 rfl rfl (hb hbytes d3) ?_
    exact Steps.refl _)
  by_cases hs : A.slots.size = B.slots.size
  · have c3 : Steps p.tables e below (s₁.setTop (entryFrame m #[.ref a, .ref b] 3)) (s₁.setTop (mkF m 9 #[.val (.ref a), .val (.ref b), .val (.int 0)] [])) := c2.trans (by
      refine XS.icmpNo X0.here hexec rfl (hb hbytes d4) rfl (ii_ne_f (by rw [hs])) ?_
      refine iconstV X0.here hexec rfl 0 (hb hbytes d7) (by decide) ?_
      refine XS.istoreN X0.here hexec rfl (hb hbytes d8) rfl rfl ?_
      exact Steps.refl _)
    have loop : ∀ (r i : Nat), i + r = A.slots.size → (∀ j, j < i → yv A j = yv B j) → Steps p.tables e below (s₁.setTop (entryFrame m #[.ref a, .ref b] 3)) (s₁.setTop (mkF m 9 #[.val (.ref a), .val (.ref b), .val (.int (Int32.ofNat i))] [])) → ∃ (pc : Nat) (Ls : Array Slot) (v : Int32), (pc = 25 ∨ pc = 33) ∧ ((v = 1 ∧ EqC A B) ∨ (v = 0 ∧ ¬ EqC A B)) ∧ Steps p.tables e below (s₁.setTop (entryFrame m #[.ref a, .ref b] 3)) (s₁.setTop (mkF m pc Ls [.int v])) := by
      intro r
      induction r with
      | zero =>
        intro i hi he cl
        exact ⟨33, _, 1, Or.inr rfl, Or.inl ⟨rfl, hs, fun j hj => he j (by omega)⟩, cl.trans (by
          refine XS.iloadN X0.here hexec rfl (hb hbytes d9) rfl ?_
          refine XS.aloadN X0.here hexec rfl (hb hbytes d10) rfl rfl ?_
          refine X0.alen hexec hA0 rfl rfl (hb hbytes d11) ?_
          refine XS.icmpYes X0.here hexec rfl (pc0 := 12) rfl (hb hbytes d12) rfl (ii_ge_t (nlt32 (by omega) (by omega))) (by decide) rfl ?_
          refine iconstV X0.here hexec rfl 1 (hb hbytes d32) (by decide) ?_
          exact Steps.refl _)⟩
      | succ r ih =>
        intro i hi he cl
        have c4 : Steps p.tables e below (s₁.setTop (entryFrame m #[.ref a, .ref b] 3)) (s₁.setTop (mkF m 21 #[.val (.ref a), .val (.ref b), .val (.int (Int32.ofNat i))] [.int (yv B i), .int (yv A i)])) := cl.trans (by
          refine XS.iloadN X0.here hexec rfl (hb hbytes d9) rfl ?_
          refine XS.aloadN X0.here hexec rfl (hb hbytes d10) rfl rfl ?_
          refine X0.alen hexec hA0 rfl rfl (hb hbytes d11) ?_
          refine XS.icmpNo X0.here hexec rfl (hb hbytes d12) rfl (ii_ge_f (lt32 (by omega) (by omega))) ?_
          refine XS.aloadN X0.here hexec rfl (hb hbytes d15) rfl rfl ?_
          refine XS.iloadN X0.here hexec rfl (hb hbytes d16) rfl ?_
          refine X0.aget hexec hA0 rfl (yv_get hA tA (i := i) (by omega)) rfl rfl (hb hbytes d17) ?_
          refine XS.aloadN X0.here hexec rfl (hb hbytes d18) rfl rfl ?_
          refine XS.iloadN X0.here hexec rfl (hb hbytes d19) rfl ?_
          refine X0.aget hexec hB0 rfl (yv_get hB tB (i := i) (by omega)) rfl rfl (hb hbytes d20) ?_
          exact Steps.refl _)
        by_cases hv : yv A i = yv B i
        · have c5 : Steps p.tables e below (s₁.setTop (entryFrame m #[.ref a, .ref b] 3)) (s₁.setTop (mkF m 9 #[.val (.ref a), .val (.ref b), .val (.int (Int32.ofNat i + 1))] [])) := c4.trans (by
            refine XS.icmpYes X0.here hexec rfl (pc0 := 21) rfl (hb hbytes d21) rfl (ii_eq_t hv) (by decide) rfl ?_
            refine iincV X0.here hexec rfl 1 (hb hbytes d26) (by decide) rfl rfl ?_
            refine XS.goto X0.here hexec rfl (pc0 := 29) rfl (hb hbytes d29) (by decide) rfl ?_
            exact Steps.refl _)
          rw [succ32] at c5
          exact ih (i + 1) (by omega) (fun j hj => by
            by_cases e : j = i
            · rw [e]; exact hv
            · exact he j (by omega)) c5
        · exact ⟨25, _, 0, Or.inl rfl, Or.inr ⟨rfl, fun q => hv (q.2 i (by omega))⟩, c4.trans (by
            refine XS.icmpNo X0.here hexec rfl (hb hbytes d21) rfl (ii_eq_f hv) ?_
            refine iconstV X0.here hexec rfl 0 (hb hbytes d24) (by decide) ?_
            exact Steps.refl _)⟩
    obtain ⟨pc, Ls, v, hpc, hv, cz⟩ := loop A.slots.size 0 (by omega) (fun j hj => absurd hj (Nat.not_lt_zero j)) c3
    have nv : narrow .boolean (.int v) = .int v := by rcases hv with ⟨rfl, -⟩ | ⟨rfl, -⟩ <;> rfl
    rcases hpc with rfl | rfl
    · exact ⟨s₁, some (.int v), _, _, _, X0, rfl, rfl, rfl, (fun h => by cases h), ⟨v, rfl, hh0, hv⟩, fun fs hl => cz.trans (X0.ireturnOut hexec hret nv (Or.inr (Or.inl rfl)) (hb hbytes d25) hl)⟩
    · exact ⟨s₁, some (.int v), _, _, _, X0, rfl, rfl, rfl, (fun h => by cases h), ⟨v, rfl, hh0, hv⟩, fun fs hl => cz.trans (X0.ireturnOut hexec hret nv (Or.inr (Or.inl rfl)) (hb hbytes d33) hl)⟩
  · have c3 : Steps p.tables e below (s₁.setTop (entryFrame m #[.ref a, .ref b] 3)) (s₁.setTop (mkF m 35 #[.val (.ref a), .val (.ref b), .unset] [.int 0])) := c2.trans (by
      refine XS.icmpYes X0.here hexec rfl (pc0 := 4) rfl (hb hbytes d4) rfl (ii_ne_t (ne32 a31 b31 hs)) (by decide) rfl ?_
      refine iconstV X0.here hexec rfl 0 (hb hbytes d34) (by decide) ?_
      exact Steps.refl _)
    exact ⟨s₁, some (.int 0), _, _, _, X0, rfl, rfl, rfl, (fun h => by cases h), ⟨0, rfl, hh0, Or.inr ⟨rfl, fun q => hs q.1⟩⟩, fun fs hl => c3.trans (X0.ireturnOut hexec hret rfl (Or.inr (Or.inl rfl)) (hb hbytes d35) hl)⟩
end LEq
theorem Cod.ty {cd : Int32} {n : Nat} {f : Nat → Int32} {V : Cell} (h : Cod cd n f V) : Typed .byte V := fun i v hv => by
  have hi : i < V.slots.size := (Array.getElem?_eq_some_iff.mp hv).1
  rcases h with ⟨-, k1, k2⟩ | ⟨-, k1, k2, -⟩
  · rw [(k2 i (by omega)).1] at hv; cases hv; exact fits_lo8 _
  · rcases Nat.mod_two_eq_zero_or_one i with e | e
    · obtain ⟨j, rfl⟩ : ∃ j, i = 2 * j := ⟨i / 2, by omega⟩
      rw [(k2 j (by omega)).1] at hv; cases hv; exact fits_lo8 _
    · obtain ⟨j, rfl⟩ : ∃ j, i = 2 * j + 1 := ⟨i / 2, by omega⟩
      rw [(k2 j (by omega)).2] at hv; cases hv; exact fits_lo8 _
/-- the same text -/
def SameT (n : Nat) (f : Nat → Int32) (k : Nat) (g : Nat → Int32) : Prop := n = k ∧ ∀ j, j < n → f j = g j
theorem lo8_inj {x y : Int32} (h0 : ¬ x < 0) (h1 : ¬ 255 < x) (k0 : ¬ y < 0) (k1 : ¬ 255 < y) (h : lo8 x = lo8 y) : x = y := by
  rw [← lo8_mask h0 h1, ← lo8_mask k0 k1, h]
/-- arrays coded by one coder are equal just where the texts are -/
theorem Cod.eqv {cd : Int32} {n k : Nat} {f g : Nat → Int32} {V V' : Cell} (h : Cod cd n f V) (h' : Cod cd k g V') (hf : ∀ j, j < n → ¬ f j < 0 ∧ ¬ 65535 < f j) (hg : ∀ j, j < k → ¬ g j < 0 ∧ ¬ 65535 < g j) : EqC V V' ↔ SameT n f k g := by
  have yvv : ∀ {W : Cell} {i : Nat} {x : Int32}, W.slots[i]? = some (.int x) → yv W i = x := fun q => by unfold yv; rw [q]
  rcases h with ⟨rfl, k1, k2⟩ | ⟨rfl, k1, k2, -⟩
  · rcases h' with ⟨-, m1, m2⟩ | ⟨e, -⟩
    · constructor
      · rintro ⟨e1, e2⟩
        refine ⟨by omega, fun j hj => ?_⟩
        have q := e2 j (by omega)
        rw [yvv (k2 j hj).1, yvv (m2 j (by omega)).1] at q
        exact lo8_inj (hf j hj).1 (k2 j hj).2 (hg j (by omega)).1 (m2 j (by omega)).2 q
      · rintro ⟨rfl, e2⟩
        refine ⟨by omega, fun j hj => ?_⟩
        rw [yvv (k2 j (by omega)).1, yvv (m2 j (by omega)).1, e2 j (by omega)]
    · exact absurd e (by decide)
  · rcases h' with ⟨e, -⟩ | ⟨-, m1, m2, -⟩
    · exact absurd e (by decide)
    · constructor
      · rintro ⟨e1, e2⟩
        refine ⟨by omega, fun j hj => ?_⟩
        have q1 := e2 (2 * j) (by omega)
        have q2 := e2 (2 * j + 1) (by omega)
        rw [yvv (k2 j hj).1, yvv (m2 j (by omega)).1] at q1
        rw [yvv (k2 j hj).2, yvv (m2 j (by omega)).2] at q2
        rw [← pair_says (hf j hj).1 (hf j hj).2, ← pair_says (hg j (by omega)).1 (hg j (by omega)).2, q1, q2]
      · rintro ⟨rfl, e2⟩
        refine ⟨by omega, fun i hi => ?_⟩
        rcases Nat.mod_two_eq_zero_or_one i with e | e
        · obtain ⟨j, rfl⟩ : ∃ j, i = 2 * j := ⟨i / 2, by omega⟩
          rw [yvv (k2 j (by omega)).1, yvv (m2 j (by omega)).1, e2 j (by omega)]
        · obtain ⟨j, rfl⟩ : ∃ j, i = 2 * j + 1 := ⟨i / 2, by omega⟩
          rw [yvv (k2 j (by omega)).2, yvv (m2 j (by omega)).2, e2 j (by omega)]
/-- two codings differ: so do the texts -/
theorem Cod.dif {cd cd' : Int32} {n k : Nat} {f g : Nat → Int32} {V V' : Cell} (h : Cod cd n f V) (h' : Cod cd' k g V') (hne : ¬ cd = cd') : ¬ SameT n f k g := by
  rintro ⟨rfl, e⟩
  rcases h with ⟨rfl, -, k2⟩ | ⟨rfl, -, -, j, hj, hw⟩
  · rcases h' with ⟨rfl, -⟩ | ⟨-, -, -, j, hj, hw⟩
    · exact hne rfl
    · exact (k2 j hj).2 (by rw [e j hj]; exact hw)
  · rcases h' with ⟨-, -, m2⟩ | ⟨rfl, -⟩
    · exact (m2 j hj).2 (by rw [← e j hj]; exact hw)
    · exact hne rfl
/-- an object of exactly C is an instance of C -/
theorem cinst {p : Program} {l : Launch} {e : Env} {R : Room} {s : State} {m : MethodId} {args : Array Value} {below : List Frame} {meth : Method} {c : Code} {T : State} {locs : List Loc} {cells slots : Nat} (X : Stand p l e R s m args below meth c T locs cells slots) (hexec : p.tables.exec = Jvm.exec) {own C : String} {index : Nat} (hown : s.vm.findClass own = some m.cls) (hlink : (Cond.classLink own index C).before args s = true) {a : Addr} (hE : Exact C a T)
    {g : JFrame} (hg : g.method = m) {rest : List Value} (hstack : g.stack = .ref a :: rest) (hdg : decode c.code g.pc = .ok (.instanceof index, 3)) :
    ∃ T', Stand p l e R s m args below meth c T' locs cells slots ∧ T'.heap = T.heap ∧ ∀ target, Steps p.tables e below (T'.setTop { g with pc := g.pc + 3, stack := .int 1 :: rest }) target → Steps p.tables e below (T.setTop g) target := by
  obtain ⟨cB, h1, D, h2, h3, h4⟩ := hE
  have h1' : s.vm.findClass C = some cB := by rw [← X.warmed.alike.findClass]; exact h1
  obtain ⟨vm', X', st⟩ := X.instanceofYes hexec hown hlink h2 h4 h1' (by rw [h3]; exact Jvm.Free.SB.assignable_self _ _) hg hstack hdg
  exact ⟨_, X', rfl, st⟩
theorem cself {p : Program} {l : Launch} {e : Env} {R : Room} {s : State} {m : MethodId} {args : Array Value} {below : List Frame} {meth : Method} {c : Code} {T : State} {locs : List Loc} {cells slots : Nat} (X : Stand p l e R s m args below meth c T locs cells slots) (hexec : p.tables.exec = Jvm.exec) {own C : String} {index : Nat} (hown : s.vm.findClass own = some m.cls) (hlink : (Cond.classLink own index C).before args s = true) {a : Addr} (hE : Exact C a T)
    {g : JFrame} (hg : g.method = m) {rest : List Value} (hstack : g.stack = .ref a :: rest) (hdg : decode c.code g.pc = .ok (.checkcast index, 3)) :
    ∃ T', Stand p l e R s m args below meth c T' locs cells slots ∧ T'.heap = T.heap ∧ ∀ target, Steps p.tables e below (T'.setTop { g with pc := g.pc + 3, stack := .ref a :: rest }) target → Steps p.tables e below (T.setTop g) target := by
  obtain ⟨cB, h1, D, h2, h3, h4⟩ := hE
  have h1' : s.vm.findClass C = some cB := by rw [← X.warmed.alike.findClass]; exact h1
  obtain ⟨vm', X', st⟩ := X.checkcastYes hexec hown hlink h2 h4 h1' (by rw [h3]; exact Jvm.Free.SB.assignable_self _ _) hg hstack hdg
  exact ⟨_, X', rfl, fun t h => st t (by rw [← hstack] at h; exact h)⟩
namespace SEq
def yN : MethodName := ⟨"java/lang/String", "equals", "(Ljava/lang/Object;)Z"⟩
abbrev yB : ByteArray := jdk_42_method_66_code
theorem d0 : decode yB 0 = .ok (.aload_n 0, 1) := by decide +kernel
theorem d1 : decode yB 1 = .ok (.aload_n 1, 1) := by decide +kernel
theorem d2 : decode yB 2 = .ok (.if_acmp (.ne) 5, 3) := by decide +kernel
theorem d5 : decode yB 5 = .ok (.iconst 1, 1) := by decide +kernel
theorem d6 : decode yB 6 = .ok (.ireturn, 1) := by decide +kernel
theorem d7 : decode yB 7 = .ok (.aload_n 1, 1) := by decide +kernel
theorem d8 : decode yB 8 = .ok (.instanceof 10, 3) := by decide +kernel
theorem d11 : decode yB 11 = .ok (.ifCond (.eq) 43, 3) := by decide +kernel
theorem d14 : decode yB 14 = .ok (.aload_n 1, 1) := by decide +kernel
theorem d15 : decode yB 15 = .ok (.checkcast 10, 3) := by decide +kernel
theorem d18 : decode yB 18 = .ok (.astore_n 2, 1) := by decide +kernel
theorem d19 : decode yB 19 = .ok (.getstatic 38, 3) := by decide +kernel
theorem d22 : decode yB 22 = .ok (.ifCond (.eq) 14, 3) := by decide +kernel
theorem d25 : decode yB 25 = .ok (.aload_n 0, 1) := by decide +kernel
theorem d26 : decode yB 26 = .ok (.getfield 15, 3) := by decide +kernel
theorem d29 : decode yB 29 = .ok (.aload_n 2, 1) := by decide +kernel
theorem d30 : decode yB 30 = .ok (.getfield 15, 3) := by decide +kernel
theorem d33 : decode yB 33 = .ok (.if_icmp (.ne) 21, 3) := by decide +kernel
theorem d36 : decode yB 36 = .ok (.aload_n 0, 1) := by decide +kernel
theorem d37 : decode yB 37 = .ok (.getfield 9, 3) := by decide +kernel
theorem d40 : decode yB 40 = .ok (.aload_n 2, 1) := by decide +kernel
theorem d41 : decode yB 41 = .ok (.getfield 9, 3) := by decide +kernel
theorem d44 : decode yB 44 = .ok (.invokestatic 541, 3) := by decide +kernel
theorem d47 : decode yB 47 = .ok (.ifCond (.eq) 7, 3) := by decide +kernel
theorem d50 : decode yB 50 = .ok (.iconst 1, 1) := by decide +kernel
theorem d51 : decode yB 51 = .ok (.goto 4, 3) := by decide +kernel
theorem d54 : decode yB 54 = .ok (.iconst 0, 1) := by decide +kernel
theorem d55 : decode yB 55 = .ok (.ireturn, 1) := by decide +kernel
def site : List Cond := [.classLink "java/lang/String" 10 "java/lang/String", .fieldLink "java/lang/String" 38 "java/lang/String" "COMPACT_STRINGS" "Z", .fieldLink "java/lang/String" 15 "java/lang/String" "coder" "B", .fieldLink "java/lang/String" 9 "java/lang/String" "value" "[B", LEq.tab] ++ staticW "java/lang/String" 541 LEq.yN
def tab : Cond := tabOf yN yB 3 (some .boolean) site
def P (x t : Addr) (V : Cell) (cd : Int32) (n : Nat) (f : Nat → Int32) (y t' : Addr) (V' : Cell) (cd' : Int32) (k : Nat) (g : Nat → Int32) (z : Int32) (args : Array Value) (s : State) : Prop := args = #[.ref x, .ref y] ∧ Txt x t V cd n f s ∧ Txt y t' V' cd' k g s ∧ StaticIs s "java/lang/String" "COMPACT_STRINGS" "Z" (.int z) ∧ ¬ z = 0
/-- equals(Object) of two Strings: whether the texts are the same -/
theorem law (l : Launch) (x t : Addr) (V : Cell) (cd : Int32) (n : Nat) (f : Nat → Int32) (y t' : Addr) (V' : Cell) (cd' : Int32) (k : Nat) (g : Nat → Int32) (z : Int32) : Law l yN 2 1 1 14 yB 3 (some .boolean) site (P x t V cd n f y t' V' cd' k g z) (Says01 (SameT n f k g)) [] 0 0 := by
  refine Law.of_walk (plainFor_of_name (by decide +kernel)) (by decide +kernel) (by decide +kernel) (by decide) (fun _ _ h => by rw [h.1]; rfl) (fun _ U U' hal hh h => ⟨h.1, h.2.1.mv hal hh, h.2.2.1.mv hal hh, h.2.2.2.1.there hal hh, h.2.2.2.2⟩) (fun r U U' V V' h1 hal h2 h => Says01.mv r U U' V V' h1 hal h2 h) ?_
  intro p e s m args below meth c s₁ X0 hexec hbytes hml hret hlk hnm hown hh0 W hP
  obtain ⟨rfl, hx, hy, s1, hz⟩ := hP
  have c1 : Steps p.tables e below (s₁.setTop (entryFrame m #[.ref x, .ref y] 3)) (s₁.setTop (mkF m 2 #[.val (.ref x), .val (.ref y), .unset] [.ref y, .ref x])) := Steps.trans (entry rfl) (by
    show Steps p.tables e below (s₁.setTop (mkF m 0 #[.val (.ref x), .val (.ref y), .unset] [])) _
    refine XS.aloadN X0.here hexec rfl (hb hbytes d0) rfl rfl ?_
    refine XS.aloadN X0.here hexec rfl (hb hbytes d1) rfl rfl ?_
    exact Steps.refl _)
  by_cases hxy : x = y
  · have c2 : Steps p.tables e below (s₁.setTop (entryFrame m #[.ref x, .ref y] 3)) (s₁.setTop (mkF m 6 #[.val (.ref x), .val (.ref y), .unset] [.int 1])) := c1.trans (by
      refine acmpNo X0.here hexec rfl (hb hbytes d2) rfl rfl rfl (by simp [acmp, hxy]) ?_
      refine iconstV X0.here hexec rfl 1 (hb hbytes d5) (by decide) ?_
      exact Steps.refl _)
    subst hxy
    have ec : cd = cd' := by
      obtain ⟨D, fd, a1, a2, a3⟩ := hx.2.2.1
      obtain ⟨D', fd', b1, b2, b3⟩ := hy.2.2.1
      cases a1.symm.trans b1
      obtain ⟨q1, q2, q3, q4⟩ := a2.1
      obtain ⟨r1, r2, r3, r4⟩ := b2.1
      cases q4.symm.trans r4
      cases a3.symm.trans b3; rfl
    have et : t = t' := by
      obtain ⟨D, fd, a1, a2, a3⟩ := hx.2.1
      obtain ⟨D', fd', b1, b2, b3⟩ := hy.2.1
      cases a1.symm.trans b1
      obtain ⟨q1, q2, q3, q4⟩ := a2.1
      obtain ⟨r1, r2, r3, r4⟩ := b2.1
      cases q4.symm.trans r4
      cases a3.symm.trans b3; rfl
    subst ec et
    have ev : V = V' := by cases hx.2.2.2.1.1.symm.trans hy.2.2.2.1.1; rfl
    subst ev
    have hs : SameT n f k g := (Cod.eqv hx.2.2.2.2.1 hy.2.2.2.2.1 hx.2.2.2.2.2 hy.2.2.2.2.2).mp ⟨rfl, fun _ _ => rfl⟩
    exact ⟨s₁, some (.int 1), _, _, _, X0, rfl, rfl, rfl, (fun h => by cases h), ⟨1, rfl, hh0, Or.inl ⟨rfl, hs⟩⟩, fun fs hl => c2.trans (X0.ireturnOut hexec hret rfl (Or.inr (Or.inl rfl)) (hb hbytes d6) hl)⟩
  · have c2 : Steps p.tables e below (s₁.setTop (entryFrame m #[.ref x, .ref y] 3)) (s₁.setTop (mkF m 8 #[.val (.ref x), .val (.ref y), .unset] [.ref y])) := c1.trans (by
      refine acmpYes X0.here hexec rfl (pc0 := 2) rfl (hb hbytes d2) rfl rfl rfl (by simp [acmp, hxy]) (by decide) rfl ?_
      refine XS.aloadN X0.here hexec rfl (hb hbytes d7) rfl rfl ?_
      exact Steps.refl _)
    obtain ⟨T3, X3, q3, st3⟩ := cinst X0 hexec hown (wk W (.classLink "java/lang/String" 10 "java/lang/String")) (hy.mv X0.warmed.alike hh0).1 (g := (mkF m 8 #[.val (.ref x), .val (.ref y), .unset] [.ref y])) rfl (rest := []) rfl (hb hbytes d8)
    have hh3 := q3.trans hh0
    have c4 : Steps p.tables e below (s₁.setTop (entryFrame m #[.ref x, .ref y] 3)) (T3.setTop (mkF m 15 #[.val (.ref x), .val (.ref y), .unset] [.ref y])) := (c2.trans (st3 _ (Steps.refl _))).trans (by
      refine XS.ifNo X3.here hexec rfl (hb hbytes d11) rfl (i0_eq_f (by decide)) ?_
      refine XS.aloadN X3.here hexec rfl (hb hbytes d14) rfl rfl ?_
      exact Steps.refl _)
    obtain ⟨T5, X5, q5, st5⟩ := cself X3 hexec hown (wk W (.classLink "java/lang/String" 10 "java/lang/String")) (hy.mv X3.warmed.alike hh3).1 (g := (mkF m 15 #[.val (.ref x), .val (.ref y), .unset] [.ref y])) rfl (rest := []) rfl (hb hbytes d15)
    have hh5 := q5.trans hh3
    have c6 : Steps p.tables e below (s₁.setTop (entryFrame m #[.ref x, .ref y] 3)) (T5.setTop (mkF m 19 #[.val (.ref x), .val (.ref y), .val (.ref y)] [])) := (c4.trans (st5 _ (Steps.refl _))).trans (by
      refine XS.astoreN X5.here hexec rfl (hb hbytes d18) rfl rfl rfl ?_
      exact Steps.refl _)
    obtain ⟨T7, X7, q7, st7⟩ := X5.sget hexec hown (wk W (.fieldLink "java/lang/String" 38 "java/lang/String" "COMPACT_STRINGS" "Z")) s1 (fun _ _ h => by rw [hh5]; exact h) (g := (mkF m 19 #[.val (.ref x), .val (.ref y), .val (.ref y)] [])) rfl (hb hbytes d19)
    have hh7 := q7.trans hh5
    have c8 : Steps p.tables e below (s₁.setTop (entryFrame m #[.ref x, .ref y] 3)) (T7.setTop (mkF m 26 #[.val (.ref x), .val (.ref y), .val (.ref y)] [.ref x])) := (c6.trans (st7 _ (Steps.refl _))).trans (by
      refine XS.ifNo X7.here hexec rfl (hb hbytes d22) rfl (i0_eq_f hz) ?_
      refine XS.aloadN X7.here hexec rfl (hb hbytes d25) rfl rfl ?_
      exact Steps.refl _)
    obtain ⟨T9, X9, q9, st9⟩ := X7.hget hexec hown (wk W (.fieldLink "java/lang/String" 15 "java/lang/String" "coder" "B")) (hx.mv X7.warmed.alike hh7).2.2.1 (g := (mkF m 26 #[.val (.ref x), .val (.ref y), .val (.ref y)] [.ref x])) rfl (rest := []) rfl (hb hbytes d26)
    have hh9 := q9.trans hh7
    have c10 : Steps p.tables e below (s₁.setTop (entryFrame m #[.ref x, .ref y] 3)) (T9.setTop (mkF m 30 #[.val (.ref x), .val (.ref y), .val (.ref y)] [.ref y, .int cd])) := (c8.trans (st9 _ (Steps.refl _))).trans (by
      refine XS.aloadN X9.here hexec rfl (hb hbytes d29) rfl rfl ?_
      exact Steps.refl _)
    obtain ⟨T11, X11, q11, st11⟩ := X9.hget hexec hown (wk W (.fieldLink "java/lang/String" 15 "java/lang/String" "coder" "B")) (hy.mv X9.warmed.alike hh9).2.2.1 (g := (mkF m 30 #[.val (.ref x), .val (.ref y), .val (.ref y)] [.ref y, .int cd])) rfl (rest := [.int cd]) rfl (hb hbytes d30)
    have hh11 := q11.trans hh9
    have c12 : Steps p.tables e below (s₁.setTop (entryFrame m #[.ref x, .ref y] 3)) (T11.setTop (mkF m 33 #[.val (.ref x), .val (.ref y), .val (.ref y)] [.int cd', .int cd])) := c10.trans (st11 _ (Steps.refl _))
    by_cases hcd : cd = cd'
    · subst hcd
      have c13 : Steps p.tables e below (s₁.setTop (entryFrame m #[.ref x, .ref y] 3)) (T11.setTop (mkF m 37 #[.val (.ref x), .val (.ref y), .val (.ref y)] [.ref x])) := c12.trans (by
        refine XS.icmpNo X11.here hexec rfl (hb hbytes d33) rfl (ii_ne_f rfl) ?_
        refine XS.aloadN X11.here hexec rfl (hb hbytes d36) rfl rfl ?_
        exact Steps.refl _)
      obtain ⟨T14, X14, q14, st14⟩ := X11.hget hexec hown (wk W (.fieldLink "java/lang/String" 9 "java/lang/String" "value" "[B")) (hx.mv X11.warmed.alike hh11).2.1 (g := (mkF m 37 #[.val (.ref x), .val (.ref y), .val (.ref y)] [.ref x])) rfl (rest := []) rfl (hb hbytes d37)
      have hh14 := q14.trans hh11
      have c15 : Steps p.tables e below (s₁.setTop (entryFrame m #[.ref x, .ref y] 3)) (T14.setTop (mkF m 41 #[.val (.ref x), .val (.ref y), .val (.ref y)] [.ref y, .ref t])) := (c13.trans (st14 _ (Steps.refl _))).trans (by
        refine XS.aloadN X14.here hexec rfl (hb hbytes d40) rfl rfl ?_
        exact Steps.refl _)
      obtain ⟨T16, X16, q16, st16⟩ := X14.hget hexec hown (wk W (.fieldLink "java/lang/String" 9 "java/lang/String" "value" "[B")) (hy.mv X14.warmed.alike hh14).2.1 (g := (mkF m 41 #[.val (.ref x), .val (.ref y), .val (.ref y)] [.ref y, .ref t])) rfl (rest := [.ref t]) rfl (hb hbytes d41)
      have hh16 := q16.trans hh14
      have c17 : Steps p.tables e below (s₁.setTop (entryFrame m #[.ref x, .ref y] 3)) (T16.setTop (mkF m 44 #[.val (.ref x), .val (.ref y), .val (.ref y)] [.ref t', .ref t])) := c15.trans (st16 _ (Steps.refl _))
      obtain ⟨v18, T18, X18, E18, g18⟩ := X16.callS hexec (LEq.law l t V t' V') hown (wks W (staticW "java/lang/String" 541 LEq.yN)) (wk W LEq.tab) (W := 0) (Nat.le_of_ble_eq_true rfl) (Nat.le_of_ble_eq_true rfl) (Nat.le_refl _) (Nat.le_refl _) (g := (mkF m 44 #[.val (.ref x), .val (.ref y), .val (.ref y)] [.ref t', .ref t])) rfl (by rw [hml]; rfl) c17 (argsL := [.ref t, .ref t']) (rest := []) rfl rfl (by show 2 * 0 + 0 ≤ _; decide) (hb hbytes d44) (⟨rfl, hx.2.2.2.1.mv X16.warmed.alike hh16, hx.2.2.2.2.1.ty, hy.2.2.2.1.mv X16.warmed.alike hh16, hy.2.2.2.2.1.ty⟩)
      obtain ⟨v, rfl, q18, hv⟩ := E18
      have iff := Cod.eqv hx.2.2.2.2.1 hy.2.2.2.2.1 hx.2.2.2.2.2 hy.2.2.2.2.2
      rcases hv with ⟨rfl, he⟩ | ⟨rfl, he⟩
      · have c19 : Steps p.tables e below (s₁.setTop (entryFrame m #[.ref x, .ref y] 3)) (T18.setTop (mkF m 55 #[.val (.ref x), .val (.ref y), .val (.ref y)] [.int 1])) := Steps.trans g18 (by
          refine XS.ifNo X18.here hexec rfl (hb hbytes d47) rfl (i0_eq_f (by decide)) ?_
          refine iconstV X18.here hexec rfl 1 (hb hbytes d50) (by decide) ?_
          refine XS.goto X18.here hexec rfl (pc0 := 51) rfl (hb hbytes d51) (by decide) rfl ?_
          exact Steps.refl _)
        exact ⟨T18, some (.int 1), _, _, _, X18, rfl, rfl, rfl, (fun h => by cases h), ⟨1, rfl, q18.trans hh16, Or.inl ⟨rfl, iff.mp he⟩⟩, fun fs hl => c19.trans (X18.ireturnOut hexec hret rfl (Or.inr (Or.inl rfl)) (hb hbytes d55) hl)⟩
      · have c19 : Steps p.tables e below (s₁.setTop (entryFrame m #[.ref x, .ref y] 3)) (T18.setTop (mkF m 55 #[.val (.ref x), .val (.ref y), .val (.ref y)] [.int 0])) := Steps.trans g18 (by
          refine XS.ifYes X18.here hexec rfl (pc0 := 47) rfl (hb hbytes d47) rfl (i0_eq_t rfl) (by decide) rfl ?_
          refine iconstV X18.here hexec rfl 0 (hb hbytes d54) (by decide) ?_
          exact Steps.refl _)
        exact ⟨T18, some (.int 0), _, _, _, X18, rfl, rfl, rfl, (fun h => by cases h), ⟨0, rfl, q18.trans hh16, Or.inr ⟨rfl, fun q => he (iff.mpr q)⟩⟩, fun fs hl => c19.trans (X18.ireturnOut hexec hret rfl (Or.inr (Or.inl rfl)) (hb hbytes d55) hl)⟩
    · have c13 : Steps p.tables e below (s₁.setTop (entryFrame m #[.ref x, .ref y] 3)) (T11.setTop (mkF m 55 #[.val (.ref x), .val (.ref y), .val (.ref y)] [.int 0])) := c12.trans (by
        refine XS.icmpYes X11.here hexec rfl (pc0 := 33) rfl (hb hbytes d33) rfl (ii_ne_t hcd) (by decide) rfl ?_
        refine iconstV X11.here hexec rfl 0 (hb hbytes d54) (by decide) ?_
        exact Steps.refl _)
      exact ⟨T11, some (.int 0), _, _, _, X11, rfl, rfl, rfl, (fun h => by cases h), ⟨0, rfl, hh11, Or.inr ⟨rfl, Cod.dif hx.2.2.2.2.1 hy.2.2.2.2.1 hcd⟩⟩, fun fs hl => c13.trans (X11.ireturnOut hexec hret rfl (Or.inr (Or.inl rfl)) (hb hbytes d55) hl)⟩
theorem pays {l : Launch} {R : Room} {p : Program} {e : Env} {below : List Frame} {s : State} {sargs : Array Value} {len W : Nat} (x t : Addr) (V : Cell) (cd : Int32) (n : Nat) (f : Nat → Int32) (y t' : Addr) (V' : Cell) (cd' : Int32) (k : Nat) (g : Nat → Int32) (z : Int32) (htab : tab.before sargs s = true) (hfr : 2 ≤ R.frames) (hlo : W + 28 ≤ R.locals) :
    Back l R p e below s sargs yN len W (fun A₁ a₁ => A₁.cells + 0 ≤ R.cells ∧ A₁.slots + 0 ≤ R.slots ∧ P x t V cd n f y t' V' cd' k g z a₁ A₁.U) (fun A₁ _ v₁ B₁ => Says01 (SameT n f k g) v₁ A₁.U B₁.U ∧ B₁.locs = A₁.locs ++ [] ∧ B₁.cells = A₁.cells + 0 ∧ B₁.slots = A₁.slots + 0) :=
  (law l x t V cd n f y t' V' cd' k g z).pays htab hfr (by omega)
end SEq
end StrChars
namespace StrChars.Road
open Jvm Sem ClassFile Op Lib Jvm.Stand Jvm.Free Jvm.Free.XT
open Jvm.Lib.Cold (StaticIs)
/-- the words of String.equals(Object) -/
abbrev wordsEq : List Jvm.Cond := [.code SEq.yN SEq.yB 3 (some .boolean), .initialized ST, .classLink ST 10 ST, .fieldLink ST 38 ST "COMPACT_STRINGS" "Z", .fieldLink ST 15 ST "coder" "B", .fieldLink ST 9 ST "value" "[B", .methodLink ST 541 LEq.yN, .static LEq.yN, .code LEq.yN LEq.yB 3 (some .boolean), .initialized "java/lang/StringLatin1"]
theorem tabEq_of {a : Array Value} {s : State} (h : ∀ w ∈ wordsEq, w.before a s = true) : SEq.tab.before a s = true := by
  have hl : LEq.tab.before a s = true := unparts (wk h (.code LEq.yN LEq.yB 3 (some .boolean))) (wks h (.initialized LEq.yN.cls :: LEq.site))
  have q := consq hl h
  exact unparts (wk q (.code SEq.yN SEq.yB 3 (some .boolean))) (wks q (.initialized SEq.yN.cls :: SEq.site))
theorem movedEq {Z s : State} {a0 args : Array Value} (hZ : Z.Warmed39 s.vm) (hw : ∀ d ∈ wordsEq, d.before a0 Z = true) : ∀ d ∈ wordsEq, d.before args s = true := fun d hd => by
  have t : ∀ d ∈ wordsEq, (d.onTables && d.keepsFace) = true := by decide +kernel
  exact RoadKit.mv hZ (hw d hd) (t d hd)
/-- the road's facts of a String, as the laws ask it -/
theorem txt_of {Z U : State} {a0 : Array Value} {kI : Nat} (wi : (Jvm.Cond.instantiable ST kI).before a0 Z = true) (al : Z.vm.Alike U.vm) {x t : Addr} {kb : ClassId} {cs : List Int32} {cd N2 : Int32} {vs : List Value} (E : RoadKit.Exa Z U.heap x ST) (V : RoadKit.Fld Z U.heap x ST "value" "[B" (.ref t)) (C : RoadKit.Fld Z U.heap x ST "coder" "B" (.int cd)) (K : RoadKit.Arv Z U.heap t kb .byte N2 vs (.int 0)) (hc : CodA cs cd N2 vs) (hb : ∀ c ∈ cs, ¬ c < 0 ∧ ¬ (65535 : Int32) < c) (l2 : cs.length ≤ 4000) :
    ∃ A, Txt x t A cd cs.length (fun j => cs.getD j 0) U := by
  obtain ⟨A, K1, K2, K3, K4, K5, K6⟩ := K
  have hcod := hc.cod (by omega) K3 K5
  obtain ⟨D, fV, fC, hB, F1, F2, g1, g2, -, -⟩ := strObj wi al E V C
  exact ⟨A, ⟨_, hB.2.2.1, D, hB.1, rfl, by cases q : D.vm <;> first | rfl | exact absurd q (hB.2.1.2 _)⟩, Has.of hB F1 g1, Has.of hB F2 g2, ⟨K1.1, State.isArrayOf_alike al K1.2.1, K1.2.2, by rcases hcod with ⟨-, q, -⟩ | ⟨-, q, -⟩ <;> omega⟩, hcod, fun j hj => by
    have e : cs.getD j 0 = cs[j] := by simp [List.getD_eq_getElem?_getD, hj]
    show ¬ cs.getD j 0 < 0 ∧ ¬ 65535 < cs.getD j 0
    rw [e]; exact hb _ (List.getElem_mem _)⟩
theorem same_list (cs ds : List Int32) : SameT cs.length (fun j => cs.getD j 0) ds.length (fun j => ds.getD j 0) ↔ cs = ds := by
  constructor
  · rintro ⟨e, q⟩
    refine List.ext_getElem e fun j h1 h2 => ?_
    have := q j h1
    simpa [List.getD_eq_getElem?_getD, h1, h2] using this
  · rintro rfl
    exact ⟨rfl, fun _ _ => rfl⟩
/-- **equals(Object) OF TWO SUCH STRINGS**: 1 just where the chars are the same -/
theorem eqW {p : Program} {l : Launch} {e : Env} {R : Room} {s : State} {args : Array Value} {below : List Frame} {len W : Nat} {Z : State} {a0 : Array Value} {h : Heap} (hZ : Z.Warmed39 s.vm) (hw : ∀ d ∈ wordsEq, d.before a0 Z = true) {kI : Nat} (wi : (Jvm.Cond.instantiable ST kI).before a0 Z = true)
    {x t : Addr} {kb : ClassId} {cs : List Int32} {cd N2 : Int32} {vs : List Value} (E : RoadKit.Exa Z h x ST) (V : RoadKit.Fld Z h x ST "value" "[B" (.ref t)) (C : RoadKit.Fld Z h x ST "coder" "B" (.int cd)) (K : RoadKit.Arv Z h t kb .byte N2 vs (.int 0)) (hc : CodA cs cd N2 vs) (hb : ∀ c ∈ cs, ¬ c < 0 ∧ ¬ (65535 : Int32) < c) (l2 : cs.length ≤ 4000)
    {y t' : Addr} {kb' : ClassId} {ds : List Int32} {cd' N2' : Int32} {vs' : List Value} (E' : RoadKit.Exa Z h y ST) (V' : RoadKit.Fld Z h y ST "value" "[B" (.ref t')) (C' : RoadKit.Fld Z h y ST "coder" "B" (.int cd')) (K' : RoadKit.Arv Z h t' kb' .byte N2' vs' (.int 0)) (hc' : CodA ds cd' N2' vs') (hb' : ∀ c ∈ ds, ¬ c < 0 ∧ ¬ (65535 : Int32) < c) (l2' : ds.length ≤ 4000)
    {z : Int32} (S : RoadKit.Sta Z h ST "COMPACT_STRINGS" "Z" (.int z)) (hz : ¬ z = 0) (hfr : 2 ≤ R.frames) (hlo : W + 28 ≤ R.locals) :
    Back l R p e below s args (⟨"java/lang/String", "equals", "(Ljava/lang/Object;)Z"⟩ : MethodName) len W (fun P a => a = #[.ref x, .ref y] ∧ P.U.heap = h ∧ P.cells + 0 ≤ R.cells ∧ P.slots + 0 ≤ R.slots)
      (fun P _ v B => ∃ L, (((v = some (.int 1) ∧ cs = ds) ∨ (v = some (.int 0) ∧ ¬ cs = ds)) ∧ L = [] ∧ B.U.heap = h) ∧ B.locs = P.locs ++ L ∧ B.cells = P.cells + 0 ∧ B.slots = P.slots + 0) := by
  intro m meth c P g ig mk a X hg hsize hdg hW hn hp'
  obtain ⟨rfl, rfl, r1, r2⟩ := hp'
  have al : Z.vm.Alike P.U.vm := hZ.alike.trans X.warmed.alike
  obtain ⟨A, hx⟩ := txt_of wi al E V C K hc hb l2
  obtain ⟨A', hy⟩ := txt_of wi al E' V' C' K' hc' hb' l2'
  obtain ⟨v, B, X', ⟨⟨w, hv, hh, hq⟩, hl, hk, hs⟩, st⟩ := SEq.pays x t A cd cs.length (fun j => cs.getD j 0) y t' A' cd' ds.length (fun j => ds.getD j 0) z (tabEq_of (movedEq hZ hw)) hfr hlo m meth c P g ig mk _ X hg hsize hdg hW hn ⟨r1, r2, rfl, hx, hy, sta_is al S, hz⟩
  refine ⟨v, B, X', ⟨[], ⟨?_, rfl, hh⟩, hl, hk, hs⟩, st⟩
  rcases hq with ⟨rfl, q⟩ | ⟨rfl, q⟩
  · exact Or.inl ⟨hv, (same_list cs ds).mp q⟩
  · exact Or.inr ⟨hv, fun e => q ((same_list cs ds).mpr e)⟩
end StrChars.Road
end Jvm.Pilot.@@N@@

namespace Jvm.Pilot.@@N@@
open Jvm Jvm.ClassFile Sem Op Lib Jvm.Free Jvm.Stand Jvm.LawKit Jvm.RoadKit Bundle Jvm.OwnKit
section StrKit
variable {p : Program} {l : Launch} {e : Env} {R : Room} {s : State} {m : MethodId} {args : Array Value} {below : List Frame} {meth : Method} {c : Code} {Z : State} {a0 : Array Value} {EL : List (String × Nat)} {cw : Prop} {own : String} {n0 : Nat} {bytes : ByteArray} {maxL : Nat} {ret : Option FieldType} {nm : String} {T : State} {h : Heap} {C S : Nat} {sf : List Addr} {P : State → Outcome → Prop}
theorem G.newStr (H : Hs p l e R s m args below meth c Z a0 EL cw own n0 bytes maxL ret nm T h C S sf) (hws : ∀ d ∈ StrChars.Road.words, d.before a0 Z = true) {kI : Nat} (wi : (Jvm.Cond.instantiable "java/lang/String" kI).before a0 Z = true) {index : Nat} (w1 : (Jvm.Cond.methodLink own index (⟨"java/lang/String", "<init>", "([C)V"⟩ : MethodName)).before a0 Z = true) (w2 : (Jvm.Cond.instanceMethod (⟨"java/lang/String", "<init>", "([C)V"⟩ : MethodName)).before a0 Z = true)
    {x b : Addr} {kC : ClassId} {cs : List Int32} {d v0 c0 : Value} {z N : Int32} {n : Nat} (g : n0 ≤ x) (E : Exa Z h x "java/lang/String") (V : Fld Z h x "java/lang/String" "value" "[B" v0) (Cd : Fld Z h x "java/lang/String" "coder" "B" c0) (K : Arv Z h b kC .char N (cs.map Value.int) d) (Sc : Sta Z Z.heap "java/lang/String" "COMPACT_STRINGS" "Z" (.int z)) (hz : ¬ z = 0)
    (hn : cs.length = n) (hN : N = Int32.ofNat n) (l0 : 0 < n) (l2 : n ≤ 4000) (hp : ∀ c ∈ cs, ¬ c < 0 ∧ ¬ (255 : Int32) < c) (hsf : Sf Z EL h sf x) {rest : List Value} {W : Nat} {pc pc' : Nat} {L : Array Slot} (hL : L.size = maxL) (hW : (rest.map fun v => v.category).sum = W) (hd : decode bytes pc = .ok (.invokespecial index, 3)) (hp' : pc + 3 = pc') (hfr : 4 ≤ R.frames) (hlo : W + 65 ≤ R.locals) (hc : C + 1 ≤ R.cells) (hsl : S + n ≤ R.slots)
    (k : ∀ T' h' t kb, h.size ≤ t → Hs p l e R s m args below meth c Z a0 EL cw own n0 bytes maxL ret nm T' h' (C + 1) (S + n) (t :: sf) → Keep h h' [x] → Str Z h' x t kb cs → Go p e below P (T'.setTop (mkF m pc' L rest))) : Go p e below P (T.setTop (mkF m pc L (.ref b :: .ref x :: rest))) := by
  subst hp'
  obtain ⟨hM, vm0, k0, locs, X, h1, h2, h3, h4, h5, h6, h7, h8, h9, hO⟩ := id H
  have wc : (Jvm.Cond.code StrChars.New1.yN StrChars.New1.yB 2 none).before a0 Z = true := hws _ (List.mem_of_getElem? (i := 0) rfl)
  obtain ⟨v, vm₁, B, hw, X', ⟨L', ⟨q1, q2, q3, q4, q5, t, kb, q6, q7, q8, q9, q10⟩, r2, r3, r4⟩, st'⟩ := X.specialBack H.exec (y := (⟨"java/lang/String", "<init>", "([C)V"⟩ : MethodName)) rfl h5 (mvT (s := s.setVm vm0) h4 w1) (mvT (s := s.setVm vm0) h4 w2) (mvT (s := s.setVm vm0) h4 wc) (by decide)
    (StrChars.Road.backV (W := W) (s := s.setVm vm0) h4 hws wi g H.le E V Cd K (Sta.ext hO.2 Sc) hz hn hN l0 l2 hp rfl hfr hlo) (g := mkF m pc L (.ref b :: .ref x :: rest)) rfl (by rw [hM.2.2.2.1]; exact hL) (Steps.refl _) (a := x) (argsL := [.ref b]) (rest := rest) (lenOf (show parseMethodDescriptor "([C)V" = some ⟨[.array .char], none⟩ by decide +kernel) rfl) rfl (by show 2 * 0 + _ ≤ _; omega) (H.dec hd) (fun _ _ => ⟨rfl, h1, hc, hsl⟩)
  subst q1
  have sx : ∀ y ∈ [x], Safe Z EL vm0 h y := fun y hy => by rw [List.mem_singleton.mp hy]; exact hsf.safe h4 h8
  have hC := CHr.keep q3 sx h7.1
  refine Go.tr st' (k B.U B.U.heap t kb q7 ⟨hM, vm0, k0, B.locs, by rw [← r3, ← r4]; exact X', rfl, h2, Nat.le_trans h3 q3.1, h4, h5, by rw [r2]; exact Fr.app h6 q2, h7.trans hC, fun y hy => ?_, h9, hO.keep q3 (fun y hy => by rw [List.mem_singleton.mp hy]; exact g)⟩ q3 ⟨q4, q5, q9, ?_, hp, by rw [hn]; exact l2⟩)
  · rcases List.mem_cons.mp hy with rfl | hy
    · exact ⟨q10.lt, Safe.keep q3 sx h7.1 (Safe.new q7)⟩
    · exact ⟨Nat.lt_of_lt_of_le (h8 y hy).1 q3.1, Safe.keep q3 sx h7.1 (h8 y hy).2⟩
  · rw [hn, ← hN]; rw [List.map_map] at q10; exact q10
end StrKit
end Jvm.Pilot.@@N@@
namespace Jvm.Pilot.@@N@@
open Jvm Jvm.ClassFile Sem Op Lib Jvm.Free Jvm.Stand Jvm.LawKit Jvm.RoadKit Bundle Jvm.OwnKit
section StrKit2
variable {p : Program} {l : Launch} {e : Env} {R : Room} {s : State} {m : MethodId} {args : Array Value} {below : List Frame} {meth : Method} {c : Code} {Z : State} {a0 : Array Value} {EL : List (String × Nat)} {cw : Prop} {own : String} {n0 : Nat} {bytes : ByteArray} {maxL : Nat} {ret : Option FieldType} {nm : String} {T : State} {h : Heap} {C S : Nat} {sf : List Addr} {P : State → Outcome → Prop}
theorem str_cod {a t : Addr} {kb : ClassId} {cs : List Int32} (F : Str Z h a t kb cs) : StrChars.Road.CodA cs 0 (Int32.ofNat cs.length) (cs.map fun c => Value.int c.toInt8.toInt32) := Or.inl ⟨rfl, rfl, rfl, fun c hc => (F.2.2.2.2.1 c hc).2⟩
theorem str_u16 {a t : Addr} {kb : ClassId} {cs : List Int32} (F : Str Z h a t kb cs) : ∀ c ∈ cs, ¬ c < 0 ∧ ¬ (65535 : Int32) < c := fun c hc => own_u16 (F.2.2.2.2.1 c hc)
theorem G.strEq (H : Hs p l e R s m args below meth c Z a0 EL cw own n0 bytes maxL ret nm T h C S sf) (hws : ∀ d ∈ StrChars.Road.wordsEq, d.before a0 Z = true) {kI : Nat} (wi : (Jvm.Cond.instantiable "java/lang/String" kI).before a0 Z = true) {index : Nat} (w1 : (Jvm.Cond.methodLink own index (⟨"java/lang/String", "equals", "(Ljava/lang/Object;)Z"⟩ : MethodName)).before a0 Z = true) (w2 : (Jvm.Cond.declares (⟨"java/lang/String", "equals", "(Ljava/lang/Object;)Z"⟩ : MethodName)).before a0 Z = true) (w3 : (Jvm.Cond.selects "java/lang/String" (⟨"java/lang/String", "equals", "(Ljava/lang/Object;)Z"⟩ : MethodName) (⟨"java/lang/String", "equals", "(Ljava/lang/Object;)Z"⟩ : MethodName)).before a0 Z = true) (w4 : (Jvm.Cond.instanceMethod (⟨"java/lang/String", "equals", "(Ljava/lang/Object;)Z"⟩ : MethodName)).before a0 Z = true)
    {x t y t' : Addr} {kb kb' : ClassId} {cs ds : List Int32} (F : Str Z h x t kb cs) (F' : Str Z h y t' kb' ds) {z : Int32} (Sc : Sta Z Z.heap "java/lang/String" "COMPACT_STRINGS" "Z" (.int z)) (hz : ¬ z = 0) {rest : List Value} {W : Nat} {pc pc' : Nat} {L : Array Slot} (hL : L.size = maxL) (hW : (rest.map fun v => v.category).sum = W) (hd : decode bytes pc = .ok (.invokevirtual index, 3)) (hp : pc + 3 = pc') (hfr : 2 ≤ R.frames) (hlo : W + 28 ≤ R.locals) (hc : C ≤ R.cells) (hsl : S ≤ R.slots)
    (k1 : ∀ T', Hs p l e R s m args below meth c Z a0 EL cw own n0 bytes maxL ret nm T' h C S sf → cs = ds → Go p e below P (T'.setTop (mkF m pc' L (.int 1 :: rest)))) (k0 : ∀ T', Hs p l e R s m args below meth c Z a0 EL cw own n0 bytes maxL ret nm T' h C S sf → ¬ cs = ds → Go p e below P (T'.setTop (mkF m pc' L (.int 0 :: rest)))) : Go p e below P (T.setTop (mkF m pc L (.ref y :: .ref x :: rest))) := by
  refine G.pureV H (Qv := fun v => (v = some (.int 1) ∧ cs = ds) ∨ (v = some (.int 0) ∧ ¬ cs = ds)) (W := W) (fun s' hZ' => StrChars.Road.eqW (s := s') hZ' hws wi F.1 F.2.2.1 F.2.1 F.2.2.2.1 (str_cod F) (str_u16 F) F.2.2.2.2.2 F'.1 F'.2.2.1 F'.2.1 F'.2.2.2.1 (str_cod F') (str_u16 F') F'.2.2.2.2.2 (Sta.ext H.old.2 Sc) hz hfr hlo) w1 w2 w3 w4 (by decide) F.1 (argsL := [.ref y]) (rest := rest) hL rfl (lenOf (show parseMethodDescriptor "(Ljava/lang/Object;)Z" = some ⟨[.object "java/lang/Object"], some .boolean⟩ by decide +kernel) rfl) rfl hW hd hp hc hsl ?_
  intro T' v H' hq
  rcases hq with ⟨rfl, q⟩ | ⟨rfl, q⟩
  · exact k1 T' H' q
  · exact k0 T' H' q
end StrKit2
end Jvm.Pilot.@@N@@
namespace Jvm.Pilot.@@N@@
open Jvm Jvm.ClassFile Sem Op Lib Jvm.Free Jvm.Stand Jvm.LawKit Jvm.RoadKit Bundle Jvm.OwnKit Jvm.Pilot.@@N@@.Jvm.D
abbrev ELs : List (String × Nat) := [("bindery/server/stomp/AckModeNamedPinLaw", 32), ("bindery/server/stomp/AckModeNamedPinLaw", 42), ("bindery/server/stomp/AckModeNamedPinLaw", 47), ("java/lang/String", 7)]
def Env1 (Z : State) (a0 : Array Value) (n0 : Nat) (uu0 : Addr) (uu1 : Addr) (uu2 : Addr) (uu3 : Addr) (uu4 : Addr) (uu5 : Addr) (uu6 : Addr) (uu7 : Addr) (uu8 : Addr) (uu9 : Addr) (uu10 : ClassId) (uu11 : ClassId) (uu12 : ClassId) (uu13 : ClassId) (uu14 : Int32) (uu15 : Value) : Prop := (∀ d ∈ tables_1, d.before a0 Z = true) ∧ EW Z a0 ELs ∧ Sta Z Z.heap "bindery/server/stomp/StompConnection$AckMode" "$VALUES" "[Lbindery/server/stomp/StompConnection$AckMode;" (.ref uu0) ∧ Exa Z Z.heap uu0 "[Lbindery/server/stomp/StompConnection$AckMode;" ∧ Sta Z Z.heap "bindery/server/stomp/StompConnection$AckMode" "AUTO" "Lbindery/server/stomp/StompConnection$AckMode;" (.ref uu1) ∧ Exa Z Z.heap uu1 "bindery/server/stomp/StompConnection$AckMode" ∧ Sta Z Z.heap "bindery/server/stomp/StompConnection$AckMode" "CLIENT" "Lbindery/server/stomp/StompConnection$AckMode;" (.ref uu2) ∧ Exa Z Z.heap uu2 "bindery/server/stomp/StompConnection$AckMode" ∧ Sta Z Z.heap "bindery/server/stomp/StompConnection$AckMode" "CLIENT_INDIVIDUAL" "Lbindery/server/stomp/StompConnection$AckMode;" (.ref uu3) ∧ Exa Z Z.heap uu3 "bindery/server/stomp/StompConnection$AckMode" ∧ Fld Z Z.heap uu3 "bindery/server/stomp/StompConnection$AckMode" "header" "Ljava/lang/String;" (.ref uu4) ∧ Exa Z Z.heap uu4 "java/lang/String" ∧ Fld Z Z.heap uu2 "bindery/server/stomp/StompConnection$AckMode" "header" "Ljava/lang/String;" (.ref uu5) ∧ Exa Z Z.heap uu5 "java/lang/String" ∧ Fld Z Z.heap uu1 "bindery/server/stomp/StompConnection$AckMode" "header" "Ljava/lang/String;" (.ref uu6) ∧ Exa Z Z.heap uu6 "java/lang/String" ∧ Fld Z Z.heap uu4 "java/lang/String" "value" "[B" (.ref uu7) ∧ Fld Z Z.heap uu6 "java/lang/String" "value" "[B" (.ref uu8) ∧ Fld Z Z.heap uu5 "java/lang/String" "value" "[B" (.ref uu9) ∧ Arv Z Z.heap uu0 uu10 (.object "bindery/server/stomp/StompConnection$AckMode") (3 : Int32) [(.ref uu1), (.ref uu2), (.ref uu3)] .null ∧ Arv Z Z.heap uu7 uu11 .byte (17 : Int32) [(.int (99 : Int32)), (.int (108 : Int32)), (.int (105 : Int32)), (.int (101 : Int32)), (.int (110 : Int32)), (.int (116 : Int32)), (.int (45 : Int32)), (.int (105 : Int32)), (.int (110 : Int32)), (.int (100 : Int32)), (.int (105 : Int32)), (.int (118 : Int32)), (.int (105 : Int32)), (.int (100 : Int32)), (.int (117 : Int32)), (.int (97 : Int32)), (.int (108 : Int32))] (.int 0) ∧ Arv Z Z.heap uu8 uu12 .byte (4 : Int32) [(.int (97 : Int32)), (.int (117 : Int32)), (.int (116 : Int32)), (.int (111 : Int32))] (.int 0) ∧ Arv Z Z.heap uu9 uu13 .byte (6 : Int32) [(.int (99 : Int32)), (.int (108 : Int32)), (.int (105 : Int32)), (.int (101 : Int32)), (.int (110 : Int32)), (.int (116 : Int32))] (.int 0) ∧ Fld Z Z.heap uu6 "java/lang/String" "coder" "B" (.int (0 : Int32)) ∧ Fld Z Z.heap uu5 "java/lang/String" "coder" "B" (.int (0 : Int32)) ∧ Fld Z Z.heap uu4 "java/lang/String" "coder" "B" (.int (0 : Int32)) ∧ Sta Z Z.heap "java/lang/String" "COMPACT_STRINGS" "Z" (.int uu14) ∧ ¬ uu14 = 0 ∧ Sta Z Z.heap "jdk/internal/util/Preconditions" "SIOOBE_FORMATTER" "Ljava/util/function/BiFunction;" uu15 ∧ uu15.isRef = true ∧ Str Z Z.heap uu4 uu7 uu11 [(99 : Int32), (108 : Int32), (105 : Int32), (101 : Int32), (110 : Int32), (116 : Int32), (45 : Int32), (105 : Int32), (110 : Int32), (100 : Int32), (105 : Int32), (118 : Int32), (105 : Int32), (100 : Int32), (117 : Int32), (97 : Int32), (108 : Int32)] ∧ Str Z Z.heap uu5 uu9 uu13 [(99 : Int32), (108 : Int32), (105 : Int32), (101 : Int32), (110 : Int32), (116 : Int32)] ∧ Str Z Z.heap uu6 uu8 uu12 [(97 : Int32), (117 : Int32), (116 : Int32), (111 : Int32)] ∧ True
theorem EWl (V : Env1 Z a0 n0 uu0 uu1 uu2 uu3 uu4 uu5 uu6 uu7 uu8 uu9 uu10 uu11 uu12 uu13 uu14 uu15) : EW Z a0 ELs := V.2.1
theorem hv0 (V : Env1 Z a0 n0 uu0 uu1 uu2 uu3 uu4 uu5 uu6 uu7 uu8 uu9 uu10 uu11 uu12 uu13 uu14 uu15) : Sta Z Z.heap "bindery/server/stomp/StompConnection$AckMode" "$VALUES" "[Lbindery/server/stomp/StompConnection$AckMode;" (.ref uu0) := V.2.2.1
theorem hv1 (V : Env1 Z a0 n0 uu0 uu1 uu2 uu3 uu4 uu5 uu6 uu7 uu8 uu9 uu10 uu11 uu12 uu13 uu14 uu15) : Exa Z Z.heap uu0 "[Lbindery/server/stomp/StompConnection$AckMode;" := V.2.2.2.1
theorem hv2 (V : Env1 Z a0 n0 uu0 uu1 uu2 uu3 uu4 uu5 uu6 uu7 uu8 uu9 uu10 uu11 uu12 uu13 uu14 uu15) : Sta Z Z.heap "bindery/server/stomp/StompConnection$AckMode" "AUTO" "Lbindery/server/stomp/StompConnection$AckMode;" (.ref uu1) := V.2.2.2.2.1
theorem hv3 (V : Env1 Z a0 n0 uu0 uu1 uu2 uu3 uu4 uu5 uu6 uu7 uu8 uu9 uu10 uu11 uu12 uu13 uu14 uu15) : Exa Z Z.heap uu1 "bindery/server/stomp/StompConnection$AckMode" := V.2.2.2.2.2.1
theorem hv4 (V : Env1 Z a0 n0 uu0 uu1 uu2 uu3 uu4 uu5 uu6 uu7 uu8 uu9 uu10 uu11 uu12 uu13 uu14 uu15) : Sta Z Z.heap "bindery/server/stomp/StompConnection$AckMode" "CLIENT" "Lbindery/server/stomp/StompConnection$AckMode;" (.ref uu2) := V.2.2.2.2.2.2.1
theorem hv5 (V : Env1 Z a0 n0 uu0 uu1 uu2 uu3 uu4 uu5 uu6 uu7 uu8 uu9 uu10 uu11 uu12 uu13 uu14 uu15) : Exa Z Z.heap uu2 "bindery/server/stomp/StompConnection$AckMode" := V.2.2.2.2.2.2.2.1
theorem hv6 (V : Env1 Z a0 n0 uu0 uu1 uu2 uu3 uu4 uu5 uu6 uu7 uu8 uu9 uu10 uu11 uu12 uu13 uu14 uu15) : Sta Z Z.heap "bindery/server/stomp/StompConnection$AckMode" "CLIENT_INDIVIDUAL" "Lbindery/server/stomp/StompConnection$AckMode;" (.ref uu3) := V.2.2.2.2.2.2.2.2.1
theorem hv7 (V : Env1 Z a0 n0 uu0 uu1 uu2 uu3 uu4 uu5 uu6 uu7 uu8 uu9 uu10 uu11 uu12 uu13 uu14 uu15) : Exa Z Z.heap uu3 "bindery/server/stomp/StompConnection$AckMode" := V.2.2.2.2.2.2.2.2.2.1
theorem hv8 (V : Env1 Z a0 n0 uu0 uu1 uu2 uu3 uu4 uu5 uu6 uu7 uu8 uu9 uu10 uu11 uu12 uu13 uu14 uu15) : Fld Z Z.heap uu3 "bindery/server/stomp/StompConnection$AckMode" "header" "Ljava/lang/String;" (.ref uu4) := V.2.2.2.2.2.2.2.2.2.2.1
theorem hv9 (V : Env1 Z a0 n0 uu0 uu1 uu2 uu3 uu4 uu5 uu6 uu7 uu8 uu9 uu10 uu11 uu12 uu13 uu14 uu15) : Exa Z Z.heap uu4 "java/lang/String" := V.2.2.2.2.2.2.2.2.2.2.2.1
theorem hv10 (V : Env1 Z a0 n0 uu0 uu1 uu2 uu3 uu4 uu5 uu6 uu7 uu8 uu9 uu10 uu11 uu12 uu13 uu14 uu15) : Fld Z Z.heap uu2 "bindery/server/stomp/StompConnection$AckMode" "header" "Ljava/lang/String;" (.ref uu5) := V.2.2.2.2.2.2.2.2.2.2.2.2.1
theorem hv11 (V : Env1 Z a0 n0 uu0 uu1 uu2 uu3 uu4 uu5 uu6 uu7 uu8 uu9 uu10 uu11 uu12 uu13 uu14 uu15) : Exa Z Z.heap uu5 "java/lang/String" := V.2.2.2.2.2.2.2.2.2.2.2.2.2.1
theorem hv12 (V : Env1 Z a0 n0 uu0 uu1 uu2 uu3 uu4 uu5 uu6 uu7 uu8 uu9 uu10 uu11 uu12 uu13 uu14 uu15) : Fld Z Z.heap uu1 "bindery/server/stomp/StompConnection$AckMode" "header" "Ljava/lang/String;" (.ref uu6) := V.2.2.2.2.2.2.2.2.2.2.2.2.2.2.1
theorem hv13 (V : Env1 Z a0 n0 uu0 uu1 uu2 uu3 uu4 uu5 uu6 uu7 uu8 uu9 uu10 uu11 uu12 uu13 uu14 uu15) : Exa Z Z.heap uu6 "java/lang/String" := V.2.2.2.2.2.2.2.2.2.2.2.2.2.2.2.1
theorem hv14 (V : Env1 Z a0 n0 uu0 uu1 uu2 uu3 uu4 uu5 uu6 uu7 uu8 uu9 uu10 uu11 uu12 uu13 uu14 uu15) : Fld Z Z.heap uu4 "java/lang/String" "value" "[B" (.ref uu7) := V.2.2.2.2.2.2.2.2.2.2.2.2.2.2.2.2.1
theorem hv15 (V : Env1 Z a0 n0 uu0 uu1 uu2 uu3 uu4 uu5 uu6 uu7 uu8 uu9 uu10 uu11 uu12 uu13 uu14 uu15) : Fld Z Z.heap uu6 "java/lang/String" "value" "[B" (.ref uu8) := V.2.2.2.2.2.2.2.2.2.2.2.2.2.2.2.2.2.1
theorem hv16 (V : Env1 Z a0 n0 uu0 uu1 uu2 uu3 uu4 uu5 uu6 uu7 uu8 uu9 uu10 uu11 uu12 uu13 uu14 uu15) : Fld Z Z.heap uu5 "java/lang/String" "value" "[B" (.ref uu9) := V.2.2.2.2.2.2.2.2.2.2.2.2.2.2.2.2.2.2.1
theorem hv17 (V : Env1 Z a0 n0 uu0 uu1 uu2 uu3 uu4 uu5 uu6 uu7 uu8 uu9 uu10 uu11 uu12 uu13 uu14 uu15) : Arv Z Z.heap uu0 uu10 (.object "bindery/server/stomp/StompConnection$AckMode") (3 : Int32) [(.ref uu1), (.ref uu2), (.ref uu3)] .null := V.2.2.2.2.2.2.2.2.2.2.2.2.2.2.2.2.2.2.2.1
theorem hv18 (V : Env1 Z a0 n0 uu0 uu1 uu2 uu3 uu4 uu5 uu6 uu7 uu8 uu9 uu10 uu11 uu12 uu13 uu14 uu15) : Arv Z Z.heap uu7 uu11 .byte (17 : Int32) [(.int (99 : Int32)), (.int (108 : Int32)), (.int (105 : Int32)), (.int (101 : Int32)), (.int (110 : Int32)), (.int (116 : Int32)), (.int (45 : Int32)), (.int (105 : Int32)), (.int (110 : Int32)), (.int (100 : Int32)), (.int (105 : Int32)), (.int (118 : Int32)), (.int (105 : Int32)), (.int (100 : Int32)), (.int (117 : Int32)), (.int (97 : Int32)), (.int (108 : Int32))] (.int 0) := V.2.2.2.2.2.2.2.2.2.2.2.2.2.2.2.2.2.2.2.2.1
theorem hv19 (V : Env1 Z a0 n0 uu0 uu1 uu2 uu3 uu4 uu5 uu6 uu7 uu8 uu9 uu10 uu11 uu12 uu13 uu14 uu15) : Arv Z Z.heap uu8 uu12 .byte (4 : Int32) [(.int (97 : Int32)), (.int (117 : Int32)), (.int (116 : Int32)), (.int (111 : Int32))] (.int 0) := V.2.2.2.2.2.2.2.2.2.2.2.2.2.2.2.2.2.2.2.2.2.1
theorem hv20 (V : Env1 Z a0 n0 uu0 uu1 uu2 uu3 uu4 uu5 uu6 uu7 uu8 uu9 uu10 uu11 uu12 uu13 uu14 uu15) : Arv Z Z.heap uu9 uu13 .byte (6 : Int32) [(.int (99 : Int32)), (.int (108 : Int32)), (.int (105 : Int32)), (.int (101 : Int32)), (.int (110 : Int32)), (.int (116 : Int32))] (.int 0) := V.2.2.2.2.2.2.2.2.2.2.2.2.2.2.2.2.2.2.2.2.2.2.1
theorem hv21 (V : Env1 Z a0 n0 uu0 uu1 uu2 uu3 uu4 uu5 uu6 uu7 uu8 uu9 uu10 uu11 uu12 uu13 uu14 uu15) : Fld Z Z.heap uu6 "java/lang/String" "coder" "B" (.int (0 : Int32)) := V.2.2.2.2.2.2.2.2.2.2.2.2.2.2.2.2.2.2.2.2.2.2.2.1
theorem hv22 (V : Env1 Z a0 n0 uu0 uu1 uu2 uu3 uu4 uu5 uu6 uu7 uu8 uu9 uu10 uu11 uu12 uu13 uu14 uu15) : Fld Z Z.heap uu5 "java/lang/String" "coder" "B" (.int (0 : Int32)) := V.2.2.2.2.2.2.2.2.2.2.2.2.2.2.2.2.2.2.2.2.2.2.2.2.1
theorem hv23 (V : Env1 Z a0 n0 uu0 uu1 uu2 uu3 uu4 uu5 uu6 uu7 uu8 uu9 uu10 uu11 uu12 uu13 uu14 uu15) : Fld Z Z.heap uu4 "java/lang/String" "coder" "B" (.int (0 : Int32)) := V.2.2.2.2.2.2.2.2.2.2.2.2.2.2.2.2.2.2.2.2.2.2.2.2.2.1
theorem hv24 (V : Env1 Z a0 n0 uu0 uu1 uu2 uu3 uu4 uu5 uu6 uu7 uu8 uu9 uu10 uu11 uu12 uu13 uu14 uu15) : Sta Z Z.heap "java/lang/String" "COMPACT_STRINGS" "Z" (.int uu14) := V.2.2.2.2.2.2.2.2.2.2.2.2.2.2.2.2.2.2.2.2.2.2.2.2.2.2.1
theorem hv25 (V : Env1 Z a0 n0 uu0 uu1 uu2 uu3 uu4 uu5 uu6 uu7 uu8 uu9 uu10 uu11 uu12 uu13 uu14 uu15) : ¬ uu14 = 0 := V.2.2.2.2.2.2.2.2.2.2.2.2.2.2.2.2.2.2.2.2.2.2.2.2.2.2.2.1
theorem hv26 (V : Env1 Z a0 n0 uu0 uu1 uu2 uu3 uu4 uu5 uu6 uu7 uu8 uu9 uu10 uu11 uu12 uu13 uu14 uu15) : Sta Z Z.heap "jdk/internal/util/Preconditions" "SIOOBE_FORMATTER" "Ljava/util/function/BiFunction;" uu15 := V.2.2.2.2.2.2.2.2.2.2.2.2.2.2.2.2.2.2.2.2.2.2.2.2.2.2.2.2.1
theorem hv27 (V : Env1 Z a0 n0 uu0 uu1 uu2 uu3 uu4 uu5 uu6 uu7 uu8 uu9 uu10 uu11 uu12 uu13 uu14 uu15) : uu15.isRef = true := V.2.2.2.2.2.2.2.2.2.2.2.2.2.2.2.2.2.2.2.2.2.2.2.2.2.2.2.2.2.1
theorem hv28 (V : Env1 Z a0 n0 uu0 uu1 uu2 uu3 uu4 uu5 uu6 uu7 uu8 uu9 uu10 uu11 uu12 uu13 uu14 uu15) : Str Z Z.heap uu4 uu7 uu11 [(99 : Int32), (108 : Int32), (105 : Int32), (101 : Int32), (110 : Int32), (116 : Int32), (45 : Int32), (105 : Int32), (110 : Int32), (100 : Int32), (105 : Int32), (118 : Int32), (105 : Int32), (100 : Int32), (117 : Int32), (97 : Int32), (108 : Int32)] := V.2.2.2.2.2.2.2.2.2.2.2.2.2.2.2.2.2.2.2.2.2.2.2.2.2.2.2.2.2.2.1
theorem hv29 (V : Env1 Z a0 n0 uu0 uu1 uu2 uu3 uu4 uu5 uu6 uu7 uu8 uu9 uu10 uu11 uu12 uu13 uu14 uu15) : Str Z Z.heap uu5 uu9 uu13 [(99 : Int32), (108 : Int32), (105 : Int32), (101 : Int32), (110 : Int32), (116 : Int32)] := V.2.2.2.2.2.2.2.2.2.2.2.2.2.2.2.2.2.2.2.2.2.2.2.2.2.2.2.2.2.2.2.1
theorem hv30 (V : Env1 Z a0 n0 uu0 uu1 uu2 uu3 uu4 uu5 uu6 uu7 uu8 uu9 uu10 uu11 uu12 uu13 uu14 uu15) : Str Z Z.heap uu6 uu8 uu12 [(97 : Int32), (117 : Int32), (116 : Int32), (111 : Int32)] := V.2.2.2.2.2.2.2.2.2.2.2.2.2.2.2.2.2.2.2.2.2.2.2.2.2.2.2.2.2.2.2.2.1
theorem wd0 (V : Env1 Z a0 n0 uu0 uu1 uu2 uu3 uu4 uu5 uu6 uu7 uu8 uu9 uu10 uu11 uu12 uu13 uu14 uu15) : (Jvm.Cond.constant "bindery/server/stomp/AckModeNamedPinLaw" (7 : Nat) (2147483647 : Int32)).before a0 Z = true := V.1 _ (List.mem_of_getElem? (i := 0) rfl)
theorem wd1 (V : Env1 Z a0 n0 uu0 uu1 uu2 uu3 uu4 uu5 uu6 uu7 uu8 uu9 uu10 uu11 uu12 uu13 uu14 uu15) : (Jvm.Cond.methodLink "bindery/server/stomp/AckModeNamedPinLaw" (14 : Nat) ({ cls := "bindery/server/stomp/AckModeNamedPinLaw", name := "base", desc := "(IIC)[C" } : Jvm.MethodName)).before a0 Z = true := V.1 _ (List.mem_of_getElem? (i := 1) rfl)
theorem wd2 (V : Env1 Z a0 n0 uu0 uu1 uu2 uu3 uu4 uu5 uu6 uu7 uu8 uu9 uu10 uu11 uu12 uu13 uu14 uu15) : (Jvm.Cond.static ({ cls := "bindery/server/stomp/AckModeNamedPinLaw", name := "base", desc := "(IIC)[C" } : Jvm.MethodName)).before a0 Z = true := V.1 _ (List.mem_of_getElem? (i := 2) rfl)
theorem wd3 (V : Env1 Z a0 n0 uu0 uu1 uu2 uu3 uu4 uu5 uu6 uu7 uu8 uu9 uu10 uu11 uu12 uu13 uu14 uu15) : (Jvm.Cond.initialized "bindery/server/stomp/AckModeNamedPinLaw").before a0 Z = true := V.1 _ (List.mem_of_getElem? (i := 3) rfl)
theorem wd4 (V : Env1 Z a0 n0 uu0 uu1 uu2 uu3 uu4 uu5 uu6 uu7 uu8 uu9 uu10 uu11 uu12 uu13 uu14 uu15) : (Jvm.Cond.code ({ cls := "bindery/server/stomp/AckModeNamedPinLaw", name := "base", desc := "(IIC)[C" } : Jvm.MethodName) method_5_code (3 : Nat) (Option.some (Jvm.ClassFile.FieldType.array Jvm.ClassFile.FieldType.char))).before a0 Z = true := V.1 _ (List.mem_of_getElem? (i := 4) rfl)
theorem wd5 (V : Env1 Z a0 n0 uu0 uu1 uu2 uu3 uu4 uu5 uu6 uu7 uu8 uu9 uu10 uu11 uu12 uu13 uu14 uu15) : (Jvm.Cond.arrayClass Jvm.ClassFile.FieldType.char).before a0 Z = true := V.1 _ (List.mem_of_getElem? (i := 5) rfl)
theorem wd6 (V : Env1 Z a0 n0 uu0 uu1 uu2 uu3 uu4 uu5 uu6 uu7 uu8 uu9 uu10 uu11 uu12 uu13 uu14 uu15) : (Jvm.Cond.classLink "bindery/server/stomp/AckModeNamedPinLaw" (18 : Nat) "java/lang/String").before a0 Z = true := V.1 _ (List.mem_of_getElem? (i := 6) rfl)
theorem wd7 (V : Env1 Z a0 n0 uu0 uu1 uu2 uu3 uu4 uu5 uu6 uu7 uu8 uu9 uu10 uu11 uu12 uu13 uu14 uu15) : (Jvm.Cond.instantiable "java/lang/String" (4 : Nat)).before a0 Z = true := V.1 _ (List.mem_of_getElem? (i := 7) rfl)
theorem wd8 (V : Env1 Z a0 n0 uu0 uu1 uu2 uu3 uu4 uu5 uu6 uu7 uu8 uu9 uu10 uu11 uu12 uu13 uu14 uu15) : (Jvm.Cond.initialized "java/lang/String").before a0 Z = true := V.1 _ (List.mem_of_getElem? (i := 8) rfl)
theorem wd9 (V : Env1 Z a0 n0 uu0 uu1 uu2 uu3 uu4 uu5 uu6 uu7 uu8 uu9 uu10 uu11 uu12 uu13 uu14 uu15) : (Jvm.Cond.methodLink "bindery/server/stomp/AckModeNamedPinLaw" (20 : Nat) ({ cls := "java/lang/String", name := "<init>", desc := "([C)V" } : Jvm.MethodName)).before a0 Z = true := V.1 _ (List.mem_of_getElem? (i := 9) rfl)
theorem wd10 (V : Env1 Z a0 n0 uu0 uu1 uu2 uu3 uu4 uu5 uu6 uu7 uu8 uu9 uu10 uu11 uu12 uu13 uu14 uu15) : (Jvm.Cond.instanceMethod ({ cls := "java/lang/String", name := "<init>", desc := "([C)V" } : Jvm.MethodName)).before a0 Z = true := V.1 _ (List.mem_of_getElem? (i := 10) rfl)
theorem wd11 (V : Env1 Z a0 n0 uu0 uu1 uu2 uu3 uu4 uu5 uu6 uu7 uu8 uu9 uu10 uu11 uu12 uu13 uu14 uu15) : (Jvm.Cond.code ({ cls := "java/lang/String", name := "<init>", desc := "([C)V" } : Jvm.MethodName) jdk_42_method_3_code (2 : Nat) (Option.none : Option Jvm.ClassFile.FieldType)).before a0 Z = true := V.1 _ (List.mem_of_getElem? (i := 11) rfl)
theorem wd12 (V : Env1 Z a0 n0 uu0 uu1 uu2 uu3 uu4 uu5 uu6 uu7 uu8 uu9 uu10 uu11 uu12 uu13 uu14 uu15) : (Jvm.Cond.methodLink "java/lang/String" (27 : Nat) ({ cls := "java/lang/String", name := "<init>", desc := "([CIILjava/lang/Void;)V" } : Jvm.MethodName)).before a0 Z = true := V.1 _ (List.mem_of_getElem? (i := 12) rfl)
theorem wd13 (V : Env1 Z a0 n0 uu0 uu1 uu2 uu3 uu4 uu5 uu6 uu7 uu8 uu9 uu10 uu11 uu12 uu13 uu14 uu15) : (Jvm.Cond.instanceMethod ({ cls := "java/lang/String", name := "<init>", desc := "([CIILjava/lang/Void;)V" } : Jvm.MethodName)).before a0 Z = true := V.1 _ (List.mem_of_getElem? (i := 13) rfl)
theorem wd15 (V : Env1 Z a0 n0 uu0 uu1 uu2 uu3 uu4 uu5 uu6 uu7 uu8 uu9 uu10 uu11 uu12 uu13 uu14 uu15) : (Jvm.Cond.code ({ cls := "java/lang/String", name := "<init>", desc := "([CIILjava/lang/Void;)V" } : Jvm.MethodName) jdk_42_method_149_code (6 : Nat) (Option.none : Option Jvm.ClassFile.FieldType)).before a0 Z = true := V.1 _ (List.mem_of_getElem? (i := 15) rfl)
theorem wd16 (V : Env1 Z a0 n0 uu0 uu1 uu2 uu3 uu4 uu5 uu6 uu7 uu8 uu9 uu10 uu11 uu12 uu13 uu14 uu15) : (Jvm.Cond.methodLink "java/lang/String" (1 : Nat) ({ cls := "java/lang/Object", name := "<init>", desc := "()V" } : Jvm.MethodName)).before a0 Z = true := V.1 _ (List.mem_of_getElem? (i := 16) rfl)
theorem wd17 (V : Env1 Z a0 n0 uu0 uu1 uu2 uu3 uu4 uu5 uu6 uu7 uu8 uu9 uu10 uu11 uu12 uu13 uu14 uu15) : (Jvm.Cond.instanceMethod ({ cls := "java/lang/Object", name := "<init>", desc := "()V" } : Jvm.MethodName)).before a0 Z = true := V.1 _ (List.mem_of_getElem? (i := 17) rfl)
theorem wd18 (V : Env1 Z a0 n0 uu0 uu1 uu2 uu3 uu4 uu5 uu6 uu7 uu8 uu9 uu10 uu11 uu12 uu13 uu14 uu15) : (Jvm.Cond.code ({ cls := "java/lang/Object", name := "<init>", desc := "()V" } : Jvm.MethodName) object_method_1_code (1 : Nat) (Option.none : Option Jvm.ClassFile.FieldType)).before a0 Z = true := V.1 _ (List.mem_of_getElem? (i := 18) rfl)
theorem wd31 (V : Env1 Z a0 n0 uu0 uu1 uu2 uu3 uu4 uu5 uu6 uu7 uu8 uu9 uu10 uu11 uu12 uu13 uu14 uu15) : (Jvm.Cond.fieldLink "java/lang/String" (15 : Nat) "java/lang/String" "coder" "B").before a0 Z = true := V.1 _ (List.mem_of_getElem? (i := 31) rfl)
theorem wd32 (V : Env1 Z a0 n0 uu0 uu1 uu2 uu3 uu4 uu5 uu6 uu7 uu8 uu9 uu10 uu11 uu12 uu13 uu14 uu15) : (Jvm.Cond.laysFinal "java/lang/String" "java/lang/String" "coder" "B").before a0 Z = true := V.1 _ (List.mem_of_getElem? (i := 32) rfl)
theorem wd33 (V : Env1 Z a0 n0 uu0 uu1 uu2 uu3 uu4 uu5 uu6 uu7 uu8 uu9 uu10 uu11 uu12 uu13 uu14 uu15) : (Jvm.Cond.fieldLink "java/lang/String" (9 : Nat) "java/lang/String" "value" "[B").before a0 Z = true := V.1 _ (List.mem_of_getElem? (i := 33) rfl)
theorem wd34 (V : Env1 Z a0 n0 uu0 uu1 uu2 uu3 uu4 uu5 uu6 uu7 uu8 uu9 uu10 uu11 uu12 uu13 uu14 uu15) : (Jvm.Cond.laysFinal "java/lang/String" "java/lang/String" "value" "[B").before a0 Z = true := V.1 _ (List.mem_of_getElem? (i := 34) rfl)
theorem wd35 (V : Env1 Z a0 n0 uu0 uu1 uu2 uu3 uu4 uu5 uu6 uu7 uu8 uu9 uu10 uu11 uu12 uu13 uu14 uu15) : (Jvm.Cond.methodLink "bindery/server/stomp/AckModeNamedPinLaw" (23 : Nat) ({ cls := "bindery/server/stomp/StompConnection$AckMode", name := "named", desc := "(Ljava/lang/String;)Lbindery/server/stomp/StompConnection$AckMode;" } : Jvm.MethodName)).before a0 Z = true := V.1 _ (List.mem_of_getElem? (i := 35) rfl)
theorem wd36 (V : Env1 Z a0 n0 uu0 uu1 uu2 uu3 uu4 uu5 uu6 uu7 uu8 uu9 uu10 uu11 uu12 uu13 uu14 uu15) : (Jvm.Cond.static ({ cls := "bindery/server/stomp/StompConnection$AckMode", name := "named", desc := "(Ljava/lang/String;)Lbindery/server/stomp/StompConnection$AckMode;" } : Jvm.MethodName)).before a0 Z = true := V.1 _ (List.mem_of_getElem? (i := 36) rfl)
theorem wd37 (V : Env1 Z a0 n0 uu0 uu1 uu2 uu3 uu4 uu5 uu6 uu7 uu8 uu9 uu10 uu11 uu12 uu13 uu14 uu15) : (Jvm.Cond.initialized "bindery/server/stomp/StompConnection$AckMode").before a0 Z = true := V.1 _ (List.mem_of_getElem? (i := 37) rfl)
theorem wd38 (V : Env1 Z a0 n0 uu0 uu1 uu2 uu3 uu4 uu5 uu6 uu7 uu8 uu9 uu10 uu11 uu12 uu13 uu14 uu15) : (Jvm.Cond.code ({ cls := "bindery/server/stomp/StompConnection$AckMode", name := "named", desc := "(Ljava/lang/String;)Lbindery/server/stomp/StompConnection$AckMode;" } : Jvm.MethodName) prog_93_method_4_code (5 : Nat) (Option.some (Jvm.ClassFile.FieldType.object "bindery/server/stomp/StompConnection$AckMode"))).before a0 Z = true := V.1 _ (List.mem_of_getElem? (i := 38) rfl)
theorem wd39 (V : Env1 Z a0 n0 uu0 uu1 uu2 uu3 uu4 uu5 uu6 uu7 uu8 uu9 uu10 uu11 uu12 uu13 uu14 uu15) : (Jvm.Cond.methodLink "bindery/server/stomp/StompConnection$AckMode" (36 : Nat) ({ cls := "bindery/server/stomp/StompConnection$AckMode", name := "values", desc := "()[Lbindery/server/stomp/StompConnection$AckMode;" } : Jvm.MethodName)).before a0 Z = true := V.1 _ (List.mem_of_getElem? (i := 39) rfl)
theorem wd40 (V : Env1 Z a0 n0 uu0 uu1 uu2 uu3 uu4 uu5 uu6 uu7 uu8 uu9 uu10 uu11 uu12 uu13 uu14 uu15) : (Jvm.Cond.static ({ cls := "bindery/server/stomp/StompConnection$AckMode", name := "values", desc := "()[Lbindery/server/stomp/StompConnection$AckMode;" } : Jvm.MethodName)).before a0 Z = true := V.1 _ (List.mem_of_getElem? (i := 40) rfl)
theorem wd41 (V : Env1 Z a0 n0 uu0 uu1 uu2 uu3 uu4 uu5 uu6 uu7 uu8 uu9 uu10 uu11 uu12 uu13 uu14 uu15) : (Jvm.Cond.code ({ cls := "bindery/server/stomp/StompConnection$AckMode", name := "values", desc := "()[Lbindery/server/stomp/StompConnection$AckMode;" } : Jvm.MethodName) prog_93_method_1_code (0 : Nat) (Option.some (Jvm.ClassFile.FieldType.array (Jvm.ClassFile.FieldType.object "bindery/server/stomp/StompConnection$AckMode")))).before a0 Z = true := V.1 _ (List.mem_of_getElem? (i := 41) rfl)
theorem wd42 (V : Env1 Z a0 n0 uu0 uu1 uu2 uu3 uu4 uu5 uu6 uu7 uu8 uu9 uu10 uu11 uu12 uu13 uu14 uu15) : (Jvm.Cond.fieldLink "bindery/server/stomp/StompConnection$AckMode" (13 : Nat) "bindery/server/stomp/StompConnection$AckMode" "$VALUES" "[Lbindery/server/stomp/StompConnection$AckMode;").before a0 Z = true := V.1 _ (List.mem_of_getElem? (i := 42) rfl)
theorem wd44 (V : Env1 Z a0 n0 uu0 uu1 uu2 uu3 uu4 uu5 uu6 uu7 uu8 uu9 uu10 uu11 uu12 uu13 uu14 uu15) : (Jvm.Cond.methodLink "bindery/server/stomp/StompConnection$AckMode" (17 : Nat) ({ cls := "[Lbindery/server/stomp/StompConnection$AckMode;", name := "clone", desc := "()Ljava/lang/Object;" } : Jvm.MethodName)).before a0 Z = true := V.1 _ (List.mem_of_getElem? (i := 44) rfl)
theorem wd45 (V : Env1 Z a0 n0 uu0 uu1 uu2 uu3 uu4 uu5 uu6 uu7 uu8 uu9 uu10 uu11 uu12 uu13 uu14 uu15) : (Jvm.Cond.sameMethod "[Lbindery/server/stomp/StompConnection$AckMode;" "java/lang/Object" "clone" "()Ljava/lang/Object;").before a0 Z = true := V.1 _ (List.mem_of_getElem? (i := 45) rfl)
theorem wd47 (V : Env1 Z a0 n0 uu0 uu1 uu2 uu3 uu4 uu5 uu6 uu7 uu8 uu9 uu10 uu11 uu12 uu13 uu14 uu15) : (Jvm.Cond.instanceMethod ({ cls := "java/lang/Object", name := "clone", desc := "()Ljava/lang/Object;" } : Jvm.MethodName)).before a0 Z = true := V.1 _ (List.mem_of_getElem? (i := 47) rfl)
theorem wd48 (V : Env1 Z a0 n0 uu0 uu1 uu2 uu3 uu4 uu5 uu6 uu7 uu8 uu9 uu10 uu11 uu12 uu13 uu14 uu15) : (Jvm.Cond.selects "[Lbindery/server/stomp/StompConnection$AckMode;" ({ cls := "[Lbindery/server/stomp/StompConnection$AckMode;", name := "clone", desc := "()Ljava/lang/Object;" } : Jvm.MethodName) ({ cls := "java/lang/Object", name := "clone", desc := "()Ljava/lang/Object;" } : Jvm.MethodName)).before a0 Z = true := V.1 _ (List.mem_of_getElem? (i := 48) rfl)
theorem wd49 (V : Env1 Z a0 n0 uu0 uu1 uu2 uu3 uu4 uu5 uu6 uu7 uu8 uu9 uu10 uu11 uu12 uu13 uu14 uu15) : (Jvm.Cond.native ({ cls := "java/lang/Object", name := "clone", desc := "()Ljava/lang/Object;" } : Jvm.MethodName)).before a0 Z = true := V.1 _ (List.mem_of_getElem? (i := 49) rfl)
theorem wd50 (V : Env1 Z a0 n0 uu0 uu1 uu2 uu3 uu4 uu5 uu6 uu7 uu8 uu9 uu10 uu11 uu12 uu13 uu14 uu15) : (Jvm.Cond.castable "[Lbindery/server/stomp/StompConnection$AckMode;" "java/lang/Cloneable").before a0 Z = true := V.1 _ (List.mem_of_getElem? (i := 50) rfl)
theorem wd55 (V : Env1 Z a0 n0 uu0 uu1 uu2 uu3 uu4 uu5 uu6 uu7 uu8 uu9 uu10 uu11 uu12 uu13 uu14 uu15) : (Jvm.Cond.classLink "bindery/server/stomp/StompConnection$AckMode" (18 : Nat) "[Lbindery/server/stomp/StompConnection$AckMode;").before a0 Z = true := V.1 _ (List.mem_of_getElem? (i := 55) rfl)
theorem wd57 (V : Env1 Z a0 n0 uu0 uu1 uu2 uu3 uu4 uu5 uu6 uu7 uu8 uu9 uu10 uu11 uu12 uu13 uu14 uu15) : (Jvm.Cond.fieldLink "bindery/server/stomp/StompConnection$AckMode" (32 : Nat) "bindery/server/stomp/StompConnection$AckMode" "header" "Ljava/lang/String;").before a0 Z = true := V.1 _ (List.mem_of_getElem? (i := 57) rfl)
theorem wd59 (V : Env1 Z a0 n0 uu0 uu1 uu2 uu3 uu4 uu5 uu6 uu7 uu8 uu9 uu10 uu11 uu12 uu13 uu14 uu15) : (Jvm.Cond.methodLink "bindery/server/stomp/StompConnection$AckMode" (40 : Nat) ({ cls := "java/lang/String", name := "equals", desc := "(Ljava/lang/Object;)Z" } : Jvm.MethodName)).before a0 Z = true := V.1 _ (List.mem_of_getElem? (i := 59) rfl)
theorem wd60 (V : Env1 Z a0 n0 uu0 uu1 uu2 uu3 uu4 uu5 uu6 uu7 uu8 uu9 uu10 uu11 uu12 uu13 uu14 uu15) : (Jvm.Cond.declares ({ cls := "java/lang/String", name := "equals", desc := "(Ljava/lang/Object;)Z" } : Jvm.MethodName)).before a0 Z = true := V.1 _ (List.mem_of_getElem? (i := 60) rfl)
theorem wd61 (V : Env1 Z a0 n0 uu0 uu1 uu2 uu3 uu4 uu5 uu6 uu7 uu8 uu9 uu10 uu11 uu12 uu13 uu14 uu15) : (Jvm.Cond.instanceMethod ({ cls := "java/lang/String", name := "equals", desc := "(Ljava/lang/Object;)Z" } : Jvm.MethodName)).before a0 Z = true := V.1 _ (List.mem_of_getElem? (i := 61) rfl)
theorem wd62 (V : Env1 Z a0 n0 uu0 uu1 uu2 uu3 uu4 uu5 uu6 uu7 uu8 uu9 uu10 uu11 uu12 uu13 uu14 uu15) : (Jvm.Cond.selects "java/lang/String" ({ cls := "java/lang/String", name := "equals", desc := "(Ljava/lang/Object;)Z" } : Jvm.MethodName) ({ cls := "java/lang/String", name := "equals", desc := "(Ljava/lang/Object;)Z" } : Jvm.MethodName)).before a0 Z = true := V.1 _ (List.mem_of_getElem? (i := 62) rfl)
theorem wd63 (V : Env1 Z a0 n0 uu0 uu1 uu2 uu3 uu4 uu5 uu6 uu7 uu8 uu9 uu10 uu11 uu12 uu13 uu14 uu15) : (Jvm.Cond.code ({ cls := "java/lang/String", name := "equals", desc := "(Ljava/lang/Object;)Z" } : Jvm.MethodName) jdk_42_method_66_code (3 : Nat) (Option.some Jvm.ClassFile.FieldType.boolean)).before a0 Z = true := V.1 _ (List.mem_of_getElem? (i := 63) rfl)
theorem wd69 (V : Env1 Z a0 n0 uu0 uu1 uu2 uu3 uu4 uu5 uu6 uu7 uu8 uu9 uu10 uu11 uu12 uu13 uu14 uu15) : (Jvm.Cond.methodLink "bindery/server/stomp/AckModeNamedPinLaw" (29 : Nat) ({ cls := "bindery/server/stomp/AckModeNamedPinLaw", name := "expected", desc := "(Ljava/lang/String;)Lbindery/server/stomp/StompConnection$AckMode;" } : Jvm.MethodName)).before a0 Z = true := V.1 _ (List.mem_of_getElem? (i := 69) rfl)
theorem wd70 (V : Env1 Z a0 n0 uu0 uu1 uu2 uu3 uu4 uu5 uu6 uu7 uu8 uu9 uu10 uu11 uu12 uu13 uu14 uu15) : (Jvm.Cond.static ({ cls := "bindery/server/stomp/AckModeNamedPinLaw", name := "expected", desc := "(Ljava/lang/String;)Lbindery/server/stomp/StompConnection$AckMode;" } : Jvm.MethodName)).before a0 Z = true := V.1 _ (List.mem_of_getElem? (i := 70) rfl)
theorem wd71 (V : Env1 Z a0 n0 uu0 uu1 uu2 uu3 uu4 uu5 uu6 uu7 uu8 uu9 uu10 uu11 uu12 uu13 uu14 uu15) : (Jvm.Cond.code ({ cls := "bindery/server/stomp/AckModeNamedPinLaw", name := "expected", desc := "(Ljava/lang/String;)Lbindery/server/stomp/StompConnection$AckMode;" } : Jvm.MethodName) method_3_code (1 : Nat) (Option.some (Jvm.ClassFile.FieldType.object "bindery/server/stomp/StompConnection$AckMode"))).before a0 Z = true := V.1 _ (List.mem_of_getElem? (i := 71) rfl)
theorem wd72 (V : Env1 Z a0 n0 uu0 uu1 uu2 uu3 uu4 uu5 uu6 uu7 uu8 uu9 uu10 uu11 uu12 uu13 uu14 uu15) : (Jvm.Cond.stringLink "bindery/server/stomp/AckModeNamedPinLaw" (32 : Nat) "auto").before a0 Z = true := V.1 _ (List.mem_of_getElem? (i := 72) rfl)
theorem wd75 (V : Env1 Z a0 n0 uu0 uu1 uu2 uu3 uu4 uu5 uu6 uu7 uu8 uu9 uu10 uu11 uu12 uu13 uu14 uu15) : (Jvm.Cond.methodLink "bindery/server/stomp/AckModeNamedPinLaw" (34 : Nat) ({ cls := "java/lang/String", name := "equals", desc := "(Ljava/lang/Object;)Z" } : Jvm.MethodName)).before a0 Z = true := V.1 _ (List.mem_of_getElem? (i := 75) rfl)
theorem wd76 (V : Env1 Z a0 n0 uu0 uu1 uu2 uu3 uu4 uu5 uu6 uu7 uu8 uu9 uu10 uu11 uu12 uu13 uu14 uu15) : (Jvm.Cond.fieldLink "bindery/server/stomp/AckModeNamedPinLaw" (38 : Nat) "bindery/server/stomp/StompConnection$AckMode" "AUTO" "Lbindery/server/stomp/StompConnection$AckMode;").before a0 Z = true := V.1 _ (List.mem_of_getElem? (i := 76) rfl)
theorem wd77 (V : Env1 Z a0 n0 uu0 uu1 uu2 uu3 uu4 uu5 uu6 uu7 uu8 uu9 uu10 uu11 uu12 uu13 uu14 uu15) : (Jvm.Cond.methodLink "bindery/server/stomp/AckModeNamedPinLaw" (8 : Nat) ({ cls := "bindery/server/stomp/AckModeNamedPinLaw", name := "drawn", desc := "(II)[C" } : Jvm.MethodName)).before a0 Z = true := V.1 _ (List.mem_of_getElem? (i := 77) rfl)
theorem wd78 (V : Env1 Z a0 n0 uu0 uu1 uu2 uu3 uu4 uu5 uu6 uu7 uu8 uu9 uu10 uu11 uu12 uu13 uu14 uu15) : (Jvm.Cond.static ({ cls := "bindery/server/stomp/AckModeNamedPinLaw", name := "drawn", desc := "(II)[C" } : Jvm.MethodName)).before a0 Z = true := V.1 _ (List.mem_of_getElem? (i := 78) rfl)
theorem wd79 (V : Env1 Z a0 n0 uu0 uu1 uu2 uu3 uu4 uu5 uu6 uu7 uu8 uu9 uu10 uu11 uu12 uu13 uu14 uu15) : (Jvm.Cond.code ({ cls := "bindery/server/stomp/AckModeNamedPinLaw", name := "drawn", desc := "(II)[C" } : Jvm.MethodName) method_4_code (3 : Nat) (Option.some (Jvm.ClassFile.FieldType.array Jvm.ClassFile.FieldType.char))).before a0 Z = true := V.1 _ (List.mem_of_getElem? (i := 79) rfl)
theorem wd80 (V : Env1 Z a0 n0 uu0 uu1 uu2 uu3 uu4 uu5 uu6 uu7 uu8 uu9 uu10 uu11 uu12 uu13 uu14 uu15) : (Jvm.Cond.stringLink "bindery/server/stomp/AckModeNamedPinLaw" (42 : Nat) "client").before a0 Z = true := V.1 _ (List.mem_of_getElem? (i := 80) rfl)
theorem wd81 (V : Env1 Z a0 n0 uu0 uu1 uu2 uu3 uu4 uu5 uu6 uu7 uu8 uu9 uu10 uu11 uu12 uu13 uu14 uu15) : (Jvm.Cond.stringLink "bindery/server/stomp/AckModeNamedPinLaw" (47 : Nat) "client-individual").before a0 Z = true := V.1 _ (List.mem_of_getElem? (i := 81) rfl)
theorem wd82 (V : Env1 Z a0 n0 uu0 uu1 uu2 uu3 uu4 uu5 uu6 uu7 uu8 uu9 uu10 uu11 uu12 uu13 uu14 uu15) : (Jvm.Cond.fieldLink "bindery/server/stomp/AckModeNamedPinLaw" (49 : Nat) "bindery/server/stomp/StompConnection$AckMode" "CLIENT_INDIVIDUAL" "Lbindery/server/stomp/StompConnection$AckMode;").before a0 Z = true := V.1 _ (List.mem_of_getElem? (i := 82) rfl)
theorem wd83 (V : Env1 Z a0 n0 uu0 uu1 uu2 uu3 uu4 uu5 uu6 uu7 uu8 uu9 uu10 uu11 uu12 uu13 uu14 uu15) : (Jvm.Cond.fieldLink "bindery/server/stomp/AckModeNamedPinLaw" (44 : Nat) "bindery/server/stomp/StompConnection$AckMode" "CLIENT" "Lbindery/server/stomp/StompConnection$AckMode;").before a0 Z = true := V.1 _ (List.mem_of_getElem? (i := 83) rfl)
theorem wd84 (V : Env1 Z a0 n0 uu0 uu1 uu2 uu3 uu4 uu5 uu6 uu7 uu8 uu9 uu10 uu11 uu12 uu13 uu14 uu15) : (Jvm.Cond.stringLink "java/lang/String" (7 : Nat) "").before a0 Z = true := V.1 _ (List.mem_of_getElem? (i := 84) rfl)
set_option maxRecDepth 65536 in
theorem wS (V : Env1 Z a0 n0 uu0 uu1 uu2 uu3 uu4 uu5 uu6 uu7 uu8 uu9 uu10 uu11 uu12 uu13 uu14 uu15) : ∀ a ∈ Bundle.stringAtoms, a.before a0 Z = true := fun d hd => V.1 d ((by decide +kernel : ∀ d ∈ Bundle.stringAtoms, d ∈ tables_1) d hd)
theorem pd_0 : parseMethodDescriptor "(IIC)[C" = some ⟨[.int, .int, .char], (some (.array .char))⟩ := by decide +kernel
theorem pd_1 : parseMethodDescriptor "()[Lbindery/server/stomp/StompConnection$AckMode;" = some ⟨[], (some (.array (.object "bindery/server/stomp/StompConnection$AckMode")))⟩ := by decide +kernel
theorem pd_2 : parseMethodDescriptor "(Ljava/lang/String;)Lbindery/server/stomp/StompConnection$AckMode;" = some ⟨[(.object "java/lang/String")], (some (.object "bindery/server/stomp/StompConnection$AckMode"))⟩ := by decide +kernel
theorem pd_3 : parseMethodDescriptor "(II)[C" = some ⟨[.int, .int], (some (.array .char))⟩ := by decide +kernel
theorem pd_4 : parseMethodDescriptor "([CIILjava/lang/Void;)V" = some ⟨[(.array .char), .int, .int, (.object "java/lang/Void")], none⟩ := by decide +kernel
theorem pd_5 : parseMethodDescriptor "([C)V" = some ⟨[(.array .char)], none⟩ := by decide +kernel
theorem pd_6 : parseMethodDescriptor "(Ljava/lang/Object;)Z" = some ⟨[(.object "java/lang/Object")], (some .boolean)⟩ := by decide +kernel
set_option maxRecDepth 65536 in
theorem strw (V : Env1 Z a0 n0 uu0 uu1 uu2 uu3 uu4 uu5 uu6 uu7 uu8 uu9 uu10 uu11 uu12 uu13 uu14 uu15) : ∀ d ∈ StrChars.Road.words, d.before a0 Z = true := fun d hd => V.1 d ((by decide +kernel : ∀ d ∈ StrChars.Road.words, d ∈ tables_1) d hd)
set_option maxRecDepth 65536 in
theorem strwEq (V : Env1 Z a0 n0 uu0 uu1 uu2 uu3 uu4 uu5 uu6 uu7 uu8 uu9 uu10 uu11 uu12 uu13 uu14 uu15) : ∀ d ∈ StrChars.Road.wordsEq, d.before a0 Z = true := fun d hd => V.1 d ((by decide +kernel : ∀ d ∈ StrChars.Road.wordsEq, d ∈ tables_1) d hd)
theorem D5_0 : decode method_5_code 0 = .ok (.iload_n 0, 1) := by decide +kernel
theorem D5_1 : decode method_5_code 1 = .ok (.ifCond .ne 83, 3) := by decide +kernel
theorem D5_4 : decode method_5_code 4 = .ok (.iload_n 1, 1) := by decide +kernel
theorem D5_5 : decode method_5_code 5 = .ok (.ifCond .ne 27, 3) := by decide +kernel
theorem D5_8 : decode method_5_code 8 = .ok (.iconst 4, 1) := by decide +kernel
theorem D5_9 : decode method_5_code 9 = .ok (.newarray .char, 2) := by decide +kernel
theorem D5_11 : decode method_5_code 11 = .ok (.dup, 1) := by decide +kernel
theorem D5_12 : decode method_5_code 12 = .ok (.iconst 0, 1) := by decide +kernel
theorem D5_13 : decode method_5_code 13 = .ok (.bipush 97, 2) := by decide +kernel
theorem D5_15 : decode method_5_code 15 = .ok (.castore, 1) := by decide +kernel
theorem D5_16 : decode method_5_code 16 = .ok (.dup, 1) := by decide +kernel
theorem D5_17 : decode method_5_code 17 = .ok (.iconst 1, 1) := by decide +kernel
theorem D5_18 : decode method_5_code 18 = .ok (.bipush 117, 2) := by decide +kernel
theorem D5_20 : decode method_5_code 20 = .ok (.castore, 1) := by decide +kernel
theorem D5_21 : decode method_5_code 21 = .ok (.dup, 1) := by decide +kernel
theorem D5_22 : decode method_5_code 22 = .ok (.iconst 2, 1) := by decide +kernel
theorem D5_23 : decode method_5_code 23 = .ok (.bipush 116, 2) := by decide +kernel
theorem D5_25 : decode method_5_code 25 = .ok (.castore, 1) := by decide +kernel
theorem D5_26 : decode method_5_code 26 = .ok (.dup, 1) := by decide +kernel
theorem D5_27 : decode method_5_code 27 = .ok (.iconst 3, 1) := by decide +kernel
theorem D5_28 : decode method_5_code 28 = .ok (.bipush 111, 2) := by decide +kernel
theorem D5_30 : decode method_5_code 30 = .ok (.castore, 1) := by decide +kernel
theorem D5_31 : decode method_5_code 31 = .ok (.areturn, 1) := by decide +kernel
theorem D7_0 : decode prog_93_method_4_code 0 = .ok (.invokestatic 36, 3) := by decide +kernel
theorem D6_0 : decode prog_93_method_1_code 0 = .ok (.getstatic 13, 3) := by decide +kernel
theorem D6_3 : decode prog_93_method_1_code 3 = .ok (.invokevirtual 17, 3) := by decide +kernel
theorem D6_6 : decode prog_93_method_1_code 6 = .ok (.checkcast 18, 3) := by decide +kernel
theorem D6_9 : decode prog_93_method_1_code 9 = .ok (.areturn, 1) := by decide +kernel
theorem D7_3 : decode prog_93_method_4_code 3 = .ok (.astore_n 1, 1) := by decide +kernel
theorem D7_4 : decode prog_93_method_4_code 4 = .ok (.aload_n 1, 1) := by decide +kernel
theorem D7_5 : decode prog_93_method_4_code 5 = .ok (.arraylength, 1) := by decide +kernel
theorem D7_6 : decode prog_93_method_4_code 6 = .ok (.istore_n 2, 1) := by decide +kernel
theorem D7_7 : decode prog_93_method_4_code 7 = .ok (.iconst 0, 1) := by decide +kernel
theorem D7_8 : decode prog_93_method_4_code 8 = .ok (.istore_n 3, 1) := by decide +kernel
theorem D7_9 : decode prog_93_method_4_code 9 = .ok (.iload_n 3, 1) := by decide +kernel
theorem D7_10 : decode prog_93_method_4_code 10 = .ok (.iload_n 2, 1) := by decide +kernel
theorem D7_11 : decode prog_93_method_4_code 11 = .ok (.if_icmp .ge 29, 3) := by decide +kernel
theorem D7_14 : decode prog_93_method_4_code 14 = .ok (.aload_n 1, 1) := by decide +kernel
theorem D7_15 : decode prog_93_method_4_code 15 = .ok (.iload_n 3, 1) := by decide +kernel
theorem D7_16 : decode prog_93_method_4_code 16 = .ok (.aaload, 1) := by decide +kernel
theorem D7_17 : decode prog_93_method_4_code 17 = .ok (.astore 4, 2) := by decide +kernel
theorem D7_19 : decode prog_93_method_4_code 19 = .ok (.aload 4, 2) := by decide +kernel
theorem D7_21 : decode prog_93_method_4_code 21 = .ok (.getfield 32, 3) := by decide +kernel
theorem D7_24 : decode prog_93_method_4_code 24 = .ok (.aload_n 0, 1) := by decide +kernel
theorem D7_25 : decode prog_93_method_4_code 25 = .ok (.invokevirtual 40, 3) := by decide +kernel
theorem D7_28 : decode prog_93_method_4_code 28 = .ok (.ifCond .eq 6, 3) := by decide +kernel
theorem D7_31 : decode prog_93_method_4_code 31 = .ok (.aload 4, 2) := by decide +kernel
theorem D7_33 : decode prog_93_method_4_code 33 = .ok (.areturn, 1) := by decide +kernel
theorem D7_34 : decode prog_93_method_4_code 34 = .ok (.iinc 3 1, 3) := by decide +kernel
theorem D7_37 : decode prog_93_method_4_code 37 = .ok (.goto (-28), 3) := by decide +kernel
theorem D7_40 : decode prog_93_method_4_code 40 = .ok (.aconst_null, 1) := by decide +kernel
theorem D7_41 : decode prog_93_method_4_code 41 = .ok (.areturn, 1) := by decide +kernel
theorem D3_0 : decode method_3_code 0 = .ok (.aload_n 0, 1) := by decide +kernel
theorem D3_1 : decode method_3_code 1 = .ok (.ifnonnull 5, 3) := by decide +kernel
theorem D3_6 : decode method_3_code 6 = .ok (.aload_n 0, 1) := by decide +kernel
theorem D3_7 : decode method_3_code 7 = .ok (.ldc 32, 2) := by decide +kernel
theorem D3_9 : decode method_3_code 9 = .ok (.invokevirtual 34, 3) := by decide +kernel
theorem D3_12 : decode method_3_code 12 = .ok (.ifCond .eq 7, 3) := by decide +kernel
theorem D3_15 : decode method_3_code 15 = .ok (.getstatic 38, 3) := by decide +kernel
theorem D3_18 : decode method_3_code 18 = .ok (.areturn, 1) := by decide +kernel
theorem D3_19 : decode method_3_code 19 = .ok (.aload_n 0, 1) := by decide +kernel
theorem D3_20 : decode method_3_code 20 = .ok (.ldc 42, 2) := by decide +kernel
theorem D3_22 : decode method_3_code 22 = .ok (.invokevirtual 34, 3) := by decide +kernel
theorem D3_25 : decode method_3_code 25 = .ok (.ifCond .eq 7, 3) := by decide +kernel
theorem D3_32 : decode method_3_code 32 = .ok (.aload_n 0, 1) := by decide +kernel
theorem D3_33 : decode method_3_code 33 = .ok (.ldc 47, 2) := by decide +kernel
theorem D3_35 : decode method_3_code 35 = .ok (.invokevirtual 34, 3) := by decide +kernel
theorem D3_38 : decode method_3_code 38 = .ok (.ifCond .eq 7, 3) := by decide +kernel
theorem D3_45 : decode method_3_code 45 = .ok (.aconst_null, 1) := by decide +kernel
theorem D3_46 : decode method_3_code 46 = .ok (.areturn, 1) := by decide +kernel
theorem D5_32 : decode method_5_code 32 = .ok (.iload_n 1, 1) := by decide +kernel
theorem D5_33 : decode method_5_code 33 = .ok (.iconst 1, 1) := by decide +kernel
theorem D5_34 : decode method_5_code 34 = .ok (.if_icmp .ne 31, 3) := by decide +kernel
theorem D5_37 : decode method_5_code 37 = .ok (.iconst 5, 1) := by decide +kernel
theorem D5_38 : decode method_5_code 38 = .ok (.newarray .char, 2) := by decide +kernel
theorem D5_40 : decode method_5_code 40 = .ok (.dup, 1) := by decide +kernel
theorem D5_41 : decode method_5_code 41 = .ok (.iconst 0, 1) := by decide +kernel
theorem D5_42 : decode method_5_code 42 = .ok (.bipush 97, 2) := by decide +kernel
theorem D5_44 : decode method_5_code 44 = .ok (.castore, 1) := by decide +kernel
theorem D5_45 : decode method_5_code 45 = .ok (.dup, 1) := by decide +kernel
theorem D5_46 : decode method_5_code 46 = .ok (.iconst 1, 1) := by decide +kernel
theorem D5_47 : decode method_5_code 47 = .ok (.bipush 117, 2) := by decide +kernel
theorem D5_49 : decode method_5_code 49 = .ok (.castore, 1) := by decide +kernel
theorem D5_50 : decode method_5_code 50 = .ok (.dup, 1) := by decide +kernel
theorem D5_51 : decode method_5_code 51 = .ok (.iconst 2, 1) := by decide +kernel
theorem D5_52 : decode method_5_code 52 = .ok (.bipush 116, 2) := by decide +kernel
theorem D5_54 : decode method_5_code 54 = .ok (.castore, 1) := by decide +kernel
theorem D5_55 : decode method_5_code 55 = .ok (.dup, 1) := by decide +kernel
theorem D5_56 : decode method_5_code 56 = .ok (.iconst 3, 1) := by decide +kernel
theorem D5_57 : decode method_5_code 57 = .ok (.bipush 111, 2) := by decide +kernel
theorem D5_59 : decode method_5_code 59 = .ok (.castore, 1) := by decide +kernel
theorem D5_60 : decode method_5_code 60 = .ok (.dup, 1) := by decide +kernel
theorem D5_61 : decode method_5_code 61 = .ok (.iconst 4, 1) := by decide +kernel
theorem D5_62 : decode method_5_code 62 = .ok (.iload_n 2, 1) := by decide +kernel
theorem D5_63 : decode method_5_code 63 = .ok (.castore, 1) := by decide +kernel
theorem D5_64 : decode method_5_code 64 = .ok (.areturn, 1) := by decide +kernel
theorem D5_65 : decode method_5_code 65 = .ok (.iconst 3, 1) := by decide +kernel
theorem D5_66 : decode method_5_code 66 = .ok (.newarray .char, 2) := by decide +kernel
theorem D5_68 : decode method_5_code 68 = .ok (.dup, 1) := by decide +kernel
theorem D5_69 : decode method_5_code 69 = .ok (.iconst 0, 1) := by decide +kernel
theorem D5_70 : decode method_5_code 70 = .ok (.bipush 97, 2) := by decide +kernel
theorem D5_72 : decode method_5_code 72 = .ok (.castore, 1) := by decide +kernel
theorem D5_73 : decode method_5_code 73 = .ok (.dup, 1) := by decide +kernel
theorem D5_74 : decode method_5_code 74 = .ok (.iconst 1, 1) := by decide +kernel
theorem D5_75 : decode method_5_code 75 = .ok (.bipush 117, 2) := by decide +kernel
theorem D5_77 : decode method_5_code 77 = .ok (.castore, 1) := by decide +kernel
theorem D5_78 : decode method_5_code 78 = .ok (.dup, 1) := by decide +kernel
theorem D5_79 : decode method_5_code 79 = .ok (.iconst 2, 1) := by decide +kernel
theorem D5_80 : decode method_5_code 80 = .ok (.bipush 116, 2) := by decide +kernel
theorem D5_82 : decode method_5_code 82 = .ok (.castore, 1) := by decide +kernel
theorem D5_83 : decode method_5_code 83 = .ok (.areturn, 1) := by decide +kernel
theorem D5_84 : decode method_5_code 84 = .ok (.iload_n 0, 1) := by decide +kernel
theorem D5_85 : decode method_5_code 85 = .ok (.iconst 1, 1) := by decide +kernel
theorem D5_86 : decode method_5_code 86 = .ok (.if_icmp .ne 116, 3) := by decide +kernel
theorem D5_89 : decode method_5_code 89 = .ok (.iload_n 1, 1) := by decide +kernel
theorem D5_90 : decode method_5_code 90 = .ok (.ifCond .ne 38, 3) := by decide +kernel
theorem D5_93 : decode method_5_code 93 = .ok (.bipush 6, 2) := by decide +kernel
theorem D5_95 : decode method_5_code 95 = .ok (.newarray .char, 2) := by decide +kernel
theorem D5_97 : decode method_5_code 97 = .ok (.dup, 1) := by decide +kernel
theorem D5_98 : decode method_5_code 98 = .ok (.iconst 0, 1) := by decide +kernel
theorem D5_99 : decode method_5_code 99 = .ok (.bipush 99, 2) := by decide +kernel
theorem D5_101 : decode method_5_code 101 = .ok (.castore, 1) := by decide +kernel
theorem D5_102 : decode method_5_code 102 = .ok (.dup, 1) := by decide +kernel
theorem D5_103 : decode method_5_code 103 = .ok (.iconst 1, 1) := by decide +kernel
theorem D5_104 : decode method_5_code 104 = .ok (.bipush 108, 2) := by decide +kernel
theorem D5_106 : decode method_5_code 106 = .ok (.castore, 1) := by decide +kernel
theorem D5_107 : decode method_5_code 107 = .ok (.dup, 1) := by decide +kernel
theorem D5_108 : decode method_5_code 108 = .ok (.iconst 2, 1) := by decide +kernel
theorem D5_109 : decode method_5_code 109 = .ok (.bipush 105, 2) := by decide +kernel
theorem D5_111 : decode method_5_code 111 = .ok (.castore, 1) := by decide +kernel
theorem D5_112 : decode method_5_code 112 = .ok (.dup, 1) := by decide +kernel
theorem D5_113 : decode method_5_code 113 = .ok (.iconst 3, 1) := by decide +kernel
theorem D5_114 : decode method_5_code 114 = .ok (.bipush 101, 2) := by decide +kernel
theorem D5_116 : decode method_5_code 116 = .ok (.castore, 1) := by decide +kernel
theorem D5_117 : decode method_5_code 117 = .ok (.dup, 1) := by decide +kernel
theorem D5_118 : decode method_5_code 118 = .ok (.iconst 4, 1) := by decide +kernel
theorem D5_119 : decode method_5_code 119 = .ok (.bipush 110, 2) := by decide +kernel
theorem D5_121 : decode method_5_code 121 = .ok (.castore, 1) := by decide +kernel
theorem D5_122 : decode method_5_code 122 = .ok (.dup, 1) := by decide +kernel
theorem D5_123 : decode method_5_code 123 = .ok (.iconst 5, 1) := by decide +kernel
theorem D5_124 : decode method_5_code 124 = .ok (.bipush 116, 2) := by decide +kernel
theorem D5_126 : decode method_5_code 126 = .ok (.castore, 1) := by decide +kernel
theorem D5_127 : decode method_5_code 127 = .ok (.areturn, 1) := by decide +kernel
theorem D3_28 : decode method_3_code 28 = .ok (.getstatic 44, 3) := by decide +kernel
theorem D3_31 : decode method_3_code 31 = .ok (.areturn, 1) := by decide +kernel
theorem D5_128 : decode method_5_code 128 = .ok (.iload_n 1, 1) := by decide +kernel
theorem D5_129 : decode method_5_code 129 = .ok (.iconst 1, 1) := by decide +kernel
theorem D5_130 : decode method_5_code 130 = .ok (.if_icmp .ne 43, 3) := by decide +kernel
theorem D5_133 : decode method_5_code 133 = .ok (.bipush 7, 2) := by decide +kernel
theorem D5_135 : decode method_5_code 135 = .ok (.newarray .char, 2) := by decide +kernel
theorem D5_137 : decode method_5_code 137 = .ok (.dup, 1) := by decide +kernel
theorem D5_138 : decode method_5_code 138 = .ok (.iconst 0, 1) := by decide +kernel
theorem D5_139 : decode method_5_code 139 = .ok (.bipush 99, 2) := by decide +kernel
theorem D5_141 : decode method_5_code 141 = .ok (.castore, 1) := by decide +kernel
theorem D5_142 : decode method_5_code 142 = .ok (.dup, 1) := by decide +kernel
theorem D5_143 : decode method_5_code 143 = .ok (.iconst 1, 1) := by decide +kernel
theorem D5_144 : decode method_5_code 144 = .ok (.bipush 108, 2) := by decide +kernel
theorem D5_146 : decode method_5_code 146 = .ok (.castore, 1) := by decide +kernel
theorem D5_147 : decode method_5_code 147 = .ok (.dup, 1) := by decide +kernel
theorem D5_148 : decode method_5_code 148 = .ok (.iconst 2, 1) := by decide +kernel
theorem D5_149 : decode method_5_code 149 = .ok (.bipush 105, 2) := by decide +kernel
theorem D5_151 : decode method_5_code 151 = .ok (.castore, 1) := by decide +kernel
theorem D5_152 : decode method_5_code 152 = .ok (.dup, 1) := by decide +kernel
theorem D5_153 : decode method_5_code 153 = .ok (.iconst 3, 1) := by decide +kernel
theorem D5_154 : decode method_5_code 154 = .ok (.bipush 101, 2) := by decide +kernel
theorem D5_156 : decode method_5_code 156 = .ok (.castore, 1) := by decide +kernel
theorem D5_157 : decode method_5_code 157 = .ok (.dup, 1) := by decide +kernel
theorem D5_158 : decode method_5_code 158 = .ok (.iconst 4, 1) := by decide +kernel
theorem D5_159 : decode method_5_code 159 = .ok (.bipush 110, 2) := by decide +kernel
theorem D5_161 : decode method_5_code 161 = .ok (.castore, 1) := by decide +kernel
theorem D5_162 : decode method_5_code 162 = .ok (.dup, 1) := by decide +kernel
theorem D5_163 : decode method_5_code 163 = .ok (.iconst 5, 1) := by decide +kernel
theorem D5_164 : decode method_5_code 164 = .ok (.bipush 116, 2) := by decide +kernel
theorem D5_166 : decode method_5_code 166 = .ok (.castore, 1) := by decide +kernel
theorem D5_167 : decode method_5_code 167 = .ok (.dup, 1) := by decide +kernel
theorem D5_168 : decode method_5_code 168 = .ok (.bipush 6, 2) := by decide +kernel
theorem D5_170 : decode method_5_code 170 = .ok (.iload_n 2, 1) := by decide +kernel
theorem D5_171 : decode method_5_code 171 = .ok (.castore, 1) := by decide +kernel
theorem D5_172 : decode method_5_code 172 = .ok (.areturn, 1) := by decide +kernel
theorem D5_173 : decode method_5_code 173 = .ok (.iconst 5, 1) := by decide +kernel
theorem D5_174 : decode method_5_code 174 = .ok (.newarray .char, 2) := by decide +kernel
theorem D5_176 : decode method_5_code 176 = .ok (.dup, 1) := by decide +kernel
theorem D5_177 : decode method_5_code 177 = .ok (.iconst 0, 1) := by decide +kernel
theorem D5_178 : decode method_5_code 178 = .ok (.bipush 99, 2) := by decide +kernel
theorem D5_180 : decode method_5_code 180 = .ok (.castore, 1) := by decide +kernel
theorem D5_181 : decode method_5_code 181 = .ok (.dup, 1) := by decide +kernel
theorem D5_182 : decode method_5_code 182 = .ok (.iconst 1, 1) := by decide +kernel
theorem D5_183 : decode method_5_code 183 = .ok (.bipush 108, 2) := by decide +kernel
theorem D5_185 : decode method_5_code 185 = .ok (.castore, 1) := by decide +kernel
theorem D5_186 : decode method_5_code 186 = .ok (.dup, 1) := by decide +kernel
theorem D5_187 : decode method_5_code 187 = .ok (.iconst 2, 1) := by decide +kernel
theorem D5_188 : decode method_5_code 188 = .ok (.bipush 105, 2) := by decide +kernel
theorem D5_190 : decode method_5_code 190 = .ok (.castore, 1) := by decide +kernel
theorem D5_191 : decode method_5_code 191 = .ok (.dup, 1) := by decide +kernel
theorem D5_192 : decode method_5_code 192 = .ok (.iconst 3, 1) := by decide +kernel
theorem D5_193 : decode method_5_code 193 = .ok (.bipush 101, 2) := by decide +kernel
theorem D5_195 : decode method_5_code 195 = .ok (.castore, 1) := by decide +kernel
theorem D5_196 : decode method_5_code 196 = .ok (.dup, 1) := by decide +kernel
theorem D5_197 : decode method_5_code 197 = .ok (.iconst 4, 1) := by decide +kernel
theorem D5_198 : decode method_5_code 198 = .ok (.bipush 110, 2) := by decide +kernel
theorem D5_200 : decode method_5_code 200 = .ok (.castore, 1) := by decide +kernel
theorem D5_201 : decode method_5_code 201 = .ok (.areturn, 1) := by decide +kernel
theorem D5_202 : decode method_5_code 202 = .ok (.iload_n 1, 1) := by decide +kernel
theorem D5_203 : decode method_5_code 203 = .ok (.ifCond .ne 104, 3) := by decide +kernel
theorem D5_206 : decode method_5_code 206 = .ok (.bipush 17, 2) := by decide +kernel
theorem D5_208 : decode method_5_code 208 = .ok (.newarray .char, 2) := by decide +kernel
theorem D5_210 : decode method_5_code 210 = .ok (.dup, 1) := by decide +kernel
theorem D5_211 : decode method_5_code 211 = .ok (.iconst 0, 1) := by decide +kernel
theorem D5_212 : decode method_5_code 212 = .ok (.bipush 99, 2) := by decide +kernel
theorem D5_214 : decode method_5_code 214 = .ok (.castore, 1) := by decide +kernel
theorem D5_215 : decode method_5_code 215 = .ok (.dup, 1) := by decide +kernel
theorem D5_216 : decode method_5_code 216 = .ok (.iconst 1, 1) := by decide +kernel
theorem D5_217 : decode method_5_code 217 = .ok (.bipush 108, 2) := by decide +kernel
theorem D5_219 : decode method_5_code 219 = .ok (.castore, 1) := by decide +kernel
theorem D5_220 : decode method_5_code 220 = .ok (.dup, 1) := by decide +kernel
theorem D5_221 : decode method_5_code 221 = .ok (.iconst 2, 1) := by decide +kernel
theorem D5_222 : decode method_5_code 222 = .ok (.bipush 105, 2) := by decide +kernel
theorem D5_224 : decode method_5_code 224 = .ok (.castore, 1) := by decide +kernel
theorem D5_225 : decode method_5_code 225 = .ok (.dup, 1) := by decide +kernel
theorem D5_226 : decode method_5_code 226 = .ok (.iconst 3, 1) := by decide +kernel
theorem D5_227 : decode method_5_code 227 = .ok (.bipush 101, 2) := by decide +kernel
theorem D5_229 : decode method_5_code 229 = .ok (.castore, 1) := by decide +kernel
theorem D5_230 : decode method_5_code 230 = .ok (.dup, 1) := by decide +kernel
theorem D5_231 : decode method_5_code 231 = .ok (.iconst 4, 1) := by decide +kernel
theorem D5_232 : decode method_5_code 232 = .ok (.bipush 110, 2) := by decide +kernel
theorem D5_234 : decode method_5_code 234 = .ok (.castore, 1) := by decide +kernel
theorem D5_235 : decode method_5_code 235 = .ok (.dup, 1) := by decide +kernel
theorem D5_236 : decode method_5_code 236 = .ok (.iconst 5, 1) := by decide +kernel
theorem D5_237 : decode method_5_code 237 = .ok (.bipush 116, 2) := by decide +kernel
theorem D5_239 : decode method_5_code 239 = .ok (.castore, 1) := by decide +kernel
theorem D5_240 : decode method_5_code 240 = .ok (.dup, 1) := by decide +kernel
theorem D5_241 : decode method_5_code 241 = .ok (.bipush 6, 2) := by decide +kernel
theorem D5_243 : decode method_5_code 243 = .ok (.bipush 45, 2) := by decide +kernel
theorem D5_245 : decode method_5_code 245 = .ok (.castore, 1) := by decide +kernel
theorem D5_246 : decode method_5_code 246 = .ok (.dup, 1) := by decide +kernel
theorem D5_247 : decode method_5_code 247 = .ok (.bipush 7, 2) := by decide +kernel
theorem D5_249 : decode method_5_code 249 = .ok (.bipush 105, 2) := by decide +kernel
theorem D5_251 : decode method_5_code 251 = .ok (.castore, 1) := by decide +kernel
theorem D5_252 : decode method_5_code 252 = .ok (.dup, 1) := by decide +kernel
theorem D5_253 : decode method_5_code 253 = .ok (.bipush 8, 2) := by decide +kernel
theorem D5_255 : decode method_5_code 255 = .ok (.bipush 110, 2) := by decide +kernel
theorem D5_257 : decode method_5_code 257 = .ok (.castore, 1) := by decide +kernel
theorem D5_258 : decode method_5_code 258 = .ok (.dup, 1) := by decide +kernel
theorem D5_259 : decode method_5_code 259 = .ok (.bipush 9, 2) := by decide +kernel
theorem D5_261 : decode method_5_code 261 = .ok (.bipush 100, 2) := by decide +kernel
theorem D5_263 : decode method_5_code 263 = .ok (.castore, 1) := by decide +kernel
theorem D5_264 : decode method_5_code 264 = .ok (.dup, 1) := by decide +kernel
theorem D5_265 : decode method_5_code 265 = .ok (.bipush 10, 2) := by decide +kernel
theorem D5_267 : decode method_5_code 267 = .ok (.bipush 105, 2) := by decide +kernel
theorem D5_269 : decode method_5_code 269 = .ok (.castore, 1) := by decide +kernel
theorem D5_270 : decode method_5_code 270 = .ok (.dup, 1) := by decide +kernel
theorem D5_271 : decode method_5_code 271 = .ok (.bipush 11, 2) := by decide +kernel
theorem D5_273 : decode method_5_code 273 = .ok (.bipush 118, 2) := by decide +kernel
theorem D5_275 : decode method_5_code 275 = .ok (.castore, 1) := by decide +kernel
theorem D5_276 : decode method_5_code 276 = .ok (.dup, 1) := by decide +kernel
theorem D5_277 : decode method_5_code 277 = .ok (.bipush 12, 2) := by decide +kernel
theorem D5_279 : decode method_5_code 279 = .ok (.bipush 105, 2) := by decide +kernel
theorem D5_281 : decode method_5_code 281 = .ok (.castore, 1) := by decide +kernel
theorem D5_282 : decode method_5_code 282 = .ok (.dup, 1) := by decide +kernel
theorem D5_283 : decode method_5_code 283 = .ok (.bipush 13, 2) := by decide +kernel
theorem D5_285 : decode method_5_code 285 = .ok (.bipush 100, 2) := by decide +kernel
theorem D5_287 : decode method_5_code 287 = .ok (.castore, 1) := by decide +kernel
theorem D5_288 : decode method_5_code 288 = .ok (.dup, 1) := by decide +kernel
theorem D5_289 : decode method_5_code 289 = .ok (.bipush 14, 2) := by decide +kernel
theorem D5_291 : decode method_5_code 291 = .ok (.bipush 117, 2) := by decide +kernel
theorem D5_293 : decode method_5_code 293 = .ok (.castore, 1) := by decide +kernel
theorem D5_294 : decode method_5_code 294 = .ok (.dup, 1) := by decide +kernel
theorem D5_295 : decode method_5_code 295 = .ok (.bipush 15, 2) := by decide +kernel
theorem D5_297 : decode method_5_code 297 = .ok (.bipush 97, 2) := by decide +kernel
theorem D5_299 : decode method_5_code 299 = .ok (.castore, 1) := by decide +kernel
theorem D5_300 : decode method_5_code 300 = .ok (.dup, 1) := by decide +kernel
theorem D5_301 : decode method_5_code 301 = .ok (.bipush 16, 2) := by decide +kernel
theorem D5_303 : decode method_5_code 303 = .ok (.bipush 108, 2) := by decide +kernel
theorem D5_305 : decode method_5_code 305 = .ok (.castore, 1) := by decide +kernel
theorem D5_306 : decode method_5_code 306 = .ok (.areturn, 1) := by decide +kernel
theorem D3_41 : decode method_3_code 41 = .ok (.getstatic 49, 3) := by decide +kernel
theorem D3_44 : decode method_3_code 44 = .ok (.areturn, 1) := by decide +kernel
theorem D5_307 : decode method_5_code 307 = .ok (.iload_n 1, 1) := by decide +kernel
theorem D5_308 : decode method_5_code 308 = .ok (.iconst 1, 1) := by decide +kernel
theorem D5_309 : decode method_5_code 309 = .ok (.if_icmp .ne 109, 3) := by decide +kernel
theorem D5_312 : decode method_5_code 312 = .ok (.bipush 18, 2) := by decide +kernel
theorem D5_314 : decode method_5_code 314 = .ok (.newarray .char, 2) := by decide +kernel
theorem D5_316 : decode method_5_code 316 = .ok (.dup, 1) := by decide +kernel
theorem D5_317 : decode method_5_code 317 = .ok (.iconst 0, 1) := by decide +kernel
theorem D5_318 : decode method_5_code 318 = .ok (.bipush 99, 2) := by decide +kernel
theorem D5_320 : decode method_5_code 320 = .ok (.castore, 1) := by decide +kernel
theorem D5_321 : decode method_5_code 321 = .ok (.dup, 1) := by decide +kernel
theorem D5_322 : decode method_5_code 322 = .ok (.iconst 1, 1) := by decide +kernel
theorem D5_323 : decode method_5_code 323 = .ok (.bipush 108, 2) := by decide +kernel
theorem D5_325 : decode method_5_code 325 = .ok (.castore, 1) := by decide +kernel
theorem D5_326 : decode method_5_code 326 = .ok (.dup, 1) := by decide +kernel
theorem D5_327 : decode method_5_code 327 = .ok (.iconst 2, 1) := by decide +kernel
theorem D5_328 : decode method_5_code 328 = .ok (.bipush 105, 2) := by decide +kernel
theorem D5_330 : decode method_5_code 330 = .ok (.castore, 1) := by decide +kernel
theorem D5_331 : decode method_5_code 331 = .ok (.dup, 1) := by decide +kernel
theorem D5_332 : decode method_5_code 332 = .ok (.iconst 3, 1) := by decide +kernel
theorem D5_333 : decode method_5_code 333 = .ok (.bipush 101, 2) := by decide +kernel
theorem D5_335 : decode method_5_code 335 = .ok (.castore, 1) := by decide +kernel
theorem D5_336 : decode method_5_code 336 = .ok (.dup, 1) := by decide +kernel
theorem D5_337 : decode method_5_code 337 = .ok (.iconst 4, 1) := by decide +kernel
theorem D5_338 : decode method_5_code 338 = .ok (.bipush 110, 2) := by decide +kernel
theorem D5_340 : decode method_5_code 340 = .ok (.castore, 1) := by decide +kernel
theorem D5_341 : decode method_5_code 341 = .ok (.dup, 1) := by decide +kernel
theorem D5_342 : decode method_5_code 342 = .ok (.iconst 5, 1) := by decide +kernel
theorem D5_343 : decode method_5_code 343 = .ok (.bipush 116, 2) := by decide +kernel
theorem D5_345 : decode method_5_code 345 = .ok (.castore, 1) := by decide +kernel
theorem D5_346 : decode method_5_code 346 = .ok (.dup, 1) := by decide +kernel
theorem D5_347 : decode method_5_code 347 = .ok (.bipush 6, 2) := by decide +kernel
theorem D5_349 : decode method_5_code 349 = .ok (.bipush 45, 2) := by decide +kernel
theorem D5_351 : decode method_5_code 351 = .ok (.castore, 1) := by decide +kernel
theorem D5_352 : decode method_5_code 352 = .ok (.dup, 1) := by decide +kernel
theorem D5_353 : decode method_5_code 353 = .ok (.bipush 7, 2) := by decide +kernel
theorem D5_355 : decode method_5_code 355 = .ok (.bipush 105, 2) := by decide +kernel
theorem D5_357 : decode method_5_code 357 = .ok (.castore, 1) := by decide +kernel
theorem D5_358 : decode method_5_code 358 = .ok (.dup, 1) := by decide +kernel
theorem D5_359 : decode method_5_code 359 = .ok (.bipush 8, 2) := by decide +kernel
theorem D5_361 : decode method_5_code 361 = .ok (.bipush 110, 2) := by decide +kernel
theorem D5_363 : decode method_5_code 363 = .ok (.castore, 1) := by decide +kernel
theorem D5_364 : decode method_5_code 364 = .ok (.dup, 1) := by decide +kernel
theorem D5_365 : decode method_5_code 365 = .ok (.bipush 9, 2) := by decide +kernel
theorem D5_367 : decode method_5_code 367 = .ok (.bipush 100, 2) := by decide +kernel
theorem D5_369 : decode method_5_code 369 = .ok (.castore, 1) := by decide +kernel
theorem D5_370 : decode method_5_code 370 = .ok (.dup, 1) := by decide +kernel
theorem D5_371 : decode method_5_code 371 = .ok (.bipush 10, 2) := by decide +kernel
theorem D5_373 : decode method_5_code 373 = .ok (.bipush 105, 2) := by decide +kernel
theorem D5_375 : decode method_5_code 375 = .ok (.castore, 1) := by decide +kernel
theorem D5_376 : decode method_5_code 376 = .ok (.dup, 1) := by decide +kernel
theorem D5_377 : decode method_5_code 377 = .ok (.bipush 11, 2) := by decide +kernel
theorem D5_379 : decode method_5_code 379 = .ok (.bipush 118, 2) := by decide +kernel
theorem D5_381 : decode method_5_code 381 = .ok (.castore, 1) := by decide +kernel
theorem D5_382 : decode method_5_code 382 = .ok (.dup, 1) := by decide +kernel
theorem D5_383 : decode method_5_code 383 = .ok (.bipush 12, 2) := by decide +kernel
theorem D5_385 : decode method_5_code 385 = .ok (.bipush 105, 2) := by decide +kernel
theorem D5_387 : decode method_5_code 387 = .ok (.castore, 1) := by decide +kernel
theorem D5_388 : decode method_5_code 388 = .ok (.dup, 1) := by decide +kernel
theorem D5_389 : decode method_5_code 389 = .ok (.bipush 13, 2) := by decide +kernel
theorem D5_391 : decode method_5_code 391 = .ok (.bipush 100, 2) := by decide +kernel
theorem D5_393 : decode method_5_code 393 = .ok (.castore, 1) := by decide +kernel
theorem D5_394 : decode method_5_code 394 = .ok (.dup, 1) := by decide +kernel
theorem D5_395 : decode method_5_code 395 = .ok (.bipush 14, 2) := by decide +kernel
theorem D5_397 : decode method_5_code 397 = .ok (.bipush 117, 2) := by decide +kernel
theorem D5_399 : decode method_5_code 399 = .ok (.castore, 1) := by decide +kernel
theorem D5_400 : decode method_5_code 400 = .ok (.dup, 1) := by decide +kernel
theorem D5_401 : decode method_5_code 401 = .ok (.bipush 15, 2) := by decide +kernel
theorem D5_403 : decode method_5_code 403 = .ok (.bipush 97, 2) := by decide +kernel
theorem D5_405 : decode method_5_code 405 = .ok (.castore, 1) := by decide +kernel
theorem D5_406 : decode method_5_code 406 = .ok (.dup, 1) := by decide +kernel
theorem D5_407 : decode method_5_code 407 = .ok (.bipush 16, 2) := by decide +kernel
theorem D5_409 : decode method_5_code 409 = .ok (.bipush 108, 2) := by decide +kernel
theorem D5_411 : decode method_5_code 411 = .ok (.castore, 1) := by decide +kernel
theorem D5_412 : decode method_5_code 412 = .ok (.dup, 1) := by decide +kernel
theorem D5_413 : decode method_5_code 413 = .ok (.bipush 17, 2) := by decide +kernel
theorem D5_415 : decode method_5_code 415 = .ok (.iload_n 2, 1) := by decide +kernel
theorem D5_416 : decode method_5_code 416 = .ok (.castore, 1) := by decide +kernel
theorem D5_417 : decode method_5_code 417 = .ok (.areturn, 1) := by decide +kernel
theorem D5_418 : decode method_5_code 418 = .ok (.bipush 16, 2) := by decide +kernel
theorem D5_420 : decode method_5_code 420 = .ok (.newarray .char, 2) := by decide +kernel
theorem D5_422 : decode method_5_code 422 = .ok (.dup, 1) := by decide +kernel
theorem D5_423 : decode method_5_code 423 = .ok (.iconst 0, 1) := by decide +kernel
theorem D5_424 : decode method_5_code 424 = .ok (.bipush 99, 2) := by decide +kernel
theorem D5_426 : decode method_5_code 426 = .ok (.castore, 1) := by decide +kernel
theorem D5_427 : decode method_5_code 427 = .ok (.dup, 1) := by decide +kernel
theorem D5_428 : decode method_5_code 428 = .ok (.iconst 1, 1) := by decide +kernel
theorem D5_429 : decode method_5_code 429 = .ok (.bipush 108, 2) := by decide +kernel
theorem D5_431 : decode method_5_code 431 = .ok (.castore, 1) := by decide +kernel
theorem D5_432 : decode method_5_code 432 = .ok (.dup, 1) := by decide +kernel
theorem D5_433 : decode method_5_code 433 = .ok (.iconst 2, 1) := by decide +kernel
theorem D5_434 : decode method_5_code 434 = .ok (.bipush 105, 2) := by decide +kernel
theorem D5_436 : decode method_5_code 436 = .ok (.castore, 1) := by decide +kernel
theorem D5_437 : decode method_5_code 437 = .ok (.dup, 1) := by decide +kernel
theorem D5_438 : decode method_5_code 438 = .ok (.iconst 3, 1) := by decide +kernel
theorem D5_439 : decode method_5_code 439 = .ok (.bipush 101, 2) := by decide +kernel
theorem D5_441 : decode method_5_code 441 = .ok (.castore, 1) := by decide +kernel
theorem D5_442 : decode method_5_code 442 = .ok (.dup, 1) := by decide +kernel
theorem D5_443 : decode method_5_code 443 = .ok (.iconst 4, 1) := by decide +kernel
theorem D5_444 : decode method_5_code 444 = .ok (.bipush 110, 2) := by decide +kernel
theorem D5_446 : decode method_5_code 446 = .ok (.castore, 1) := by decide +kernel
theorem D5_447 : decode method_5_code 447 = .ok (.dup, 1) := by decide +kernel
theorem D5_448 : decode method_5_code 448 = .ok (.iconst 5, 1) := by decide +kernel
theorem D5_449 : decode method_5_code 449 = .ok (.bipush 116, 2) := by decide +kernel
theorem D5_451 : decode method_5_code 451 = .ok (.castore, 1) := by decide +kernel
theorem D5_452 : decode method_5_code 452 = .ok (.dup, 1) := by decide +kernel
theorem D5_453 : decode method_5_code 453 = .ok (.bipush 6, 2) := by decide +kernel
theorem D5_455 : decode method_5_code 455 = .ok (.bipush 45, 2) := by decide +kernel
theorem D5_457 : decode method_5_code 457 = .ok (.castore, 1) := by decide +kernel
theorem D5_458 : decode method_5_code 458 = .ok (.dup, 1) := by decide +kernel
theorem D5_459 : decode method_5_code 459 = .ok (.bipush 7, 2) := by decide +kernel
theorem D5_461 : decode method_5_code 461 = .ok (.bipush 105, 2) := by decide +kernel
theorem D5_463 : decode method_5_code 463 = .ok (.castore, 1) := by decide +kernel
theorem D5_464 : decode method_5_code 464 = .ok (.dup, 1) := by decide +kernel
theorem D5_465 : decode method_5_code 465 = .ok (.bipush 8, 2) := by decide +kernel
theorem D5_467 : decode method_5_code 467 = .ok (.bipush 110, 2) := by decide +kernel
theorem D5_469 : decode method_5_code 469 = .ok (.castore, 1) := by decide +kernel
theorem D5_470 : decode method_5_code 470 = .ok (.dup, 1) := by decide +kernel
theorem D5_471 : decode method_5_code 471 = .ok (.bipush 9, 2) := by decide +kernel
theorem D5_473 : decode method_5_code 473 = .ok (.bipush 100, 2) := by decide +kernel
theorem D5_475 : decode method_5_code 475 = .ok (.castore, 1) := by decide +kernel
theorem D5_476 : decode method_5_code 476 = .ok (.dup, 1) := by decide +kernel
theorem D5_477 : decode method_5_code 477 = .ok (.bipush 10, 2) := by decide +kernel
theorem D5_479 : decode method_5_code 479 = .ok (.bipush 105, 2) := by decide +kernel
theorem D5_481 : decode method_5_code 481 = .ok (.castore, 1) := by decide +kernel
theorem D5_482 : decode method_5_code 482 = .ok (.dup, 1) := by decide +kernel
theorem D5_483 : decode method_5_code 483 = .ok (.bipush 11, 2) := by decide +kernel
theorem D5_485 : decode method_5_code 485 = .ok (.bipush 118, 2) := by decide +kernel
theorem D5_487 : decode method_5_code 487 = .ok (.castore, 1) := by decide +kernel
theorem D5_488 : decode method_5_code 488 = .ok (.dup, 1) := by decide +kernel
theorem D5_489 : decode method_5_code 489 = .ok (.bipush 12, 2) := by decide +kernel
theorem D5_491 : decode method_5_code 491 = .ok (.bipush 105, 2) := by decide +kernel
theorem D5_493 : decode method_5_code 493 = .ok (.castore, 1) := by decide +kernel
theorem D5_494 : decode method_5_code 494 = .ok (.dup, 1) := by decide +kernel
theorem D5_495 : decode method_5_code 495 = .ok (.bipush 13, 2) := by decide +kernel
theorem D5_497 : decode method_5_code 497 = .ok (.bipush 100, 2) := by decide +kernel
theorem D5_499 : decode method_5_code 499 = .ok (.castore, 1) := by decide +kernel
theorem D5_500 : decode method_5_code 500 = .ok (.dup, 1) := by decide +kernel
theorem D5_501 : decode method_5_code 501 = .ok (.bipush 14, 2) := by decide +kernel
theorem D5_503 : decode method_5_code 503 = .ok (.bipush 117, 2) := by decide +kernel
theorem D5_505 : decode method_5_code 505 = .ok (.castore, 1) := by decide +kernel
theorem D5_506 : decode method_5_code 506 = .ok (.dup, 1) := by decide +kernel
theorem D5_507 : decode method_5_code 507 = .ok (.bipush 15, 2) := by decide +kernel
theorem D5_509 : decode method_5_code 509 = .ok (.bipush 97, 2) := by decide +kernel
theorem D5_511 : decode method_5_code 511 = .ok (.castore, 1) := by decide +kernel
theorem D5_512 : decode method_5_code 512 = .ok (.areturn, 1) := by decide +kernel
theorem D4_0 : decode method_4_code 0 = .ok (.iload_n 0, 1) := by decide +kernel
theorem D4_1 : decode method_4_code 1 = .ok (.newarray .char, 2) := by decide +kernel
theorem D4_3 : decode method_4_code 3 = .ok (.astore_n 2, 1) := by decide +kernel
theorem D4_4 : decode method_4_code 4 = .ok (.iload_n 0, 1) := by decide +kernel
theorem D4_5 : decode method_4_code 5 = .ok (.ifCond .le 12, 3) := by decide +kernel
theorem D4_17 : decode method_4_code 17 = .ok (.iload_n 0, 1) := by decide +kernel
theorem D4_18 : decode method_4_code 18 = .ok (.iconst 1, 1) := by decide +kernel
theorem D4_19 : decode method_4_code 19 = .ok (.if_icmp .le 15, 3) := by decide +kernel
theorem D4_34 : decode method_4_code 34 = .ok (.iload_n 0, 1) := by decide +kernel
theorem D4_35 : decode method_4_code 35 = .ok (.iconst 2, 1) := by decide +kernel
theorem D4_36 : decode method_4_code 36 = .ok (.if_icmp .le 15, 3) := by decide +kernel
theorem D4_51 : decode method_4_code 51 = .ok (.iload_n 0, 1) := by decide +kernel
theorem D4_52 : decode method_4_code 52 = .ok (.iconst 3, 1) := by decide +kernel
theorem D4_53 : decode method_4_code 53 = .ok (.if_icmp .le 15, 3) := by decide +kernel
theorem D4_68 : decode method_4_code 68 = .ok (.aload_n 2, 1) := by decide +kernel
theorem D4_69 : decode method_4_code 69 = .ok (.areturn, 1) := by decide +kernel
theorem D1_0 : decode jdk_42_method_3_code 0 = .ok (.aload_n 0, 1) := by decide +kernel
theorem D1_1 : decode jdk_42_method_3_code 1 = .ok (.aload_n 1, 1) := by decide +kernel
theorem D1_2 : decode jdk_42_method_3_code 2 = .ok (.iconst 0, 1) := by decide +kernel
theorem D1_3 : decode jdk_42_method_3_code 3 = .ok (.aload_n 1, 1) := by decide +kernel
theorem D1_4 : decode jdk_42_method_3_code 4 = .ok (.arraylength, 1) := by decide +kernel
theorem D1_5 : decode jdk_42_method_3_code 5 = .ok (.aconst_null, 1) := by decide +kernel
theorem D1_6 : decode jdk_42_method_3_code 6 = .ok (.invokespecial 27, 3) := by decide +kernel
theorem D0_0 : decode jdk_42_method_149_code 0 = .ok (.aload_n 0, 1) := by decide +kernel
theorem D0_1 : decode jdk_42_method_149_code 1 = .ok (.invokespecial 1, 3) := by decide +kernel
theorem D0_4 : decode jdk_42_method_149_code 4 = .ok (.iload_n 3, 1) := by decide +kernel
theorem D0_5 : decode jdk_42_method_149_code 5 = .ok (.ifCond .ne 22, 3) := by decide +kernel
theorem D0_8 : decode jdk_42_method_149_code 8 = .ok (.aload_n 0, 1) := by decide +kernel
theorem D0_9 : decode jdk_42_method_149_code 9 = .ok (.ldc 7, 2) := by decide +kernel
theorem D0_11 : decode jdk_42_method_149_code 11 = .ok (.getfield 9, 3) := by decide +kernel
theorem D0_14 : decode jdk_42_method_149_code 14 = .ok (.putfield 9, 3) := by decide +kernel
theorem D0_17 : decode jdk_42_method_149_code 17 = .ok (.aload_n 0, 1) := by decide +kernel
theorem D0_18 : decode jdk_42_method_149_code 18 = .ok (.ldc 7, 2) := by decide +kernel
theorem D0_20 : decode jdk_42_method_149_code 20 = .ok (.getfield 15, 3) := by decide +kernel
theorem D0_23 : decode jdk_42_method_149_code 23 = .ok (.putfield 15, 3) := by decide +kernel
theorem D0_26 : decode jdk_42_method_149_code 26 = .ok (.return_, 1) := by decide +kernel
theorem D1_9 : decode jdk_42_method_3_code 9 = .ok (.return_, 1) := by decide +kernel
theorem D4_8 : decode method_4_code 8 = .ok (.aload_n 2, 1) := by decide +kernel
theorem D4_9 : decode method_4_code 9 = .ok (.iconst 0, 1) := by decide +kernel
theorem D4_10 : decode method_4_code 10 = .ok (.iload_n 1, 1) := by decide +kernel
theorem D4_11 : decode method_4_code 11 = .ok (.sipush 255, 3) := by decide +kernel
theorem D4_14 : decode method_4_code 14 = .ok (.iand, 1) := by decide +kernel
theorem D4_15 : decode method_4_code 15 = .ok (.i2c, 1) := by decide +kernel
theorem D4_16 : decode method_4_code 16 = .ok (.castore, 1) := by decide +kernel
theorem D4_22 : decode method_4_code 22 = .ok (.aload_n 2, 1) := by decide +kernel
theorem D4_23 : decode method_4_code 23 = .ok (.iconst 1, 1) := by decide +kernel
theorem D4_24 : decode method_4_code 24 = .ok (.iload_n 1, 1) := by decide +kernel
theorem D4_25 : decode method_4_code 25 = .ok (.bipush 8, 2) := by decide +kernel
theorem D4_27 : decode method_4_code 27 = .ok (.iushr, 1) := by decide +kernel
theorem D4_28 : decode method_4_code 28 = .ok (.sipush 255, 3) := by decide +kernel
theorem D4_31 : decode method_4_code 31 = .ok (.iand, 1) := by decide +kernel
theorem D4_32 : decode method_4_code 32 = .ok (.i2c, 1) := by decide +kernel
theorem D4_33 : decode method_4_code 33 = .ok (.castore, 1) := by decide +kernel
theorem D4_39 : decode method_4_code 39 = .ok (.aload_n 2, 1) := by decide +kernel
theorem D4_40 : decode method_4_code 40 = .ok (.iconst 2, 1) := by decide +kernel
theorem D4_41 : decode method_4_code 41 = .ok (.iload_n 1, 1) := by decide +kernel
theorem D4_42 : decode method_4_code 42 = .ok (.bipush 16, 2) := by decide +kernel
theorem D4_44 : decode method_4_code 44 = .ok (.iushr, 1) := by decide +kernel
theorem D4_45 : decode method_4_code 45 = .ok (.sipush 255, 3) := by decide +kernel
theorem D4_48 : decode method_4_code 48 = .ok (.iand, 1) := by decide +kernel
theorem D4_49 : decode method_4_code 49 = .ok (.i2c, 1) := by decide +kernel
theorem D4_50 : decode method_4_code 50 = .ok (.castore, 1) := by decide +kernel
theorem D4_56 : decode method_4_code 56 = .ok (.aload_n 2, 1) := by decide +kernel
theorem D4_57 : decode method_4_code 57 = .ok (.iconst 3, 1) := by decide +kernel
theorem D4_58 : decode method_4_code 58 = .ok (.iload_n 1, 1) := by decide +kernel
theorem D4_59 : decode method_4_code 59 = .ok (.bipush 24, 2) := by decide +kernel
theorem D4_61 : decode method_4_code 61 = .ok (.iushr, 1) := by decide +kernel
theorem D4_62 : decode method_4_code 62 = .ok (.sipush 255, 3) := by decide +kernel
theorem D4_65 : decode method_4_code 65 = .ok (.iand, 1) := by decide +kernel
theorem D4_66 : decode method_4_code 66 = .ok (.i2c, 1) := by decide +kernel
theorem D4_67 : decode method_4_code 67 = .ok (.castore, 1) := by decide +kernel
theorem D2_0 : decode jdk_42_method_66_code 0 = .ok (.aload_n 0, 1) := by decide +kernel
theorem D2_1 : decode jdk_42_method_66_code 1 = .ok (.aload_n 1, 1) := by decide +kernel
theorem D2_2 : decode jdk_42_method_66_code 2 = .ok (.if_acmp .ne 5, 3) := by decide +kernel
theorem D2_7 : decode jdk_42_method_66_code 7 = .ok (.aload_n 1, 1) := by decide +kernel
theorem D2_8 : decode jdk_42_method_66_code 8 = .ok (.instanceof 10, 3) := by decide +kernel
theorem D2_11 : decode jdk_42_method_66_code 11 = .ok (.ifCond .eq 43, 3) := by decide +kernel
theorem D2_54 : decode jdk_42_method_66_code 54 = .ok (.iconst 0, 1) := by decide +kernel
theorem D2_55 : decode jdk_42_method_66_code 55 = .ok (.ireturn, 1) := by decide +kernel
theorem D3_4 : decode method_3_code 4 = .ok (.aconst_null, 1) := by decide +kernel
theorem D3_5 : decode method_3_code 5 = .ok (.areturn, 1) := by decide +kernel
theorem own_r1 (x : Int32) : (x &&& 2147483647) % 1 = 0 := by
  obtain ⟨h1, h2⟩ := own_rem (x := x) (k := 1) (by decide)
  have e : (1 : Int32).toInt = 1 := rfl
  rw [e] at h2
  generalize (x &&& 2147483647) % 1 = k at h1 h2
  have key : ∀ j : Int32, k.toInt = j.toInt → k = j := fun j h => Int32.toInt_inj.mp h
  have hs : k.toInt = 0 := by omega
  exact key 0 hs
theorem own_r2 (x : Int32) : (x &&& 2147483647) % 2 = 0 ∨ (x &&& 2147483647) % 2 = 1 := by
  obtain ⟨h1, h2⟩ := own_rem (x := x) (k := 2) (by decide)
  have e : (2 : Int32).toInt = 2 := rfl
  rw [e] at h2
  generalize (x &&& 2147483647) % 2 = k at h1 h2
  have key : ∀ j : Int32, k.toInt = j.toInt → k = j := fun j h => Int32.toInt_inj.mp h
  have hs : k.toInt = 0 ∨ k.toInt = 1 := by omega
  rcases hs with h | h
  · exact (Or.inl (key 0 h))
  · exact (Or.inr (key 1 h))
theorem own_r3 (x : Int32) : (x &&& 2147483647) % 3 = 0 ∨ (x &&& 2147483647) % 3 = 1 ∨ (x &&& 2147483647) % 3 = 2 := by
  obtain ⟨h1, h2⟩ := own_rem (x := x) (k := 3) (by decide)
  have e : (3 : Int32).toInt = 3 := rfl
  rw [e] at h2
  generalize (x &&& 2147483647) % 3 = k at h1 h2
  have key : ∀ j : Int32, k.toInt = j.toInt → k = j := fun j h => Int32.toInt_inj.mp h
  have hs : k.toInt = 0 ∨ k.toInt = 1 ∨ k.toInt = 2 := by omega
  rcases hs with h | h | h
  · exact (Or.inl (key 0 h))
  · exact (Or.inr (Or.inl (key 1 h)))
  · exact (Or.inr (Or.inr (key 2 h)))
theorem own_r4 (x : Int32) : (x &&& 2147483647) % 4 = 0 ∨ (x &&& 2147483647) % 4 = 1 ∨ (x &&& 2147483647) % 4 = 2 ∨ (x &&& 2147483647) % 4 = 3 := by
  obtain ⟨h1, h2⟩ := own_rem (x := x) (k := 4) (by decide)
  have e : (4 : Int32).toInt = 4 := rfl
  rw [e] at h2
  generalize (x &&& 2147483647) % 4 = k at h1 h2
  have key : ∀ j : Int32, k.toInt = j.toInt → k = j := fun j h => Int32.toInt_inj.mp h
  have hs : k.toInt = 0 ∨ k.toInt = 1 ∨ k.toInt = 2 ∨ k.toInt = 3 := by omega
  rcases hs with h | h | h | h
  · exact (Or.inl (key 0 h))
  · exact (Or.inr (Or.inl (key 1 h)))
  · exact (Or.inr (Or.inr (Or.inl (key 2 h))))
  · exact (Or.inr (Or.inr (Or.inr (key 3 h))))
theorem own_r5 (x : Int32) : (x &&& 2147483647) % 5 = 0 ∨ (x &&& 2147483647) % 5 = 1 ∨ (x &&& 2147483647) % 5 = 2 ∨ (x &&& 2147483647) % 5 = 3 ∨ (x &&& 2147483647) % 5 = 4 := by
  obtain ⟨h1, h2⟩ := own_rem (x := x) (k := 5) (by decide)
  have e : (5 : Int32).toInt = 5 := rfl
  rw [e] at h2
  generalize (x &&& 2147483647) % 5 = k at h1 h2
  have key : ∀ j : Int32, k.toInt = j.toInt → k = j := fun j h => Int32.toInt_inj.mp h
  have hs : k.toInt = 0 ∨ k.toInt = 1 ∨ k.toInt = 2 ∨ k.toInt = 3 ∨ k.toInt = 4 := by omega
  rcases hs with h | h | h | h | h
  · exact (Or.inl (key 0 h))
  · exact (Or.inr (Or.inl (key 1 h)))
  · exact (Or.inr (Or.inr (Or.inl (key 2 h))))
  · exact (Or.inr (Or.inr (Or.inr (Or.inl (key 3 h)))))
  · exact (Or.inr (Or.inr (Or.inr (Or.inr (key 4 h)))))
theorem own_r6 (x : Int32) : (x &&& 2147483647) % 6 = 0 ∨ (x &&& 2147483647) % 6 = 1 ∨ (x &&& 2147483647) % 6 = 2 ∨ (x &&& 2147483647) % 6 = 3 ∨ (x &&& 2147483647) % 6 = 4 ∨ (x &&& 2147483647) % 6 = 5 := by
  obtain ⟨h1, h2⟩ := own_rem (x := x) (k := 6) (by decide)
  have e : (6 : Int32).toInt = 6 := rfl
  rw [e] at h2
  generalize (x &&& 2147483647) % 6 = k at h1 h2
  have key : ∀ j : Int32, k.toInt = j.toInt → k = j := fun j h => Int32.toInt_inj.mp h
  have hs : k.toInt = 0 ∨ k.toInt = 1 ∨ k.toInt = 2 ∨ k.toInt = 3 ∨ k.toInt = 4 ∨ k.toInt = 5 := by omega
  rcases hs with h | h | h | h | h | h
  · exact (Or.inl (key 0 h))
  · exact (Or.inr (Or.inl (key 1 h)))
  · exact (Or.inr (Or.inr (Or.inl (key 2 h))))
  · exact (Or.inr (Or.inr (Or.inr (Or.inl (key 3 h)))))
  · exact (Or.inr (Or.inr (Or.inr (Or.inr (Or.inl (key 4 h))))))
  · exact (Or.inr (Or.inr (Or.inr (Or.inr (Or.inr (key 5 h))))))
theorem own_r7 (x : Int32) : (x &&& 2147483647) % 7 = 0 ∨ (x &&& 2147483647) % 7 = 1 ∨ (x &&& 2147483647) % 7 = 2 ∨ (x &&& 2147483647) % 7 = 3 ∨ (x &&& 2147483647) % 7 = 4 ∨ (x &&& 2147483647) % 7 = 5 ∨ (x &&& 2147483647) % 7 = 6 := by
  obtain ⟨h1, h2⟩ := own_rem (x := x) (k := 7) (by decide)
  have e : (7 : Int32).toInt = 7 := rfl
  rw [e] at h2
  generalize (x &&& 2147483647) % 7 = k at h1 h2
  have key : ∀ j : Int32, k.toInt = j.toInt → k = j := fun j h => Int32.toInt_inj.mp h
  have hs : k.toInt = 0 ∨ k.toInt = 1 ∨ k.toInt = 2 ∨ k.toInt = 3 ∨ k.toInt = 4 ∨ k.toInt = 5 ∨ k.toInt = 6 := by omega
  rcases hs with h | h | h | h | h | h | h
  · exact (Or.inl (key 0 h))
  · exact (Or.inr (Or.inl (key 1 h)))
  · exact (Or.inr (Or.inr (Or.inl (key 2 h))))
  · exact (Or.inr (Or.inr (Or.inr (Or.inl (key 3 h)))))
  · exact (Or.inr (Or.inr (Or.inr (Or.inr (Or.inl (key 4 h))))))
  · exact (Or.inr (Or.inr (Or.inr (Or.inr (Or.inr (Or.inl (key 5 h)))))))
  · exact (Or.inr (Or.inr (Or.inr (Or.inr (Or.inr (Or.inr (key 6 h)))))))
theorem own_r16 (x : Int32) : (x &&& 2147483647) % 16 = 0 ∨ (x &&& 2147483647) % 16 = 1 ∨ (x &&& 2147483647) % 16 = 2 ∨ (x &&& 2147483647) % 16 = 3 ∨ (x &&& 2147483647) % 16 = 4 ∨ (x &&& 2147483647) % 16 = 5 ∨ (x &&& 2147483647) % 16 = 6 ∨ (x &&& 2147483647) % 16 = 7 ∨ (x &&& 2147483647) % 16 = 8 ∨ (x &&& 2147483647) % 16 = 9 ∨ (x &&& 2147483647) % 16 = 10 ∨ (x &&& 2147483647) % 16 = 11 ∨ (x &&& 2147483647) % 16 = 12 ∨ (x &&& 2147483647) % 16 = 13 ∨ (x &&& 2147483647) % 16 = 14 ∨ (x &&& 2147483647) % 16 = 15 := by
  obtain ⟨h1, h2⟩ := own_rem (x := x) (k := 16) (by decide)
  have e : (16 : Int32).toInt = 16 := rfl
  rw [e] at h2
  generalize (x &&& 2147483647) % 16 = k at h1 h2
  have key : ∀ j : Int32, k.toInt = j.toInt → k = j := fun j h => Int32.toInt_inj.mp h
  have hs : k.toInt = 0 ∨ k.toInt = 1 ∨ k.toInt = 2 ∨ k.toInt = 3 ∨ k.toInt = 4 ∨ k.toInt = 5 ∨ k.toInt = 6 ∨ k.toInt = 7 ∨ k.toInt = 8 ∨ k.toInt = 9 ∨ k.toInt = 10 ∨ k.toInt = 11 ∨ k.toInt = 12 ∨ k.toInt = 13 ∨ k.toInt = 14 ∨ k.toInt = 15 := by omega
  rcases hs with h | h | h | h | h | h | h | h | h | h | h | h | h | h | h | h
  · exact (Or.inl (key 0 h))
  · exact (Or.inr (Or.inl (key 1 h)))
  · exact (Or.inr (Or.inr (Or.inl (key 2 h))))
  · exact (Or.inr (Or.inr (Or.inr (Or.inl (key 3 h)))))
  · exact (Or.inr (Or.inr (Or.inr (Or.inr (Or.inl (key 4 h))))))
  · exact (Or.inr (Or.inr (Or.inr (Or.inr (Or.inr (Or.inl (key 5 h)))))))
  · exact (Or.inr (Or.inr (Or.inr (Or.inr (Or.inr (Or.inr (Or.inl (key 6 h))))))))
  · exact (Or.inr (Or.inr (Or.inr (Or.inr (Or.inr (Or.inr (Or.inr (Or.inl (key 7 h)))))))))
  · exact (Or.inr (Or.inr (Or.inr (Or.inr (Or.inr (Or.inr (Or.inr (Or.inr (Or.inl (key 8 h))))))))))
  · exact (Or.inr (Or.inr (Or.inr (Or.inr (Or.inr (Or.inr (Or.inr (Or.inr (Or.inr (Or.inl (key 9 h)))))))))))
  · exact (Or.inr (Or.inr (Or.inr (Or.inr (Or.inr (Or.inr (Or.inr (Or.inr (Or.inr (Or.inr (Or.inl (key 10 h))))))))))))
  · exact (Or.inr (Or.inr (Or.inr (Or.inr (Or.inr (Or.inr (Or.inr (Or.inr (Or.inr (Or.inr (Or.inr (Or.inl (key 11 h)))))))))))))
  · exact (Or.inr (Or.inr (Or.inr (Or.inr (Or.inr (Or.inr (Or.inr (Or.inr (Or.inr (Or.inr (Or.inr (Or.inr (Or.inl (key 12 h))))))))))))))
  · exact (Or.inr (Or.inr (Or.inr (Or.inr (Or.inr (Or.inr (Or.inr (Or.inr (Or.inr (Or.inr (Or.inr (Or.inr (Or.inr (Or.inl (key 13 h)))))))))))))))
  · exact (Or.inr (Or.inr (Or.inr (Or.inr (Or.inr (Or.inr (Or.inr (Or.inr (Or.inr (Or.inr (Or.inr (Or.inr (Or.inr (Or.inr (Or.inl (key 14 h))))))))))))))))
  · exact (Or.inr (Or.inr (Or.inr (Or.inr (Or.inr (Or.inr (Or.inr (Or.inr (Or.inr (Or.inr (Or.inr (Or.inr (Or.inr (Or.inr (Or.inr (key 15 h))))))))))))))))
theorem own_r17 (x : Int32) : (x &&& 2147483647) % 17 = 0 ∨ (x &&& 2147483647) % 17 = 1 ∨ (x &&& 2147483647) % 17 = 2 ∨ (x &&& 2147483647) % 17 = 3 ∨ (x &&& 2147483647) % 17 = 4 ∨ (x &&& 2147483647) % 17 = 5 ∨ (x &&& 2147483647) % 17 = 6 ∨ (x &&& 2147483647) % 17 = 7 ∨ (x &&& 2147483647) % 17 = 8 ∨ (x &&& 2147483647) % 17 = 9 ∨ (x &&& 2147483647) % 17 = 10 ∨ (x &&& 2147483647) % 17 = 11 ∨ (x &&& 2147483647) % 17 = 12 ∨ (x &&& 2147483647) % 17 = 13 ∨ (x &&& 2147483647) % 17 = 14 ∨ (x &&& 2147483647) % 17 = 15 ∨ (x &&& 2147483647) % 17 = 16 := by
  obtain ⟨h1, h2⟩ := own_rem (x := x) (k := 17) (by decide)
  have e : (17 : Int32).toInt = 17 := rfl
  rw [e] at h2
  generalize (x &&& 2147483647) % 17 = k at h1 h2
  have key : ∀ j : Int32, k.toInt = j.toInt → k = j := fun j h => Int32.toInt_inj.mp h
  have hs : k.toInt = 0 ∨ k.toInt = 1 ∨ k.toInt = 2 ∨ k.toInt = 3 ∨ k.toInt = 4 ∨ k.toInt = 5 ∨ k.toInt = 6 ∨ k.toInt = 7 ∨ k.toInt = 8 ∨ k.toInt = 9 ∨ k.toInt = 10 ∨ k.toInt = 11 ∨ k.toInt = 12 ∨ k.toInt = 13 ∨ k.toInt = 14 ∨ k.toInt = 15 ∨ k.toInt = 16 := by omega
  rcases hs with h | h | h | h | h | h | h | h | h | h | h | h | h | h | h | h | h
  · exact (Or.inl (key 0 h))
  · exact (Or.inr (Or.inl (key 1 h)))
  · exact (Or.inr (Or.inr (Or.inl (key 2 h))))
  · exact (Or.inr (Or.inr (Or.inr (Or.inl (key 3 h)))))
  · exact (Or.inr (Or.inr (Or.inr (Or.inr (Or.inl (key 4 h))))))
  · exact (Or.inr (Or.inr (Or.inr (Or.inr (Or.inr (Or.inl (key 5 h)))))))
  · exact (Or.inr (Or.inr (Or.inr (Or.inr (Or.inr (Or.inr (Or.inl (key 6 h))))))))
  · exact (Or.inr (Or.inr (Or.inr (Or.inr (Or.inr (Or.inr (Or.inr (Or.inl (key 7 h)))))))))
  · exact (Or.inr (Or.inr (Or.inr (Or.inr (Or.inr (Or.inr (Or.inr (Or.inr (Or.inl (key 8 h))))))))))
  · exact (Or.inr (Or.inr (Or.inr (Or.inr (Or.inr (Or.inr (Or.inr (Or.inr (Or.inr (Or.inl (key 9 h)))))))))))
  · exact (Or.inr (Or.inr (Or.inr (Or.inr (Or.inr (Or.inr (Or.inr (Or.inr (Or.inr (Or.inr (Or.inl (key 10 h))))))))))))
  · exact (Or.inr (Or.inr (Or.inr (Or.inr (Or.inr (Or.inr (Or.inr (Or.inr (Or.inr (Or.inr (Or.inr (Or.inl (key 11 h)))))))))))))
  · exact (Or.inr (Or.inr (Or.inr (Or.inr (Or.inr (Or.inr (Or.inr (Or.inr (Or.inr (Or.inr (Or.inr (Or.inr (Or.inl (key 12 h))))))))))))))
  · exact (Or.inr (Or.inr (Or.inr (Or.inr (Or.inr (Or.inr (Or.inr (Or.inr (Or.inr (Or.inr (Or.inr (Or.inr (Or.inr (Or.inl (key 13 h)))))))))))))))
  · exact (Or.inr (Or.inr (Or.inr (Or.inr (Or.inr (Or.inr (Or.inr (Or.inr (Or.inr (Or.inr (Or.inr (Or.inr (Or.inr (Or.inr (Or.inl (key 14 h))))))))))))))))
  · exact (Or.inr (Or.inr (Or.inr (Or.inr (Or.inr (Or.inr (Or.inr (Or.inr (Or.inr (Or.inr (Or.inr (Or.inr (Or.inr (Or.inr (Or.inr (Or.inl (key 15 h)))))))))))))))))
  · exact (Or.inr (Or.inr (Or.inr (Or.inr (Or.inr (Or.inr (Or.inr (Or.inr (Or.inr (Or.inr (Or.inr (Or.inr (Or.inr (Or.inr (Or.inr (Or.inr (key 16 h)))))))))))))))))
theorem own_r18 (x : Int32) : (x &&& 2147483647) % 18 = 0 ∨ (x &&& 2147483647) % 18 = 1 ∨ (x &&& 2147483647) % 18 = 2 ∨ (x &&& 2147483647) % 18 = 3 ∨ (x &&& 2147483647) % 18 = 4 ∨ (x &&& 2147483647) % 18 = 5 ∨ (x &&& 2147483647) % 18 = 6 ∨ (x &&& 2147483647) % 18 = 7 ∨ (x &&& 2147483647) % 18 = 8 ∨ (x &&& 2147483647) % 18 = 9 ∨ (x &&& 2147483647) % 18 = 10 ∨ (x &&& 2147483647) % 18 = 11 ∨ (x &&& 2147483647) % 18 = 12 ∨ (x &&& 2147483647) % 18 = 13 ∨ (x &&& 2147483647) % 18 = 14 ∨ (x &&& 2147483647) % 18 = 15 ∨ (x &&& 2147483647) % 18 = 16 ∨ (x &&& 2147483647) % 18 = 17 := by
  obtain ⟨h1, h2⟩ := own_rem (x := x) (k := 18) (by decide)
  have e : (18 : Int32).toInt = 18 := rfl
  rw [e] at h2
  generalize (x &&& 2147483647) % 18 = k at h1 h2
  have key : ∀ j : Int32, k.toInt = j.toInt → k = j := fun j h => Int32.toInt_inj.mp h
  have hs : k.toInt = 0 ∨ k.toInt = 1 ∨ k.toInt = 2 ∨ k.toInt = 3 ∨ k.toInt = 4 ∨ k.toInt = 5 ∨ k.toInt = 6 ∨ k.toInt = 7 ∨ k.toInt = 8 ∨ k.toInt = 9 ∨ k.toInt = 10 ∨ k.toInt = 11 ∨ k.toInt = 12 ∨ k.toInt = 13 ∨ k.toInt = 14 ∨ k.toInt = 15 ∨ k.toInt = 16 ∨ k.toInt = 17 := by omega
  rcases hs with h | h | h | h | h | h | h | h | h | h | h | h | h | h | h | h | h | h
  · exact (Or.inl (key 0 h))
  · exact (Or.inr (Or.inl (key 1 h)))
  · exact (Or.inr (Or.inr (Or.inl (key 2 h))))
  · exact (Or.inr (Or.inr (Or.inr (Or.inl (key 3 h)))))
  · exact (Or.inr (Or.inr (Or.inr (Or.inr (Or.inl (key 4 h))))))
  · exact (Or.inr (Or.inr (Or.inr (Or.inr (Or.inr (Or.inl (key 5 h)))))))
  · exact (Or.inr (Or.inr (Or.inr (Or.inr (Or.inr (Or.inr (Or.inl (key 6 h))))))))
  · exact (Or.inr (Or.inr (Or.inr (Or.inr (Or.inr (Or.inr (Or.inr (Or.inl (key 7 h)))))))))
  · exact (Or.inr (Or.inr (Or.inr (Or.inr (Or.inr (Or.inr (Or.inr (Or.inr (Or.inl (key 8 h))))))))))
  · exact (Or.inr (Or.inr (Or.inr (Or.inr (Or.inr (Or.inr (Or.inr (Or.inr (Or.inr (Or.inl (key 9 h)))))))))))
  · exact (Or.inr (Or.inr (Or.inr (Or.inr (Or.inr (Or.inr (Or.inr (Or.inr (Or.inr (Or.inr (Or.inl (key 10 h))))))))))))
  · exact (Or.inr (Or.inr (Or.inr (Or.inr (Or.inr (Or.inr (Or.inr (Or.inr (Or.inr (Or.inr (Or.inr (Or.inl (key 11 h)))))))))))))
  · exact (Or.inr (Or.inr (Or.inr (Or.inr (Or.inr (Or.inr (Or.inr (Or.inr (Or.inr (Or.inr (Or.inr (Or.inr (Or.inl (key 12 h))))))))))))))
  · exact (Or.inr (Or.inr (Or.inr (Or.inr (Or.inr (Or.inr (Or.inr (Or.inr (Or.inr (Or.inr (Or.inr (Or.inr (Or.inr (Or.inl (key 13 h)))))))))))))))
  · exact (Or.inr (Or.inr (Or.inr (Or.inr (Or.inr (Or.inr (Or.inr (Or.inr (Or.inr (Or.inr (Or.inr (Or.inr (Or.inr (Or.inr (Or.inl (key 14 h))))))))))))))))
  · exact (Or.inr (Or.inr (Or.inr (Or.inr (Or.inr (Or.inr (Or.inr (Or.inr (Or.inr (Or.inr (Or.inr (Or.inr (Or.inr (Or.inr (Or.inr (Or.inl (key 15 h)))))))))))))))))
  · exact (Or.inr (Or.inr (Or.inr (Or.inr (Or.inr (Or.inr (Or.inr (Or.inr (Or.inr (Or.inr (Or.inr (Or.inr (Or.inr (Or.inr (Or.inr (Or.inr (Or.inl (key 16 h))))))))))))))))))
  · exact (Or.inr (Or.inr (Or.inr (Or.inr (Or.inr (Or.inr (Or.inr (Or.inr (Or.inr (Or.inr (Or.inr (Or.inr (Or.inr (Or.inr (Or.inr (Or.inr (Or.inr (key 17 h))))))))))))))))))
set_option maxRecDepth 65536 in
set_option maxHeartbeats 40000000 in
theorem m1_base (V : Env1 Z a0 n0 uu0 uu1 uu2 uu3 uu4 uu5 uu6 uu7 uu8 uu9 uu10 uu11 uu12 uu13 uu14 uu15) (x0 : Int32) (h0 : Heap) (hO : Old Z n0 h0)  :
    Met Z a0 ELs True n0 l (⟨"bindery/server/stomp/AckModeNamedPinLaw", "base", "(IIC)[C"⟩ : MethodName) method_5_code 3 (Option.some (FieldType.array FieldType.char)) ({ frames := 0, cells := 1, slots := 4, locals := 0 } : Room) #[(.int 0), (.int 0), (.int x0)] h0 [] (fun v h so => (∃ a2 : Addr, ∃ k5 : ClassId, v = some (.ref a2) ∧ so = [] ∧ Keep h0 h [] ∧ h0.size ≤ a2 ∧ Arv Z h a2 k5 .char 4 [(.int 97), (.int 117), (.int 116), (.int 111)] (.int 0) ∧ Exa Z h a2 "[C")) := by
  refine Met.of (EWl V) (by first | decide +kernel | rfl) hO (L0 := #[.val (.int 0), .val (.int 0), .val (.int x0)]) rfl ?_
  intro p e s m below meth c T H
  show Go p e below _ (T.setTop (mkF m 0 #[.val (.int 0), .val (.int 0), .val (.int x0)] []))
  refine G.iloadN H D5_0 (pc' := 1) rfl rfl ?_
  refine G.ifNo H D5_1 (pc' := 4) rfl (by decide) ?_
  refine G.iloadN H D5_4 (pc' := 5) rfl rfl ?_
  refine G.ifNo H D5_5 (pc' := 8) rfl (by decide) ?_
  refine G.iconst H D5_8 (pc' := 9) rfl (v := 4) rfl ?_
  refine G.newP H (aty := .char) (wd5 V) D5_9 (pc' := 11) rfl (by decide) (cap := 4) (by decide) (by decide) (by decide) (by decide) (vs := [(.int 0), (.int 0), (.int 0), (.int 0)]) rfl (ad := "[C") rfl ?_
  intro T1 h1_ a2 k5 ga2 H1 E3 A4 X6
  have na2 := H.nle ga2
  replace A4 : Arv Z h1_ a2 k5 .char 4 [(.int 0), (.int 0), (.int 0), (.int 0)] (.int 0) := A4
  refine G.dup H1 D5_11 (pc' := 12) rfl rfl ?_
  refine G.iconst H1 D5_12 (pc' := 13) rfl (v := 0) rfl ?_
  refine G.bipush H1 D5_13 (pc' := 15) rfl (v := 97) rfl ?_
  refine G.stC H1 A4 (by decide) (i := 0) rfl lB na2 (y := 97) rfl D5_15 (pc' := 16) rfl ?_
  intro T7 h7_ H7 W8 A9
  replace A9 : Arv Z h7_ a2 k5 .char 4 [(.int 97), (.int 0), (.int 0), (.int 0)] (.int 0) := A9
  refine G.dup H7 D5_16 (pc' := 17) rfl rfl ?_
  refine G.iconst H7 D5_17 (pc' := 18) rfl (v := 1) rfl ?_
  refine G.bipush H7 D5_18 (pc' := 20) rfl (v := 117) rfl ?_
  refine G.stC H7 A9 (by decide) (i := 1) rfl lB na2 (y := 117) rfl D5_20 (pc' := 21) rfl ?_
  intro T10 h10_ H10 W11 A12
  replace A12 : Arv Z h10_ a2 k5 .char 4 [(.int 97), (.int 117), (.int 0), (.int 0)] (.int 0) := A12
  refine G.dup H10 D5_21 (pc' := 22) rfl rfl ?_
  refine G.iconst H10 D5_22 (pc' := 23) rfl (v := 2) rfl ?_
  refine G.bipush H10 D5_23 (pc' := 25) rfl (v := 116) rfl ?_
  refine G.stC H10 A12 (by decide) (i := 2) rfl lB na2 (y := 116) rfl D5_25 (pc' := 26) rfl ?_
  intro T13 h13_ H13 W14 A15
  replace A15 : Arv Z h13_ a2 k5 .char 4 [(.int 97), (.int 117), (.int 116), (.int 0)] (.int 0) := A15
  refine G.dup H13 D5_26 (pc' := 27) rfl rfl ?_
  refine G.iconst H13 D5_27 (pc' := 28) rfl (v := 3) rfl ?_
  refine G.bipush H13 D5_28 (pc' := 30) rfl (v := 111) rfl ?_
  refine G.stC H13 A15 (by decide) (i := 3) rfl lB na2 (y := 111) rfl D5_30 (pc' := 31) rfl ?_
  intro T16 h16_ H16 W17 A18
  replace A18 : Arv Z h16_ a2 k5 .char 4 [(.int 97), (.int 117), (.int 116), (.int 111)] (.int 0) := A18
  have K19 : Keep h1_ h16_ [a2] := (Keep.wr (Keep.wr (Keep.wr (Keep.wr (Keep.refl h1_ [a2]) W8 (Or.inl (mG (i := 0) rfl))) W11 (Or.inl (mG (i := 0) rfl))) W14 (Or.inl (mG (i := 0) rfl))) W17 (Or.inl (mG (i := 0) rfl)))
  have F20 := (Exa.keep X6 K19)
  have K21 : Keep h0 h16_ [] := (Keep.wr (Keep.wr (Keep.wr (Keep.wr (Keep.ext (Keep.refl h0 []) E3) W8 (Or.inr (Nat.le_of_eq ga2.symm))) W11 (Or.inr (Nat.le_of_eq ga2.symm))) W14 (Or.inr (Nat.le_of_eq ga2.symm))) W17 (Or.inr (Nat.le_of_eq ga2.symm)))
  exact G.retA H16 (t := (.array .char)) rfl rfl rfl D5_31 (so := []) all0 (by decide) (by decide) ⟨a2, k5, rfl, rfl, K21, (Nat.le_of_eq ga2.symm), A18, F20⟩
set_option maxRecDepth 65536 in
set_option maxHeartbeats 40000000 in
theorem m2_values (V : Env1 Z a0 n0 uu0 uu1 uu2 uu3 uu4 uu5 uu6 uu7 uu8 uu9 uu10 uu11 uu12 uu13 uu14 uu15)  (h0 : Heap) (hO : Old Z n0 h0)  :
    Met Z a0 ELs True n0 l (⟨"bindery/server/stomp/StompConnection$AckMode", "values", "()[Lbindery/server/stomp/StompConnection$AckMode;"⟩ : MethodName) prog_93_method_1_code 0 (Option.some (FieldType.array (FieldType.object "bindery/server/stomp/StompConnection$AckMode"))) ({ frames := 1, cells := 1, slots := 3, locals := 14 } : Room) #[] h0 [] (fun v h so => (∃ a6 : Addr, ∃ uu10 : ClassId, v = some (.ref a6) ∧ so = [] ∧ Keep h0 h [] ∧ h0.size ≤ a6 ∧ Arv Z h a6 uu10 (.object "bindery/server/stomp/StompConnection$AckMode") 3 [(.ref uu1), (.ref uu2), (.ref uu3)] .null ∧ Exa Z h a6 "[Lbindery/server/stomp/StompConnection$AckMode;")) := by
  refine Met.of (EWl V) (by first | decide +kernel | rfl) hO (L0 := #[]) rfl ?_
  intro p e s m below meth c T H
  show Go p e below _ (T.setTop (mkF m 0 #[] []))
  refine G.getS H (wd42 V) Via.refl (Sta.ext H.old.2 (hv0 V)) D6_0 (pc' := 3) rfl ?_
  intro T1 H2
  have B3 := Exa.ext H2.old.2 (hv1 V)
  have B4 := Arv.ext (hv17 V) H2.old.2
  refine G.clone H2 (wd44 V) (wd45 V) (wd49 V) (wd47 V) (wd48 V) (wd50 V) B4 B3 (st := []) (W := 0) (cap := 3) rfl rfl D6_3 (pc' := 6) rfl (by decide) (by decide) (by decide) (by decide) (by decide) ?_
  intro T5 h5_ a6 ga6 H5 E7 A8 X9
  have na6 := H2.nle ga6
  refine G.castY H5 (wd55 V) (Ins.self X9) D6_6 (pc' := 9) rfl ?_
  intro T10 H11
  have K12 : Keep h0 h5_ [] := (Keep.ext (Keep.refl h0 []) E7)
  exact G.retA H11 (t := (.array (.object "bindery/server/stomp/StompConnection$AckMode"))) rfl rfl rfl D6_9 (so := []) all0 (by decide) (by decide) ⟨a6, uu10, rfl, rfl, K12, (Nat.le_of_eq ga6.symm), A8, X9⟩
set_option maxRecDepth 65536 in
set_option maxHeartbeats 40000000 in
theorem m3_named (V : Env1 Z a0 n0 uu0 uu1 uu2 uu3 uu4 uu5 uu6 uu7 uu8 uu9 uu10 uu11 uu12 uu13 uu14 uu15) (p0 : Addr) (p1 : Addr) (c0 : ClassId) (x0 : Int32) (x1 : Int32) (x2 : Int32) (x3 : Int32) (h0 : Heap) (hO : Old Z n0 h0) (f0 : Str Z h0 p0 p1 c0 [x0, x1, x2, x3]) :
    Met Z a0 ELs True n0 l (⟨"bindery/server/stomp/StompConnection$AckMode", "named", "(Ljava/lang/String;)Lbindery/server/stomp/StompConnection$AckMode;"⟩ : MethodName) prog_93_method_4_code 5 (Option.some (FieldType.object "bindery/server/stomp/StompConnection$AckMode")) ({ frames := 2, cells := 1, slots := 3, locals := 28 } : Room) #[(.ref p0)] h0 [] (fun v h so => ([97, 117, 116, 111] = [x0, x1, x2, x3] ∧ v = some (.ref uu1) ∧ so = [] ∧ Keep h0 h []) ∨ (¬ [97, 117, 116, 111] = [x0, x1, x2, x3] ∧ v = some .null ∧ so = [] ∧ Keep h0 h [])) := by
  refine Met.of (EWl V) (by first | decide +kernel | rfl) hO (L0 := #[.val (.ref p0), .unset, .unset, .unset, .unset]) rfl ?_
  intro p e s m below meth c T H
  show Go p e below _ (T.setTop (mkF m 0 #[.val (.ref p0), .unset, .unset, .unset, .unset] []))
  refine G.callS H (m2_values V h0 H.old) (wd39 V) (wd40 V) (wd37 V) (wd41 V) (by decide) (argsL := []) (rest := []) (W := 0) rfl rfl (lenOf (pd_1) rfl) rfl rfl D7_0 (pc' := 3) rfl (by decide) (by decide) (by decide) (by decide) all0 ?_
  intro T1 h1_ v2 s3 H1 Q4
  obtain ⟨a5, k6, rfl, rfl, K7, g8, F9, F10⟩ := Q4
  have na5 : n0 ≤ a5 := Nat.le_trans H.le g8
  show Go p e below _ (T1.setTop (mkF m 3 #[.val (.ref p0), .unset, .unset, .unset, .unset] [(.ref a5)]))
  refine G.astoreN H1 (L' := #[.val (.ref p0), .val (.ref a5), .unset, .unset, .unset]) D7_3 (pc' := 4) rfl rfl rfl ?_
  refine G.aloadN H1 D7_4 (pc' := 5) rfl rfl rfl ?_
  refine G.arrlen H1 F9 D7_5 (pc' := 6) rfl ?_
  refine G.istoreN H1 (L' := #[.val (.ref p0), .val (.ref a5), .val (.int 3), .unset, .unset]) D7_6 (pc' := 7) rfl rfl ?_
  refine G.iconst H1 D7_7 (pc' := 8) rfl (v := 0) rfl ?_
  refine G.istoreN H1 (L' := #[.val (.ref p0), .val (.ref a5), .val (.int 3), .val (.int 0), .unset]) D7_8 (pc' := 9) rfl rfl ?_
  refine G.iloadN H1 D7_9 (pc' := 10) rfl rfl ?_
  refine G.iloadN H1 D7_10 (pc' := 11) rfl rfl ?_
  refine G.icmpNo H1 D7_11 (pc' := 14) rfl (by decide) ?_
  refine G.aloadN H1 D7_14 (pc' := 15) rfl rfl rfl ?_
  refine G.iloadN H1 D7_15 (pc' := 16) rfl rfl ?_
  refine G.aaloadG H1 F9 rfl (j := 0) (v := (.ref uu1)) (by decide) rfl D7_16 (pc' := 17) rfl ?_
  refine G.astore H1 (L' := #[.val (.ref p0), .val (.ref a5), .val (.int 3), .val (.int 0), .val (.ref uu1)]) D7_17 (pc' := 19) rfl rfl rfl ?_
  refine G.aload H1 D7_19 (pc' := 21) rfl rfl rfl ?_
  have B11 := Fld.ext H1.old.2 (hv12 V)
  refine G.getF H1 (wd57 V) Via.refl B11 D7_21 (pc' := 24) rfl ?_
  intro T12 H13
  refine G.aloadN H13 D7_24 (pc' := 25) rfl rfl rfl ?_
  have B14 := Str.ext H13.old.2 (hv30 V)
  have F15 := (Str.keep f0 K7 nin0 nin0)
  refine G.strEq H13 (strwEq V) (wd7 V) (wd59 V) (wd60 V) (wd62 V) (wd61 V) B14 F15 (hv24 V) (hv25 V) (rest := []) (W := 0) rfl rfl D7_25 (pc' := 28) rfl (by decide) (by decide) (by decide) (by decide) ?_ ?_
  ·
    intro T16 H17 c18
    refine G.ifNo H17 D7_28 (pc' := 31) rfl (by decide) ?_
    refine G.aload H17 D7_31 (pc' := 33) rfl rfl rfl ?_
    have K19 : Keep h0 h1_ [] := (Keep.trans (Keep.refl h0 []) K7 all0)
    exact G.retA H17 (t := (.object "bindery/server/stomp/StompConnection$AckMode")) rfl rfl rfl D7_33 (so := []) all0 (by decide) (by decide) (Or.inl ⟨c18, rfl, rfl, K19⟩)
  ·
    intro T20 H21 c22
    refine G.ifYes H21 D7_28 (by decide) (by decide) (pc' := 34) rfl ?_
    refine G.iinc H21 (v := 1) (L' := #[.val (.ref p0), .val (.ref a5), .val (.int 3), .val (.int 1), .val (.ref uu1)]) D7_34 (pc' := 37) rfl rfl rfl rfl ?_
    refine G.goto H21 D7_37 (by decide) (pc' := 9) rfl ?_
    show Go p e below _ (T20.setTop (mkF m 9 #[.val (.ref p0), .val (.ref a5), .val (.int 3), .val (.int 1), .val (.ref uu1)] []))
    refine G.iloadN H21 D7_9 (pc' := 10) rfl rfl ?_
    refine G.iloadN H21 D7_10 (pc' := 11) rfl rfl ?_
    refine G.icmpNo H21 D7_11 (pc' := 14) rfl (by decide) ?_
    refine G.aloadN H21 D7_14 (pc' := 15) rfl rfl rfl ?_
    refine G.iloadN H21 D7_15 (pc' := 16) rfl rfl ?_
    refine G.aaloadG H21 F9 rfl (j := 1) (v := (.ref uu2)) (by decide) rfl D7_16 (pc' := 17) rfl ?_
    refine G.astore H21 (L' := #[.val (.ref p0), .val (.ref a5), .val (.int 3), .val (.int 1), .val (.ref uu2)]) D7_17 (pc' := 19) rfl rfl rfl ?_
    refine G.aload H21 D7_19 (pc' := 21) rfl rfl rfl ?_
    have B23 := Fld.ext H21.old.2 (hv10 V)
    refine G.getF H21 (wd57 V) Via.refl B23 D7_21 (pc' := 24) rfl ?_
    intro T24 H25
    refine G.aloadN H25 D7_24 (pc' := 25) rfl rfl rfl ?_
    have B26 := Str.ext H25.old.2 (hv29 V)
    refine G.strEq H25 (strwEq V) (wd7 V) (wd59 V) (wd60 V) (wd62 V) (wd61 V) B26 F15 (hv24 V) (hv25 V) (rest := []) (W := 0) rfl rfl D7_25 (pc' := 28) rfl (by decide) (by decide) (by decide) (by decide) ?_ ?_
    ·
      intro T27 H28 c29
      exact absurd c29 (by intro qq; simp at qq)
    ·
      intro T30 H31 c32
      refine G.ifYes H31 D7_28 (by decide) (by decide) (pc' := 34) rfl ?_
      refine G.iinc H31 (v := 2) (L' := #[.val (.ref p0), .val (.ref a5), .val (.int 3), .val (.int 2), .val (.ref uu2)]) D7_34 (pc' := 37) rfl rfl rfl rfl ?_
      refine G.goto H31 D7_37 (by decide) (pc' := 9) rfl ?_
      show Go p e below _ (T30.setTop (mkF m 9 #[.val (.ref p0), .val (.ref a5), .val (.int 3), .val (.int 2), .val (.ref uu2)] []))
      refine G.iloadN H31 D7_9 (pc' := 10) rfl rfl ?_
      refine G.iloadN H31 D7_10 (pc' := 11) rfl rfl ?_
      refine G.icmpNo H31 D7_11 (pc' := 14) rfl (by decide) ?_
      refine G.aloadN H31 D7_14 (pc' := 15) rfl rfl rfl ?_
      refine G.iloadN H31 D7_15 (pc' := 16) rfl rfl ?_
      refine G.aaloadG H31 F9 rfl (j := 2) (v := (.ref uu3)) (by decide) rfl D7_16 (pc' := 17) rfl ?_
      refine G.astore H31 (L' := #[.val (.ref p0), .val (.ref a5), .val (.int 3), .val (.int 2), .val (.ref uu3)]) D7_17 (pc' := 19) rfl rfl rfl ?_
      refine G.aload H31 D7_19 (pc' := 21) rfl rfl rfl ?_
      have B33 := Fld.ext H31.old.2 (hv8 V)
      refine G.getF H31 (wd57 V) Via.refl B33 D7_21 (pc' := 24) rfl ?_
      intro T34 H35
      refine G.aloadN H35 D7_24 (pc' := 25) rfl rfl rfl ?_
      have B36 := Str.ext H35.old.2 (hv28 V)
      refine G.strEq H35 (strwEq V) (wd7 V) (wd59 V) (wd60 V) (wd62 V) (wd61 V) B36 F15 (hv24 V) (hv25 V) (rest := []) (W := 0) rfl rfl D7_25 (pc' := 28) rfl (by decide) (by decide) (by decide) (by decide) ?_ ?_
      ·
        intro T37 H38 c39
        exact absurd c39 (by intro qq; simp at qq)
      ·
        intro T40 H41 c42
        refine G.ifYes H41 D7_28 (by decide) (by decide) (pc' := 34) rfl ?_
        refine G.iinc H41 (v := 3) (L' := #[.val (.ref p0), .val (.ref a5), .val (.int 3), .val (.int 3), .val (.ref uu3)]) D7_34 (pc' := 37) rfl rfl rfl rfl ?_
        refine G.goto H41 D7_37 (by decide) (pc' := 9) rfl ?_
        show Go p e below _ (T40.setTop (mkF m 9 #[.val (.ref p0), .val (.ref a5), .val (.int 3), .val (.int 3), .val (.ref uu3)] []))
        refine G.iloadN H41 D7_9 (pc' := 10) rfl rfl ?_
        refine G.iloadN H41 D7_10 (pc' := 11) rfl rfl ?_
        refine G.icmpYes H41 D7_11 (by decide) (by decide) (pc' := 40) rfl ?_
        refine G.aconstNull H41 D7_40 (pc' := 41) rfl ?_
        have K43 : Keep h0 h1_ [] := (Keep.trans (Keep.refl h0 []) K7 all0)
        exact G.retA H41 (t := (.object "bindery/server/stomp/StompConnection$AckMode")) rfl rfl rfl D7_41 (so := []) all0 (by decide) (by decide) (Or.inr ⟨c22, rfl, rfl, K43⟩)
set_option maxRecDepth 65536 in
set_option maxHeartbeats 40000000 in
theorem m4_expected (V : Env1 Z a0 n0 uu0 uu1 uu2 uu3 uu4 uu5 uu6 uu7 uu8 uu9 uu10 uu11 uu12 uu13 uu14 uu15) (p0 : Addr) (p1 : Addr) (c0 : ClassId) (x0 : Int32) (x1 : Int32) (x2 : Int32) (x3 : Int32) (h0 : Heap) (hO : Old Z n0 h0) (f0 : Str Z h0 p0 p1 c0 [x0, x1, x2, x3]) (cl1 : [x0, x1, x2, x3] = [97, 117, 116, 111]) :
    Met Z a0 ELs True n0 l (⟨"bindery/server/stomp/AckModeNamedPinLaw", "expected", "(Ljava/lang/String;)Lbindery/server/stomp/StompConnection$AckMode;"⟩ : MethodName) method_3_code 1 (Option.some (FieldType.object "bindery/server/stomp/StompConnection$AckMode")) ({ frames := 2, cells := 2, slots := 20, locals := 28 } : Room) #[(.ref p0)] h0 [] (fun v h so => ([x0, x1, x2, x3] = [97, 117, 116, 111] ∧ v = some (.ref uu1) ∧ so = [] ∧ Keep h0 h [])) := by
  refine Met.of (EWl V) (by first | decide +kernel | rfl) hO (L0 := #[.val (.ref p0)]) rfl ?_
  intro p e s m below meth c T H
  show Go p e below _ (T.setTop (mkF m 0 #[.val (.ref p0)] []))
  refine G.aloadN H D3_0 (pc' := 1) rfl rfl rfl ?_
  refine G.ifnonnullYes H D3_1 (by decide) (pc' := 6) rfl ?_
  refine G.aloadN H D3_6 (pc' := 7) rfl rfl rfl ?_
  refine G.ldcS H trivial (wS V) (wd72 V) (by decide) (vs := [(.int 97), (.int 117), (.int 116), (.int 111)]) (z := 4) (by decide) (by decide) rfl (n := 16) (by decide) (by decide) (by decide) (by decide) D3_7 (pc' := 9) rfl ?_
  intro T1 h1_ a2 b4 k5 H1 E3 X6 F7 F8 A9 Q10
  have S11 : Str Z h1_ a2 b4 k5 [97, 117, 116, 111] := ⟨X6, F7, F8, A9, by decide, by decide⟩
  have F12 := (Str.ext E3 f0)
  refine G.strEq H1 (strwEq V) (wd7 V) (wd75 V) (wd60 V) (wd62 V) (wd61 V) F12 S11 (hv24 V) (hv25 V) (rest := []) (W := 0) rfl rfl D3_9 (pc' := 12) rfl (by decide) (by decide) (by decide) (by decide) ?_ ?_
  ·
    intro T13 H14 c15
    refine G.ifNo H14 D3_12 (pc' := 15) rfl (by decide) ?_
    refine G.getS H14 (wd76 V) Via.refl (Sta.ext H14.old.2 (hv2 V)) D3_15 (pc' := 18) rfl ?_
    intro T16 H17
    have K18 : Keep h0 h1_ [] := (Keep.ext (Keep.refl h0 []) E3)
    exact G.retA H17 (t := (.object "bindery/server/stomp/StompConnection$AckMode")) rfl rfl rfl D3_18 (so := []) all0 (by decide) (by decide) ⟨c15, rfl, rfl, K18⟩
  ·
    intro T19 H20 c21
    exact absurd cl1 c21
set_option maxRecDepth 65536 in
set_option maxHeartbeats 40000000 in
theorem m5_expected (V : Env1 Z a0 n0 uu0 uu1 uu2 uu3 uu4 uu5 uu6 uu7 uu8 uu9 uu10 uu11 uu12 uu13 uu14 uu15) (p0 : Addr) (p1 : Addr) (c0 : ClassId) (x0 : Int32) (x1 : Int32) (x2 : Int32) (x3 : Int32) (h0 : Heap) (hO : Old Z n0 h0) (f0 : Str Z h0 p0 p1 c0 [x0, x1, x2, x3]) (cl1 : ¬ [x0, x1, x2, x3] = [97, 117, 116, 111]) :
    Met Z a0 ELs True n0 l (⟨"bindery/server/stomp/AckModeNamedPinLaw", "expected", "(Ljava/lang/String;)Lbindery/server/stomp/StompConnection$AckMode;"⟩ : MethodName) method_3_code 1 (Option.some (FieldType.object "bindery/server/stomp/StompConnection$AckMode")) ({ frames := 2, cells := 6, slots := 120, locals := 28 } : Room) #[(.ref p0)] h0 [p0, p1] (fun v h so => (¬ [x0, x1, x2, x3] = [97, 117, 116, 111] ∧ v = some .null ∧ so = [] ∧ Keep h0 h [])) := by
  refine Met.of (EWl V) (by first | decide +kernel | rfl) hO (L0 := #[.val (.ref p0)]) rfl ?_
  intro p e s m below meth c T H
  show Go p e below _ (T.setTop (mkF m 0 #[.val (.ref p0)] []))
  refine G.aloadN H D3_0 (pc' := 1) rfl rfl rfl ?_
  refine G.ifnonnullYes H D3_1 (by decide) (pc' := 6) rfl ?_
  refine G.aloadN H D3_6 (pc' := 7) rfl rfl rfl ?_
  refine G.ldcS H trivial (wS V) (wd72 V) (by decide) (vs := [(.int 97), (.int 117), (.int 116), (.int 111)]) (z := 4) (by decide) (by decide) rfl (n := 16) (by decide) (by decide) (by decide) (by decide) D3_7 (pc' := 9) rfl ?_
  intro T1 h1_ a2 b4 k5 H1 E3 X6 F7 F8 A9 Q10
  have S11 : Str Z h1_ a2 b4 k5 [97, 117, 116, 111] := ⟨X6, F7, F8, A9, by decide, by decide⟩
  have F12 := (Str.ext E3 f0)
  refine G.strEq H1 (strwEq V) (wd7 V) (wd75 V) (wd60 V) (wd62 V) (wd61 V) F12 S11 (hv24 V) (hv25 V) (rest := []) (W := 0) rfl rfl D3_9 (pc' := 12) rfl (by decide) (by decide) (by decide) (by decide) ?_ ?_
  ·
    intro T13 H14 c15
    exact absurd c15 cl1
  ·
    intro T16 H17 c18
    refine G.ifYes H17 D3_12 (by decide) (by decide) (pc' := 19) rfl ?_
    refine G.aloadN H17 D3_19 (pc' := 20) rfl rfl rfl ?_
    refine G.ldcS H17 trivial (wS V) (wd80 V) (by decide) (vs := [(.int 99), (.int 108), (.int 105), (.int 101), (.int 110), (.int 116)]) (z := 6) (by decide) (by decide) rfl (n := 24) (by decide) (by decide) (by decide) (by decide) D3_20 (pc' := 22) rfl ?_
    intro T19 h19_ a20 b22 k23 H19 E21 X24 F25 F26 A27 Q28
    have S29 : Str Z h19_ a20 b22 k23 [99, 108, 105, 101, 110, 116] := ⟨X24, F25, F26, A27, by decide, by decide⟩
    have F30 := (Str.ext E21 F12)
    refine G.strEq H19 (strwEq V) (wd7 V) (wd75 V) (wd60 V) (wd62 V) (wd61 V) F30 S29 (hv24 V) (hv25 V) (rest := []) (W := 0) rfl rfl D3_22 (pc' := 25) rfl (by decide) (by decide) (by decide) (by decide) ?_ ?_
    ·
      intro T31 H32 c33
      exact absurd c33 (by intro qq; simp at qq)
    ·
      intro T34 H35 c36
      refine G.ifYes H35 D3_25 (by decide) (by decide) (pc' := 32) rfl ?_
      refine G.aloadN H35 D3_32 (pc' := 33) rfl rfl rfl ?_
      refine G.ldcS H35 trivial (wS V) (wd81 V) (by decide) (vs := [(.int 99), (.int 108), (.int 105), (.int 101), (.int 110), (.int 116), (.int 45), (.int 105), (.int 110), (.int 100), (.int 105), (.int 118), (.int 105), (.int 100), (.int 117), (.int 97), (.int 108)]) (z := 17) (by decide) (by decide) rfl (n := 68) (by decide) (by decide) (by decide) (by decide) D3_33 (pc' := 35) rfl ?_
      intro T37 h37_ a38 b40 k41 H37 E39 X42 F43 F44 A45 Q46
      have S47 : Str Z h37_ a38 b40 k41 [99, 108, 105, 101, 110, 116, 45, 105, 110, 100, 105, 118, 105, 100, 117, 97, 108] := ⟨X42, F43, F44, A45, by decide, by decide⟩
      have F48 := (Str.ext E39 F30)
      refine G.strEq H37 (strwEq V) (wd7 V) (wd75 V) (wd60 V) (wd62 V) (wd61 V) F48 S47 (hv24 V) (hv25 V) (rest := []) (W := 0) rfl rfl D3_35 (pc' := 38) rfl (by decide) (by decide) (by decide) (by decide) ?_ ?_
      ·
        intro T49 H50 c51
        exact absurd c51 (by intro qq; simp at qq)
      ·
        intro T52 H53 c54
        refine G.ifYes H53 D3_38 (by decide) (by decide) (pc' := 45) rfl ?_
        refine G.aconstNull H53 D3_45 (pc' := 46) rfl ?_
        have K55 : Keep h0 h37_ [] := (Keep.ext (Keep.ext (Keep.ext (Keep.refl h0 []) E3) E21) E39)
        exact G.retA H53 (t := (.object "bindery/server/stomp/StompConnection$AckMode")) rfl rfl rfl D3_46 (so := []) all0 (by decide) (by decide) ⟨c18, rfl, rfl, K55⟩
set_option maxRecDepth 65536 in
set_option maxHeartbeats 40000000 in
theorem cut6_122 (V : Env1 Z a0 n0 uu0 uu1 uu2 uu3 uu4 uu5 uu6 uu7 uu8 uu9 uu10 uu11 uu12 uu13 uu14 uu15) (x70000 : Int32) (x70001 : Int32) (x70002 : Int32) (x70003 : Int32) (x70004 : Int32) (x70005 : Int32) (x70006 : Int32) (x70007 : Int32) (x70008 : Int32) (x70009 : Int32) (p0 : Addr) (c0 : ClassId) (x61100 : Int32) (x61101 : Int32) (x61102 : Int32) (x61103 : Int32) (H : Hs p l e room_1 s m as' below meth c Z a0 ELs True x.cls n0 code maxLocals ret x.name T h0 1 4 []) (re_x61100 : ¬ x61100 < 0 ∧ ¬ 255 < x61100) (re_x61101 : ¬ x61101 < 0 ∧ ¬ 255 < x61101) (re_x61102 : ¬ x61102 < 0 ∧ ¬ 255 < x61102) (re_x61103 : ¬ x61103 < 0 ∧ ¬ 255 < x61103) (fA11 : Arv Z h0 p0 c0 .char 4 [(.int x61100), (.int x61101), (.int x61102), (.int x61103)] (.int 0)) :
    Go p e below (FinP s below Z ELs True n0 room_1.cells room_1.slots (fun v h so => v = some (.int 1))) (T.setTop (mkF m 122 #[.val (.int x70000), .val (.int x70001), .val (.int x70002), .val (.int x70003), .val (.int x70004), .val (.int x70005), .val (.int x70006), .val (.int x70007), .val (.int x70008), .val (.int x70009), .unset, .val (.ref p0)] [])) := by
  refine G.new H (wd6 V) (wd7 V) (wd8 V) at_122 (pc' := 125) rfl (by decide) (by decide) ?_
  intro T1 h1_ a2 ga2 H1 E3 A4 D5
  have na2 := H.nle ga2
  refine G.dup H1 at_125 (pc' := 126) rfl rfl ?_
  refine G.aload H1 at_126 (pc' := 128) rfl rfl rfl ?_
  have F6 := (Arv.ext fA11 E3)
  have F7 : Fld Z h1_ a2 "java/lang/String" "value" "[B" .null := D5 (Or.inr (wd34 V)) (ty := (.array .byte)) (by decide)
  have F8 : Fld Z h1_ a2 "java/lang/String" "coder" "B" (.int 0) := D5 (Or.inr (wd32 V)) (ty := .byte) (by decide)
  refine G.newStr H1 (strw V) (wd7 V) (wd9 V) (wd10 V) (cs := [x61100, x61101, x61102, x61103]) (n := 4) na2 A4 F7 F8 F6 (hv24 V) (hv25 V) rfl rfl (by decide) (by decide) (cbS re_x61100 (cbS re_x61101 (cbS re_x61102 (cbS re_x61103 cb0)))) (Sf.mem (mG (i := 0) rfl)) (rest := [(.ref a2)]) (W := 1) rfl rfl at_128 (pc' := 131) rfl (by decide) (by decide) (by decide) (by decide) ?_
  intro T9 h9_ t10 k11 g14 H9 K12 S13
  have nt10 : n0 ≤ t10 := Nat.le_trans H1.le g14
  refine G.astore H9 (L' := #[.val (.int x70000), .val (.int x70001), .val (.int x70002), .val (.int x70003), .val (.int x70004), .val (.int x70005), .val (.int x70006), .val (.int x70007), .val (.int x70008), .val (.int x70009), .val (.ref a2), .val (.ref p0)]) at_131 (pc' := 133) rfl rfl rfl ?_
  refine G.aload H9 at_133 (pc' := 135) rfl rfl rfl ?_
  refine G.callS H9 (m3_named V a2 t10 k11 x61100 x61101 x61102 x61103 h9_ H9.old S13) (wd35 V) (wd36 V) (wd37 V) (wd38 V) (by decide) (argsL := [(.ref a2)]) (rest := []) (W := 0) rfl rfl (lenOf (pd_2) rfl) rfl rfl at_135 (pc' := 138) rfl (by decide) (by decide) (by decide) (by decide) all0 ?_
  intro T15 h15_ v16 s17 H15 Q18
  rcases Q18 with ⟨c19, rfl, rfl, K20⟩ | ⟨c21, rfl, rfl, K22⟩
  ·
    show Go p e below _ (T15.setTop (mkF m 138 #[.val (.int x70000), .val (.int x70001), .val (.int x70002), .val (.int x70003), .val (.int x70004), .val (.int x70005), .val (.int x70006), .val (.int x70007), .val (.int x70008), .val (.int x70009), .val (.ref a2), .val (.ref p0)] [(.ref uu1)]))
    refine G.astore H15 (L' := #[.val (.int x70000), .val (.int x70001), .val (.int x70002), .val (.int x70003), .val (.int x70004), .val (.int x70005), .val (.int x70006), .val (.int x70007), .val (.int x70008), .val (.int x70009), .val (.ref a2), .val (.ref uu1)]) at_138 (pc' := 140) rfl rfl rfl ?_
    refine G.aload H15 at_140 (pc' := 142) rfl rfl rfl ?_
    refine G.aload H15 at_142 (pc' := 144) rfl rfl rfl ?_
    have F23 := (Str.keep S13 K20 nin0 nin0)
    refine G.callS H15 (m4_expected V a2 t10 k11 x61100 x61101 x61102 x61103 h15_ H15.old F23 (Eq.symm c19)) (wd69 V) (wd70 V) (wd3 V) (wd71 V) (by decide) (argsL := [(.ref a2)]) (rest := [(.ref uu1)]) (W := 1) rfl rfl (lenOf (pd_2) rfl) rfl rfl at_144 (pc' := 147) rfl (by decide) (by decide) (by decide) (by decide) all0 ?_
    intro T24 h24_ v25 s26 H24 Q27
    obtain ⟨c28, rfl, rfl, K29⟩ := Q27
    show Go p e below _ (T24.setTop (mkF m 147 #[.val (.int x70000), .val (.int x70001), .val (.int x70002), .val (.int x70003), .val (.int x70004), .val (.int x70005), .val (.int x70006), .val (.int x70007), .val (.int x70008), .val (.int x70009), .val (.ref a2), .val (.ref uu1)] [(.ref uu1), (.ref uu1)]))
    refine G.acmpNo H24 at_147 (pc' := 150) rfl rfl rfl (XT.aa_ne_f rfl) ?_
    refine G.iconst H24 at_150 (pc' := 151) rfl (v := 1) rfl ?_
    refine G.goto H24 at_151 (by decide) (pc' := 155) rfl ?_
    exact G.retN H24 (t := .boolean) rfl (by decide) at_155 (so := []) all0 (by decide) (by decide) rfl
  ·
    show Go p e below _ (T15.setTop (mkF m 138 #[.val (.int x70000), .val (.int x70001), .val (.int x70002), .val (.int x70003), .val (.int x70004), .val (.int x70005), .val (.int x70006), .val (.int x70007), .val (.int x70008), .val (.int x70009), .val (.ref a2), .val (.ref p0)] [.null]))
    refine G.astore H15 (L' := #[.val (.int x70000), .val (.int x70001), .val (.int x70002), .val (.int x70003), .val (.int x70004), .val (.int x70005), .val (.int x70006), .val (.int x70007), .val (.int x70008), .val (.int x70009), .val (.ref a2), .val .null]) at_138 (pc' := 140) rfl rfl rfl ?_
    refine G.aload H15 at_140 (pc' := 142) rfl rfl rfl ?_
    refine G.aload H15 at_142 (pc' := 144) rfl rfl rfl ?_
    have F30 := (Str.keep S13 K22 nin0 nin0)
    refine G.callS H15 (m5_expected V a2 t10 k11 x61100 x61101 x61102 x61103 h15_ H15.old F30 (fun qq => c21 (Eq.symm qq))) (wd69 V) (wd70 V) (wd3 V) (wd71 V) (by decide) (argsL := [(.ref a2)]) (rest := [.null]) (W := 1) rfl rfl (lenOf (pd_2) rfl) rfl rfl at_144 (pc' := 147) rfl (by decide) (by decide) (by decide) (by decide) (allS (mG (i := 1) rfl) (allS (mG (i := 0) rfl) all0)) ?_
    intro T31 h31_ v32 s33 H31 Q34
    obtain ⟨c35, rfl, rfl, K36⟩ := Q34
    show Go p e below _ (T31.setTop (mkF m 147 #[.val (.int x70000), .val (.int x70001), .val (.int x70002), .val (.int x70003), .val (.int x70004), .val (.int x70005), .val (.int x70006), .val (.int x70007), .val (.int x70008), .val (.int x70009), .val (.ref a2), .val .null] [.null, .null]))
    refine G.acmpNo H31 at_147 (pc' := 150) rfl rfl rfl (XT.aa_ne_f rfl) ?_
    refine G.iconst H31 at_150 (pc' := 151) rfl (v := 1) rfl ?_
    refine G.goto H31 at_151 (by decide) (pc' := 155) rfl ?_
    exact G.retN H31 (t := .boolean) rfl (by decide) at_155 (so := []) all0 (by decide) (by decide) rfl
set_option maxRecDepth 65536 in
set_option maxHeartbeats 40000000 in
theorem m7_base (V : Env1 Z a0 n0 uu0 uu1 uu2 uu3 uu4 uu5 uu6 uu7 uu8 uu9 uu10 uu11 uu12 uu13 uu14 uu15) (x0 : Int32) (h0 : Heap) (hO : Old Z n0 h0) (r0 : ¬ x0 < 0 ∧ ¬ 65535 < x0) :
    Met Z a0 ELs True n0 l (⟨"bindery/server/stomp/AckModeNamedPinLaw", "base", "(IIC)[C"⟩ : MethodName) method_5_code 3 (Option.some (FieldType.array FieldType.char)) ({ frames := 0, cells := 1, slots := 5, locals := 0 } : Room) #[(.int 0), (.int 1), (.int x0)] h0 [] (fun v h so => (∃ a2 : Addr, ∃ k5 : ClassId, v = some (.ref a2) ∧ so = [] ∧ Keep h0 h [] ∧ h0.size ≤ a2 ∧ Arv Z h a2 k5 .char 5 [(.int 97), (.int 117), (.int 116), (.int 111), (.int x0)] (.int 0) ∧ Exa Z h a2 "[C")) := by
  refine Met.of (EWl V) (by first | decide +kernel | rfl) hO (L0 := #[.val (.int 0), .val (.int 1), .val (.int x0)]) rfl ?_
  intro p e s m below meth c T H
  show Go p e below _ (T.setTop (mkF m 0 #[.val (.int 0), .val (.int 1), .val (.int x0)] []))
  refine G.iloadN H D5_0 (pc' := 1) rfl rfl ?_
  refine G.ifNo H D5_1 (pc' := 4) rfl (by decide) ?_
  refine G.iloadN H D5_4 (pc' := 5) rfl rfl ?_
  refine G.ifYes H D5_5 (by decide) (by decide) (pc' := 32) rfl ?_
  refine G.iloadN H D5_32 (pc' := 33) rfl rfl ?_
  refine G.iconst H D5_33 (pc' := 34) rfl (v := 1) rfl ?_
  refine G.icmpNo H D5_34 (pc' := 37) rfl (by decide) ?_
  refine G.iconst H D5_37 (pc' := 38) rfl (v := 5) rfl ?_
  refine G.newP H (aty := .char) (wd5 V) D5_38 (pc' := 40) rfl (by decide) (cap := 5) (by decide) (by decide) (by decide) (by decide) (vs := [(.int 0), (.int 0), (.int 0), (.int 0), (.int 0)]) rfl (ad := "[C") rfl ?_
  intro T1 h1_ a2 k5 ga2 H1 E3 A4 X6
  have na2 := H.nle ga2
  replace A4 : Arv Z h1_ a2 k5 .char 5 [(.int 0), (.int 0), (.int 0), (.int 0), (.int 0)] (.int 0) := A4
  refine G.dup H1 D5_40 (pc' := 41) rfl rfl ?_
  refine G.iconst H1 D5_41 (pc' := 42) rfl (v := 0) rfl ?_
  refine G.bipush H1 D5_42 (pc' := 44) rfl (v := 97) rfl ?_
  refine G.stC H1 A4 (by decide) (i := 0) rfl lB na2 (y := 97) rfl D5_44 (pc' := 45) rfl ?_
  intro T7 h7_ H7 W8 A9
  replace A9 : Arv Z h7_ a2 k5 .char 5 [(.int 97), (.int 0), (.int 0), (.int 0), (.int 0)] (.int 0) := A9
  refine G.dup H7 D5_45 (pc' := 46) rfl rfl ?_
  refine G.iconst H7 D5_46 (pc' := 47) rfl (v := 1) rfl ?_
  refine G.bipush H7 D5_47 (pc' := 49) rfl (v := 117) rfl ?_
  refine G.stC H7 A9 (by decide) (i := 1) rfl lB na2 (y := 117) rfl D5_49 (pc' := 50) rfl ?_
  intro T10 h10_ H10 W11 A12
  replace A12 : Arv Z h10_ a2 k5 .char 5 [(.int 97), (.int 117), (.int 0), (.int 0), (.int 0)] (.int 0) := A12
  refine G.dup H10 D5_50 (pc' := 51) rfl rfl ?_
  refine G.iconst H10 D5_51 (pc' := 52) rfl (v := 2) rfl ?_
  refine G.bipush H10 D5_52 (pc' := 54) rfl (v := 116) rfl ?_
  refine G.stC H10 A12 (by decide) (i := 2) rfl lB na2 (y := 116) rfl D5_54 (pc' := 55) rfl ?_
  intro T13 h13_ H13 W14 A15
  replace A15 : Arv Z h13_ a2 k5 .char 5 [(.int 97), (.int 117), (.int 116), (.int 0), (.int 0)] (.int 0) := A15
  refine G.dup H13 D5_55 (pc' := 56) rfl rfl ?_
  refine G.iconst H13 D5_56 (pc' := 57) rfl (v := 3) rfl ?_
  refine G.bipush H13 D5_57 (pc' := 59) rfl (v := 111) rfl ?_
  refine G.stC H13 A15 (by decide) (i := 3) rfl lB na2 (y := 111) rfl D5_59 (pc' := 60) rfl ?_
  intro T16 h16_ H16 W17 A18
  replace A18 : Arv Z h16_ a2 k5 .char 5 [(.int 97), (.int 117), (.int 116), (.int 111), (.int 0)] (.int 0) := A18
  refine G.dup H16 D5_60 (pc' := 61) rfl rfl ?_
  refine G.iconst H16 D5_61 (pc' := 62) rfl (v := 4) rfl ?_
  refine G.iloadN H16 D5_62 (pc' := 63) rfl rfl ?_
  refine G.stC H16 A18 (by decide) (i := 4) rfl lB na2 (y := x0) (own_narC r0) D5_63 (pc' := 64) rfl ?_
  intro T19 h19_ H19 W20 A21
  replace A21 : Arv Z h19_ a2 k5 .char 5 [(.int 97), (.int 117), (.int 116), (.int 111), (.int x0)] (.int 0) := A21
  have K22 : Keep h1_ h19_ [a2] := (Keep.wr (Keep.wr (Keep.wr (Keep.wr (Keep.wr (Keep.refl h1_ [a2]) W8 (Or.inl (mG (i := 0) rfl))) W11 (Or.inl (mG (i := 0) rfl))) W14 (Or.inl (mG (i := 0) rfl))) W17 (Or.inl (mG (i := 0) rfl))) W20 (Or.inl (mG (i := 0) rfl)))
  have F23 := (Exa.keep X6 K22)
  have K24 : Keep h0 h19_ [] := (Keep.wr (Keep.wr (Keep.wr (Keep.wr (Keep.wr (Keep.ext (Keep.refl h0 []) E3) W8 (Or.inr (Nat.le_of_eq ga2.symm))) W11 (Or.inr (Nat.le_of_eq ga2.symm))) W14 (Or.inr (Nat.le_of_eq ga2.symm))) W17 (Or.inr (Nat.le_of_eq ga2.symm))) W20 (Or.inr (Nat.le_of_eq ga2.symm)))
  exact G.retA H19 (t := (.array .char)) rfl rfl rfl D5_64 (so := []) all0 (by decide) (by decide) ⟨a2, k5, rfl, rfl, K24, (Nat.le_of_eq ga2.symm), A21, F23⟩
set_option maxRecDepth 65536 in
set_option maxHeartbeats 40000000 in
theorem m8_named (V : Env1 Z a0 n0 uu0 uu1 uu2 uu3 uu4 uu5 uu6 uu7 uu8 uu9 uu10 uu11 uu12 uu13 uu14 uu15) (p0 : Addr) (p1 : Addr) (c0 : ClassId) (x0 : Int32) (x1 : Int32) (x2 : Int32) (x3 : Int32) (x4 : Int32) (h0 : Heap) (hO : Old Z n0 h0) (f0 : Str Z h0 p0 p1 c0 [x0, x1, x2, x3, x4]) :
    Met Z a0 ELs True n0 l (⟨"bindery/server/stomp/StompConnection$AckMode", "named", "(Ljava/lang/String;)Lbindery/server/stomp/StompConnection$AckMode;"⟩ : MethodName) prog_93_method_4_code 5 (Option.some (FieldType.object "bindery/server/stomp/StompConnection$AckMode")) ({ frames := 2, cells := 1, slots := 3, locals := 28 } : Room) #[(.ref p0)] h0 [] (fun v h so => (v = some .null ∧ so = [] ∧ Keep h0 h [])) := by
  refine Met.of (EWl V) (by first | decide +kernel | rfl) hO (L0 := #[.val (.ref p0), .unset, .unset, .unset, .unset]) rfl ?_
  intro p e s m below meth c T H
  show Go p e below _ (T.setTop (mkF m 0 #[.val (.ref p0), .unset, .unset, .unset, .unset] []))
  refine G.callS H (m2_values V h0 H.old) (wd39 V) (wd40 V) (wd37 V) (wd41 V) (by decide) (argsL := []) (rest := []) (W := 0) rfl rfl (lenOf (pd_1) rfl) rfl rfl D7_0 (pc' := 3) rfl (by decide) (by decide) (by decide) (by decide) all0 ?_
  intro T1 h1_ v2 s3 H1 Q4
  obtain ⟨a5, k6, rfl, rfl, K7, g8, F9, F10⟩ := Q4
  have na5 : n0 ≤ a5 := Nat.le_trans H.le g8
  show Go p e below _ (T1.setTop (mkF m 3 #[.val (.ref p0), .unset, .unset, .unset, .unset] [(.ref a5)]))
  refine G.astoreN H1 (L' := #[.val (.ref p0), .val (.ref a5), .unset, .unset, .unset]) D7_3 (pc' := 4) rfl rfl rfl ?_
  refine G.aloadN H1 D7_4 (pc' := 5) rfl rfl rfl ?_
  refine G.arrlen H1 F9 D7_5 (pc' := 6) rfl ?_
  refine G.istoreN H1 (L' := #[.val (.ref p0), .val (.ref a5), .val (.int 3), .unset, .unset]) D7_6 (pc' := 7) rfl rfl ?_
  refine G.iconst H1 D7_7 (pc' := 8) rfl (v := 0) rfl ?_
  refine G.istoreN H1 (L' := #[.val (.ref p0), .val (.ref a5), .val (.int 3), .val (.int 0), .unset]) D7_8 (pc' := 9) rfl rfl ?_
  refine G.iloadN H1 D7_9 (pc' := 10) rfl rfl ?_
  refine G.iloadN H1 D7_10 (pc' := 11) rfl rfl ?_
  refine G.icmpNo H1 D7_11 (pc' := 14) rfl (by decide) ?_
  refine G.aloadN H1 D7_14 (pc' := 15) rfl rfl rfl ?_
  refine G.iloadN H1 D7_15 (pc' := 16) rfl rfl ?_
  refine G.aaloadG H1 F9 rfl (j := 0) (v := (.ref uu1)) (by decide) rfl D7_16 (pc' := 17) rfl ?_
  refine G.astore H1 (L' := #[.val (.ref p0), .val (.ref a5), .val (.int 3), .val (.int 0), .val (.ref uu1)]) D7_17 (pc' := 19) rfl rfl rfl ?_
  refine G.aload H1 D7_19 (pc' := 21) rfl rfl rfl ?_
  have B11 := Fld.ext H1.old.2 (hv12 V)
  refine G.getF H1 (wd57 V) Via.refl B11 D7_21 (pc' := 24) rfl ?_
  intro T12 H13
  refine G.aloadN H13 D7_24 (pc' := 25) rfl rfl rfl ?_
  have B14 := Str.ext H13.old.2 (hv30 V)
  have F15 := (Str.keep f0 K7 nin0 nin0)
  refine G.strEq H13 (strwEq V) (wd7 V) (wd59 V) (wd60 V) (wd62 V) (wd61 V) B14 F15 (hv24 V) (hv25 V) (rest := []) (W := 0) rfl rfl D7_25 (pc' := 28) rfl (by decide) (by decide) (by decide) (by decide) ?_ ?_
  ·
    intro T16 H17 c18
    exact absurd c18 (by intro qq; simp at qq)
  ·
    intro T19 H20 c21
    refine G.ifYes H20 D7_28 (by decide) (by decide) (pc' := 34) rfl ?_
    refine G.iinc H20 (v := 1) (L' := #[.val (.ref p0), .val (.ref a5), .val (.int 3), .val (.int 1), .val (.ref uu1)]) D7_34 (pc' := 37) rfl rfl rfl rfl ?_
    refine G.goto H20 D7_37 (by decide) (pc' := 9) rfl ?_
    show Go p e below _ (T19.setTop (mkF m 9 #[.val (.ref p0), .val (.ref a5), .val (.int 3), .val (.int 1), .val (.ref uu1)] []))
    refine G.iloadN H20 D7_9 (pc' := 10) rfl rfl ?_
    refine G.iloadN H20 D7_10 (pc' := 11) rfl rfl ?_
    refine G.icmpNo H20 D7_11 (pc' := 14) rfl (by decide) ?_
    refine G.aloadN H20 D7_14 (pc' := 15) rfl rfl rfl ?_
    refine G.iloadN H20 D7_15 (pc' := 16) rfl rfl ?_
    refine G.aaloadG H20 F9 rfl (j := 1) (v := (.ref uu2)) (by decide) rfl D7_16 (pc' := 17) rfl ?_
    refine G.astore H20 (L' := #[.val (.ref p0), .val (.ref a5), .val (.int 3), .val (.int 1), .val (.ref uu2)]) D7_17 (pc' := 19) rfl rfl rfl ?_
    refine G.aload H20 D7_19 (pc' := 21) rfl rfl rfl ?_
    have B22 := Fld.ext H20.old.2 (hv10 V)
    refine G.getF H20 (wd57 V) Via.refl B22 D7_21 (pc' := 24) rfl ?_
    intro T23 H24
    refine G.aloadN H24 D7_24 (pc' := 25) rfl rfl rfl ?_
    have B25 := Str.ext H24.old.2 (hv29 V)
    refine G.strEq H24 (strwEq V) (wd7 V) (wd59 V) (wd60 V) (wd62 V) (wd61 V) B25 F15 (hv24 V) (hv25 V) (rest := []) (W := 0) rfl rfl D7_25 (pc' := 28) rfl (by decide) (by decide) (by decide) (by decide) ?_ ?_
    ·
      intro T26 H27 c28
      exact absurd c28 (by intro qq; simp at qq)
    ·
      intro T29 H30 c31
      refine G.ifYes H30 D7_28 (by decide) (by decide) (pc' := 34) rfl ?_
      refine G.iinc H30 (v := 2) (L' := #[.val (.ref p0), .val (.ref a5), .val (.int 3), .val (.int 2), .val (.ref uu2)]) D7_34 (pc' := 37) rfl rfl rfl rfl ?_
      refine G.goto H30 D7_37 (by decide) (pc' := 9) rfl ?_
      show Go p e below _ (T29.setTop (mkF m 9 #[.val (.ref p0), .val (.ref a5), .val (.int 3), .val (.int 2), .val (.ref uu2)] []))
      refine G.iloadN H30 D7_9 (pc' := 10) rfl rfl ?_
      refine G.iloadN H30 D7_10 (pc' := 11) rfl rfl ?_
      refine G.icmpNo H30 D7_11 (pc' := 14) rfl (by decide) ?_
      refine G.aloadN H30 D7_14 (pc' := 15) rfl rfl rfl ?_
      refine G.iloadN H30 D7_15 (pc' := 16) rfl rfl ?_
      refine G.aaloadG H30 F9 rfl (j := 2) (v := (.ref uu3)) (by decide) rfl D7_16 (pc' := 17) rfl ?_
      refine G.astore H30 (L' := #[.val (.ref p0), .val (.ref a5), .val (.int 3), .val (.int 2), .val (.ref uu3)]) D7_17 (pc' := 19) rfl rfl rfl ?_
      refine G.aload H30 D7_19 (pc' := 21) rfl rfl rfl ?_
      have B32 := Fld.ext H30.old.2 (hv8 V)
      refine G.getF H30 (wd57 V) Via.refl B32 D7_21 (pc' := 24) rfl ?_
      intro T33 H34
      refine G.aloadN H34 D7_24 (pc' := 25) rfl rfl rfl ?_
      have B35 := Str.ext H34.old.2 (hv28 V)
      refine G.strEq H34 (strwEq V) (wd7 V) (wd59 V) (wd60 V) (wd62 V) (wd61 V) B35 F15 (hv24 V) (hv25 V) (rest := []) (W := 0) rfl rfl D7_25 (pc' := 28) rfl (by decide) (by decide) (by decide) (by decide) ?_ ?_
      ·
        intro T36 H37 c38
        exact absurd c38 (by intro qq; simp at qq)
      ·
        intro T39 H40 c41
        refine G.ifYes H40 D7_28 (by decide) (by decide) (pc' := 34) rfl ?_
        refine G.iinc H40 (v := 3) (L' := #[.val (.ref p0), .val (.ref a5), .val (.int 3), .val (.int 3), .val (.ref uu3)]) D7_34 (pc' := 37) rfl rfl rfl rfl ?_
        refine G.goto H40 D7_37 (by decide) (pc' := 9) rfl ?_
        show Go p e below _ (T39.setTop (mkF m 9 #[.val (.ref p0), .val (.ref a5), .val (.int 3), .val (.int 3), .val (.ref uu3)] []))
        refine G.iloadN H40 D7_9 (pc' := 10) rfl rfl ?_
        refine G.iloadN H40 D7_10 (pc' := 11) rfl rfl ?_
        refine G.icmpYes H40 D7_11 (by decide) (by decide) (pc' := 40) rfl ?_
        refine G.aconstNull H40 D7_40 (pc' := 41) rfl ?_
        have K42 : Keep h0 h1_ [] := (Keep.trans (Keep.refl h0 []) K7 all0)
        exact G.retA H40 (t := (.object "bindery/server/stomp/StompConnection$AckMode")) rfl rfl rfl D7_41 (so := []) all0 (by decide) (by decide) ⟨rfl, rfl, K42⟩
set_option maxRecDepth 65536 in
set_option maxHeartbeats 40000000 in
theorem m9_expected (V : Env1 Z a0 n0 uu0 uu1 uu2 uu3 uu4 uu5 uu6 uu7 uu8 uu9 uu10 uu11 uu12 uu13 uu14 uu15) (p0 : Addr) (p1 : Addr) (c0 : ClassId) (x0 : Int32) (x1 : Int32) (x2 : Int32) (x3 : Int32) (x4 : Int32) (h0 : Heap) (hO : Old Z n0 h0) (f0 : Str Z h0 p0 p1 c0 [x0, x1, x2, x3, x4]) :
    Met Z a0 ELs True n0 l (⟨"bindery/server/stomp/AckModeNamedPinLaw", "expected", "(Ljava/lang/String;)Lbindery/server/stomp/StompConnection$AckMode;"⟩ : MethodName) method_3_code 1 (Option.some (FieldType.object "bindery/server/stomp/StompConnection$AckMode")) ({ frames := 2, cells := 6, slots := 120, locals := 28 } : Room) #[(.ref p0)] h0 [p0, p1] (fun v h so => (v = some .null ∧ so = [] ∧ Keep h0 h [])) := by
  refine Met.of (EWl V) (by first | decide +kernel | rfl) hO (L0 := #[.val (.ref p0)]) rfl ?_
  intro p e s m below meth c T H
  show Go p e below _ (T.setTop (mkF m 0 #[.val (.ref p0)] []))
  refine G.aloadN H D3_0 (pc' := 1) rfl rfl rfl ?_
  refine G.ifnonnullYes H D3_1 (by decide) (pc' := 6) rfl ?_
  refine G.aloadN H D3_6 (pc' := 7) rfl rfl rfl ?_
  refine G.ldcS H trivial (wS V) (wd72 V) (by decide) (vs := [(.int 97), (.int 117), (.int 116), (.int 111)]) (z := 4) (by decide) (by decide) rfl (n := 16) (by decide) (by decide) (by decide) (by decide) D3_7 (pc' := 9) rfl ?_
  intro T1 h1_ a2 b4 k5 H1 E3 X6 F7 F8 A9 Q10
  have S11 : Str Z h1_ a2 b4 k5 [97, 117, 116, 111] := ⟨X6, F7, F8, A9, by decide, by decide⟩
  have F12 := (Str.ext E3 f0)
  refine G.strEq H1 (strwEq V) (wd7 V) (wd75 V) (wd60 V) (wd62 V) (wd61 V) F12 S11 (hv24 V) (hv25 V) (rest := []) (W := 0) rfl rfl D3_9 (pc' := 12) rfl (by decide) (by decide) (by decide) (by decide) ?_ ?_
  ·
    intro T13 H14 c15
    exact absurd c15 (by intro qq; simp at qq)
  ·
    intro T16 H17 c18
    refine G.ifYes H17 D3_12 (by decide) (by decide) (pc' := 19) rfl ?_
    refine G.aloadN H17 D3_19 (pc' := 20) rfl rfl rfl ?_
    refine G.ldcS H17 trivial (wS V) (wd80 V) (by decide) (vs := [(.int 99), (.int 108), (.int 105), (.int 101), (.int 110), (.int 116)]) (z := 6) (by decide) (by decide) rfl (n := 24) (by decide) (by decide) (by decide) (by decide) D3_20 (pc' := 22) rfl ?_
    intro T19 h19_ a20 b22 k23 H19 E21 X24 F25 F26 A27 Q28
    have S29 : Str Z h19_ a20 b22 k23 [99, 108, 105, 101, 110, 116] := ⟨X24, F25, F26, A27, by decide, by decide⟩
    have F30 := (Str.ext E21 F12)
    refine G.strEq H19 (strwEq V) (wd7 V) (wd75 V) (wd60 V) (wd62 V) (wd61 V) F30 S29 (hv24 V) (hv25 V) (rest := []) (W := 0) rfl rfl D3_22 (pc' := 25) rfl (by decide) (by decide) (by decide) (by decide) ?_ ?_
    ·
      intro T31 H32 c33
      exact absurd c33 (by intro qq; simp at qq)
    ·
      intro T34 H35 c36
      refine G.ifYes H35 D3_25 (by decide) (by decide) (pc' := 32) rfl ?_
      refine G.aloadN H35 D3_32 (pc' := 33) rfl rfl rfl ?_
      refine G.ldcS H35 trivial (wS V) (wd81 V) (by decide) (vs := [(.int 99), (.int 108), (.int 105), (.int 101), (.int 110), (.int 116), (.int 45), (.int 105), (.int 110), (.int 100), (.int 105), (.int 118), (.int 105), (.int 100), (.int 117), (.int 97), (.int 108)]) (z := 17) (by decide) (by decide) rfl (n := 68) (by decide) (by decide) (by decide) (by decide) D3_33 (pc' := 35) rfl ?_
      intro T37 h37_ a38 b40 k41 H37 E39 X42 F43 F44 A45 Q46
      have S47 : Str Z h37_ a38 b40 k41 [99, 108, 105, 101, 110, 116, 45, 105, 110, 100, 105, 118, 105, 100, 117, 97, 108] := ⟨X42, F43, F44, A45, by decide, by decide⟩
      have F48 := (Str.ext E39 F30)
      refine G.strEq H37 (strwEq V) (wd7 V) (wd75 V) (wd60 V) (wd62 V) (wd61 V) F48 S47 (hv24 V) (hv25 V) (rest := []) (W := 0) rfl rfl D3_35 (pc' := 38) rfl (by decide) (by decide) (by decide) (by decide) ?_ ?_
      ·
        intro T49 H50 c51
        exact absurd c51 (by intro qq; simp at qq)
      ·
        intro T52 H53 c54
        refine G.ifYes H53 D3_38 (by decide) (by decide) (pc' := 45) rfl ?_
        refine G.aconstNull H53 D3_45 (pc' := 46) rfl ?_
        have K55 : Keep h0 h37_ [] := (Keep.ext (Keep.ext (Keep.ext (Keep.refl h0 []) E3) E21) E39)
        exact G.retA H53 (t := (.object "bindery/server/stomp/StompConnection$AckMode")) rfl rfl rfl D3_46 (so := []) all0 (by decide) (by decide) ⟨rfl, rfl, K55⟩
set_option maxRecDepth 65536 in
set_option maxHeartbeats 40000000 in
theorem cut10_122 (V : Env1 Z a0 n0 uu0 uu1 uu2 uu3 uu4 uu5 uu6 uu7 uu8 uu9 uu10 uu11 uu12 uu13 uu14 uu15) (x70000 : Int32) (x70001 : Int32) (x70002 : Int32) (x70003 : Int32) (x70004 : Int32) (x70005 : Int32) (x70006 : Int32) (x70007 : Int32) (x70008 : Int32) (x70009 : Int32) (p0 : Addr) (c0 : ClassId) (x61100 : Int32) (x61101 : Int32) (x61102 : Int32) (x61103 : Int32) (x61104 : Int32) (H : Hs p l e room_1 s m as' below meth c Z a0 ELs True x.cls n0 code maxLocals ret x.name T h0 1 5 []) (re_x61100 : ¬ x61100 < 0 ∧ ¬ 255 < x61100) (re_x61101 : ¬ x61101 < 0 ∧ ¬ 255 < x61101) (re_x61102 : ¬ x61102 < 0 ∧ ¬ 255 < x61102) (re_x61103 : ¬ x61103 < 0 ∧ ¬ 255 < x61103) (re_x61104 : ¬ x61104 < 0 ∧ ¬ 255 < x61104) (fA11 : Arv Z h0 p0 c0 .char 5 [(.int x61100), (.int x61101), (.int x61102), (.int x61103), (.int x61104)] (.int 0)) :
    Go p e below (FinP s below Z ELs True n0 room_1.cells room_1.slots (fun v h so => v = some (.int 1))) (T.setTop (mkF m 122 #[.val (.int x70000), .val (.int x70001), .val (.int x70002), .val (.int x70003), .val (.int x70004), .val (.int x70005), .val (.int x70006), .val (.int x70007), .val (.int x70008), .val (.int x70009), .unset, .val (.ref p0)] [])) := by
  refine G.new H (wd6 V) (wd7 V) (wd8 V) at_122 (pc' := 125) rfl (by decide) (by decide) ?_
  intro T1 h1_ a2 ga2 H1 E3 A4 D5
  have na2 := H.nle ga2
  refine G.dup H1 at_125 (pc' := 126) rfl rfl ?_
  refine G.aload H1 at_126 (pc' := 128) rfl rfl rfl ?_
  have F6 := (Arv.ext fA11 E3)
  have F7 : Fld Z h1_ a2 "java/lang/String" "value" "[B" .null := D5 (Or.inr (wd34 V)) (ty := (.array .byte)) (by decide)
  have F8 : Fld Z h1_ a2 "java/lang/String" "coder" "B" (.int 0) := D5 (Or.inr (wd32 V)) (ty := .byte) (by decide)
  refine G.newStr H1 (strw V) (wd7 V) (wd9 V) (wd10 V) (cs := [x61100, x61101, x61102, x61103, x61104]) (n := 5) na2 A4 F7 F8 F6 (hv24 V) (hv25 V) rfl rfl (by decide) (by decide) (cbS re_x61100 (cbS re_x61101 (cbS re_x61102 (cbS re_x61103 (cbS re_x61104 cb0))))) (Sf.mem (mG (i := 0) rfl)) (rest := [(.ref a2)]) (W := 1) rfl rfl at_128 (pc' := 131) rfl (by decide) (by decide) (by decide) (by decide) ?_
  intro T9 h9_ t10 k11 g14 H9 K12 S13
  have nt10 : n0 ≤ t10 := Nat.le_trans H1.le g14
  refine G.astore H9 (L' := #[.val (.int x70000), .val (.int x70001), .val (.int x70002), .val (.int x70003), .val (.int x70004), .val (.int x70005), .val (.int x70006), .val (.int x70007), .val (.int x70008), .val (.int x70009), .val (.ref a2), .val (.ref p0)]) at_131 (pc' := 133) rfl rfl rfl ?_
  refine G.aload H9 at_133 (pc' := 135) rfl rfl rfl ?_
  refine G.callS H9 (m8_named V a2 t10 k11 x61100 x61101 x61102 x61103 x61104 h9_ H9.old S13) (wd35 V) (wd36 V) (wd37 V) (wd38 V) (by decide) (argsL := [(.ref a2)]) (rest := []) (W := 0) rfl rfl (lenOf (pd_2) rfl) rfl rfl at_135 (pc' := 138) rfl (by decide) (by decide) (by decide) (by decide) all0 ?_
  intro T15 h15_ v16 s17 H15 Q18
  obtain ⟨rfl, rfl, K19⟩ := Q18
  show Go p e below _ (T15.setTop (mkF m 138 #[.val (.int x70000), .val (.int x70001), .val (.int x70002), .val (.int x70003), .val (.int x70004), .val (.int x70005), .val (.int x70006), .val (.int x70007), .val (.int x70008), .val (.int x70009), .val (.ref a2), .val (.ref p0)] [.null]))
  refine G.astore H15 (L' := #[.val (.int x70000), .val (.int x70001), .val (.int x70002), .val (.int x70003), .val (.int x70004), .val (.int x70005), .val (.int x70006), .val (.int x70007), .val (.int x70008), .val (.int x70009), .val (.ref a2), .val .null]) at_138 (pc' := 140) rfl rfl rfl ?_
  refine G.aload H15 at_140 (pc' := 142) rfl rfl rfl ?_
  refine G.aload H15 at_142 (pc' := 144) rfl rfl rfl ?_
  have F20 := (Str.keep S13 K19 nin0 nin0)
  refine G.callS H15 (m9_expected V a2 t10 k11 x61100 x61101 x61102 x61103 x61104 h15_ H15.old F20) (wd69 V) (wd70 V) (wd3 V) (wd71 V) (by decide) (argsL := [(.ref a2)]) (rest := [.null]) (W := 1) rfl rfl (lenOf (pd_2) rfl) rfl rfl at_144 (pc' := 147) rfl (by decide) (by decide) (by decide) (by decide) (allS (mG (i := 1) rfl) (allS (mG (i := 0) rfl) all0)) ?_
  intro T21 h21_ v22 s23 H21 Q24
  obtain ⟨rfl, rfl, K25⟩ := Q24
  show Go p e below _ (T21.setTop (mkF m 147 #[.val (.int x70000), .val (.int x70001), .val (.int x70002), .val (.int x70003), .val (.int x70004), .val (.int x70005), .val (.int x70006), .val (.int x70007), .val (.int x70008), .val (.int x70009), .val (.ref a2), .val .null] [.null, .null]))
  refine G.acmpNo H21 at_147 (pc' := 150) rfl rfl rfl (XT.aa_ne_f rfl) ?_
  refine G.iconst H21 at_150 (pc' := 151) rfl (v := 1) rfl ?_
  refine G.goto H21 at_151 (by decide) (pc' := 155) rfl ?_
  exact G.retN H21 (t := .boolean) rfl (by decide) at_155 (so := []) all0 (by decide) (by decide) rfl
set_option maxRecDepth 65536 in
set_option maxHeartbeats 40000000 in
theorem m11_base (V : Env1 Z a0 n0 uu0 uu1 uu2 uu3 uu4 uu5 uu6 uu7 uu8 uu9 uu10 uu11 uu12 uu13 uu14 uu15) (x0 : Int32) (h0 : Heap) (hO : Old Z n0 h0)  :
    Met Z a0 ELs True n0 l (⟨"bindery/server/stomp/AckModeNamedPinLaw", "base", "(IIC)[C"⟩ : MethodName) method_5_code 3 (Option.some (FieldType.array FieldType.char)) ({ frames := 0, cells := 1, slots := 3, locals := 0 } : Room) #[(.int 0), (.int 2), (.int x0)] h0 [] (fun v h so => (∃ a2 : Addr, ∃ k5 : ClassId, v = some (.ref a2) ∧ so = [] ∧ Keep h0 h [] ∧ h0.size ≤ a2 ∧ Arv Z h a2 k5 .char 3 [(.int 97), (.int 117), (.int 116)] (.int 0) ∧ Exa Z h a2 "[C")) := by
  refine Met.of (EWl V) (by first | decide +kernel | rfl) hO (L0 := #[.val (.int 0), .val (.int 2), .val (.int x0)]) rfl ?_
  intro p e s m below meth c T H
  show Go p e below _ (T.setTop (mkF m 0 #[.val (.int 0), .val (.int 2), .val (.int x0)] []))
  refine G.iloadN H D5_0 (pc' := 1) rfl rfl ?_
  refine G.ifNo H D5_1 (pc' := 4) rfl (by decide) ?_
  refine G.iloadN H D5_4 (pc' := 5) rfl rfl ?_
  refine G.ifYes H D5_5 (by decide) (by decide) (pc' := 32) rfl ?_
  refine G.iloadN H D5_32 (pc' := 33) rfl rfl ?_
  refine G.iconst H D5_33 (pc' := 34) rfl (v := 1) rfl ?_
  refine G.icmpYes H D5_34 (by decide) (by decide) (pc' := 65) rfl ?_
  refine G.iconst H D5_65 (pc' := 66) rfl (v := 3) rfl ?_
  refine G.newP H (aty := .char) (wd5 V) D5_66 (pc' := 68) rfl (by decide) (cap := 3) (by decide) (by decide) (by decide) (by decide) (vs := [(.int 0), (.int 0), (.int 0)]) rfl (ad := "[C") rfl ?_
  intro T1 h1_ a2 k5 ga2 H1 E3 A4 X6
  have na2 := H.nle ga2
  replace A4 : Arv Z h1_ a2 k5 .char 3 [(.int 0), (.int 0), (.int 0)] (.int 0) := A4
  refine G.dup H1 D5_68 (pc' := 69) rfl rfl ?_
  refine G.iconst H1 D5_69 (pc' := 70) rfl (v := 0) rfl ?_
  refine G.bipush H1 D5_70 (pc' := 72) rfl (v := 97) rfl ?_
  refine G.stC H1 A4 (by decide) (i := 0) rfl lB na2 (y := 97) rfl D5_72 (pc' := 73) rfl ?_
  intro T7 h7_ H7 W8 A9
  replace A9 : Arv Z h7_ a2 k5 .char 3 [(.int 97), (.int 0), (.int 0)] (.int 0) := A9
  refine G.dup H7 D5_73 (pc' := 74) rfl rfl ?_
  refine G.iconst H7 D5_74 (pc' := 75) rfl (v := 1) rfl ?_
  refine G.bipush H7 D5_75 (pc' := 77) rfl (v := 117) rfl ?_
  refine G.stC H7 A9 (by decide) (i := 1) rfl lB na2 (y := 117) rfl D5_77 (pc' := 78) rfl ?_
  intro T10 h10_ H10 W11 A12
  replace A12 : Arv Z h10_ a2 k5 .char 3 [(.int 97), (.int 117), (.int 0)] (.int 0) := A12
  refine G.dup H10 D5_78 (pc' := 79) rfl rfl ?_
  refine G.iconst H10 D5_79 (pc' := 80) rfl (v := 2) rfl ?_
  refine G.bipush H10 D5_80 (pc' := 82) rfl (v := 116) rfl ?_
  refine G.stC H10 A12 (by decide) (i := 2) rfl lB na2 (y := 116) rfl D5_82 (pc' := 83) rfl ?_
  intro T13 h13_ H13 W14 A15
  replace A15 : Arv Z h13_ a2 k5 .char 3 [(.int 97), (.int 117), (.int 116)] (.int 0) := A15
  have K16 : Keep h1_ h13_ [a2] := (Keep.wr (Keep.wr (Keep.wr (Keep.refl h1_ [a2]) W8 (Or.inl (mG (i := 0) rfl))) W11 (Or.inl (mG (i := 0) rfl))) W14 (Or.inl (mG (i := 0) rfl)))
  have F17 := (Exa.keep X6 K16)
  have K18 : Keep h0 h13_ [] := (Keep.wr (Keep.wr (Keep.wr (Keep.ext (Keep.refl h0 []) E3) W8 (Or.inr (Nat.le_of_eq ga2.symm))) W11 (Or.inr (Nat.le_of_eq ga2.symm))) W14 (Or.inr (Nat.le_of_eq ga2.symm)))
  exact G.retA H13 (t := (.array .char)) rfl rfl rfl D5_83 (so := []) all0 (by decide) (by decide) ⟨a2, k5, rfl, rfl, K18, (Nat.le_of_eq ga2.symm), A15, F17⟩
set_option maxRecDepth 65536 in
set_option maxHeartbeats 40000000 in
theorem m12_named (V : Env1 Z a0 n0 uu0 uu1 uu2 uu3 uu4 uu5 uu6 uu7 uu8 uu9 uu10 uu11 uu12 uu13 uu14 uu15) (p0 : Addr) (p1 : Addr) (c0 : ClassId) (x0 : Int32) (x1 : Int32) (x2 : Int32) (h0 : Heap) (hO : Old Z n0 h0) (f0 : Str Z h0 p0 p1 c0 [x0, x1, x2]) :
    Met Z a0 ELs True n0 l (⟨"bindery/server/stomp/StompConnection$AckMode", "named", "(Ljava/lang/String;)Lbindery/server/stomp/StompConnection$AckMode;"⟩ : MethodName) prog_93_method_4_code 5 (Option.some (FieldType.object "bindery/server/stomp/StompConnection$AckMode")) ({ frames := 2, cells := 1, slots := 3, locals := 28 } : Room) #[(.ref p0)] h0 [] (fun v h so => (v = some .null ∧ so = [] ∧ Keep h0 h [])) := by
  refine Met.of (EWl V) (by first | decide +kernel | rfl) hO (L0 := #[.val (.ref p0), .unset, .unset, .unset, .unset]) rfl ?_
  intro p e s m below meth c T H
  show Go p e below _ (T.setTop (mkF m 0 #[.val (.ref p0), .unset, .unset, .unset, .unset] []))
  refine G.callS H (m2_values V h0 H.old) (wd39 V) (wd40 V) (wd37 V) (wd41 V) (by decide) (argsL := []) (rest := []) (W := 0) rfl rfl (lenOf (pd_1) rfl) rfl rfl D7_0 (pc' := 3) rfl (by decide) (by decide) (by decide) (by decide) all0 ?_
  intro T1 h1_ v2 s3 H1 Q4
  obtain ⟨a5, k6, rfl, rfl, K7, g8, F9, F10⟩ := Q4
  have na5 : n0 ≤ a5 := Nat.le_trans H.le g8
  show Go p e below _ (T1.setTop (mkF m 3 #[.val (.ref p0), .unset, .unset, .unset, .unset] [(.ref a5)]))
  refine G.astoreN H1 (L' := #[.val (.ref p0), .val (.ref a5), .unset, .unset, .unset]) D7_3 (pc' := 4) rfl rfl rfl ?_
  refine G.aloadN H1 D7_4 (pc' := 5) rfl rfl rfl ?_
  refine G.arrlen H1 F9 D7_5 (pc' := 6) rfl ?_
  refine G.istoreN H1 (L' := #[.val (.ref p0), .val (.ref a5), .val (.int 3), .unset, .unset]) D7_6 (pc' := 7) rfl rfl ?_
  refine G.iconst H1 D7_7 (pc' := 8) rfl (v := 0) rfl ?_
  refine G.istoreN H1 (L' := #[.val (.ref p0), .val (.ref a5), .val (.int 3), .val (.int 0), .unset]) D7_8 (pc' := 9) rfl rfl ?_
  refine G.iloadN H1 D7_9 (pc' := 10) rfl rfl ?_
  refine G.iloadN H1 D7_10 (pc' := 11) rfl rfl ?_
  refine G.icmpNo H1 D7_11 (pc' := 14) rfl (by decide) ?_
  refine G.aloadN H1 D7_14 (pc' := 15) rfl rfl rfl ?_
  refine G.iloadN H1 D7_15 (pc' := 16) rfl rfl ?_
  refine G.aaloadG H1 F9 rfl (j := 0) (v := (.ref uu1)) (by decide) rfl D7_16 (pc' := 17) rfl ?_
  refine G.astore H1 (L' := #[.val (.ref p0), .val (.ref a5), .val (.int 3), .val (.int 0), .val (.ref uu1)]) D7_17 (pc' := 19) rfl rfl rfl ?_
  refine G.aload H1 D7_19 (pc' := 21) rfl rfl rfl ?_
  have B11 := Fld.ext H1.old.2 (hv12 V)
  refine G.getF H1 (wd57 V) Via.refl B11 D7_21 (pc' := 24) rfl ?_
  intro T12 H13
  refine G.aloadN H13 D7_24 (pc' := 25) rfl rfl rfl ?_
  have B14 := Str.ext H13.old.2 (hv30 V)
  have F15 := (Str.keep f0 K7 nin0 nin0)
  refine G.strEq H13 (strwEq V) (wd7 V) (wd59 V) (wd60 V) (wd62 V) (wd61 V) B14 F15 (hv24 V) (hv25 V) (rest := []) (W := 0) rfl rfl D7_25 (pc' := 28) rfl (by decide) (by decide) (by decide) (by decide) ?_ ?_
  ·
    intro T16 H17 c18
    exact absurd c18 (by intro qq; simp at qq)
  ·
    intro T19 H20 c21
    refine G.ifYes H20 D7_28 (by decide) (by decide) (pc' := 34) rfl ?_
    refine G.iinc H20 (v := 1) (L' := #[.val (.ref p0), .val (.ref a5), .val (.int 3), .val (.int 1), .val (.ref uu1)]) D7_34 (pc' := 37) rfl rfl rfl rfl ?_
    refine G.goto H20 D7_37 (by decide) (pc' := 9) rfl ?_
    show Go p e below _ (T19.setTop (mkF m 9 #[.val (.ref p0), .val (.ref a5), .val (.int 3), .val (.int 1), .val (.ref uu1)] []))
    refine G.iloadN H20 D7_9 (pc' := 10) rfl rfl ?_
    refine G.iloadN H20 D7_10 (pc' := 11) rfl rfl ?_
    refine G.icmpNo H20 D7_11 (pc' := 14) rfl (by decide) ?_
    refine G.aloadN H20 D7_14 (pc' := 15) rfl rfl rfl ?_
    refine G.iloadN H20 D7_15 (pc' := 16) rfl rfl ?_
    refine G.aaloadG H20 F9 rfl (j := 1) (v := (.ref uu2)) (by decide) rfl D7_16 (pc' := 17) rfl ?_
    refine G.astore H20 (L' := #[.val (.ref p0), .val (.ref a5), .val (.int 3), .val (.int 1), .val (.ref uu2)]) D7_17 (pc' := 19) rfl rfl rfl ?_
    refine G.aload H20 D7_19 (pc' := 21) rfl rfl rfl ?_
    have B22 := Fld.ext H20.old.2 (hv10 V)
    refine G.getF H20 (wd57 V) Via.refl B22 D7_21 (pc' := 24) rfl ?_
    intro T23 H24
    refine G.aloadN H24 D7_24 (pc' := 25) rfl rfl rfl ?_
    have B25 := Str.ext H24.old.2 (hv29 V)
    refine G.strEq H24 (strwEq V) (wd7 V) (wd59 V) (wd60 V) (wd62 V) (wd61 V) B25 F15 (hv24 V) (hv25 V) (rest := []) (W := 0) rfl rfl D7_25 (pc' := 28) rfl (by decide) (by decide) (by decide) (by decide) ?_ ?_
    ·
      intro T26 H27 c28
      exact absurd c28 (by intro qq; simp at qq)
    ·
      intro T29 H30 c31
      refine G.ifYes H30 D7_28 (by decide) (by decide) (pc' := 34) rfl ?_
      refine G.iinc H30 (v := 2) (L' := #[.val (.ref p0), .val (.ref a5), .val (.int 3), .val (.int 2), .val (.ref uu2)]) D7_34 (pc' := 37) rfl rfl rfl rfl ?_
      refine G.goto H30 D7_37 (by decide) (pc' := 9) rfl ?_
      show Go p e below _ (T29.setTop (mkF m 9 #[.val (.ref p0), .val (.ref a5), .val (.int 3), .val (.int 2), .val (.ref uu2)] []))
      refine G.iloadN H30 D7_9 (pc' := 10) rfl rfl ?_
      refine G.iloadN H30 D7_10 (pc' := 11) rfl rfl ?_
      refine G.icmpNo H30 D7_11 (pc' := 14) rfl (by decide) ?_
      refine G.aloadN H30 D7_14 (pc' := 15) rfl rfl rfl ?_
      refine G.iloadN H30 D7_15 (pc' := 16) rfl rfl ?_
      refine G.aaloadG H30 F9 rfl (j := 2) (v := (.ref uu3)) (by decide) rfl D7_16 (pc' := 17) rfl ?_
      refine G.astore H30 (L' := #[.val (.ref p0), .val (.ref a5), .val (.int 3), .val (.int 2), .val (.ref uu3)]) D7_17 (pc' := 19) rfl rfl rfl ?_
      refine G.aload H30 D7_19 (pc' := 21) rfl rfl rfl ?_
      have B32 := Fld.ext H30.old.2 (hv8 V)
      refine G.getF H30 (wd57 V) Via.refl B32 D7_21 (pc' := 24) rfl ?_
      intro T33 H34
      refine G.aloadN H34 D7_24 (pc' := 25) rfl rfl rfl ?_
      have B35 := Str.ext H34.old.2 (hv28 V)
      refine G.strEq H34 (strwEq V) (wd7 V) (wd59 V) (wd60 V) (wd62 V) (wd61 V) B35 F15 (hv24 V) (hv25 V) (rest := []) (W := 0) rfl rfl D7_25 (pc' := 28) rfl (by decide) (by decide) (by decide) (by decide) ?_ ?_
      ·
        intro T36 H37 c38
        exact absurd c38 (by intro qq; simp at qq)
      ·
        intro T39 H40 c41
        refine G.ifYes H40 D7_28 (by decide) (by decide) (pc' := 34) rfl ?_
        refine G.iinc H40 (v := 3) (L' := #[.val (.ref p0), .val (.ref a5), .val (.int 3), .val (.int 3), .val (.ref uu3)]) D7_34 (pc' := 37) rfl rfl rfl rfl ?_
        refine G.goto H40 D7_37 (by decide) (pc' := 9) rfl ?_
        show Go p e below _ (T39.setTop (mkF m 9 #[.val (.ref p0), .val (.ref a5), .val (.int 3), .val (.int 3), .val (.ref uu3)] []))
        refine G.iloadN H40 D7_9 (pc' := 10) rfl rfl ?_
        refine G.iloadN H40 D7_10 (pc' := 11) rfl rfl ?_
        refine G.icmpYes H40 D7_11 (by decide) (by decide) (pc' := 40) rfl ?_
        refine G.aconstNull H40 D7_40 (pc' := 41) rfl ?_
        have K42 : Keep h0 h1_ [] := (Keep.trans (Keep.refl h0 []) K7 all0)
        exact G.retA H40 (t := (.object "bindery/server/stomp/StompConnection$AckMode")) rfl rfl rfl D7_41 (so := []) all0 (by decide) (by decide) ⟨rfl, rfl, K42⟩
set_option maxRecDepth 65536 in
set_option maxHeartbeats 40000000 in
theorem m13_expected (V : Env1 Z a0 n0 uu0 uu1 uu2 uu3 uu4 uu5 uu6 uu7 uu8 uu9 uu10 uu11 uu12 uu13 uu14 uu15) (p0 : Addr) (p1 : Addr) (c0 : ClassId) (x0 : Int32) (x1 : Int32) (x2 : Int32) (h0 : Heap) (hO : Old Z n0 h0) (f0 : Str Z h0 p0 p1 c0 [x0, x1, x2]) :
    Met Z a0 ELs True n0 l (⟨"bindery/server/stomp/AckModeNamedPinLaw", "expected", "(Ljava/lang/String;)Lbindery/server/stomp/StompConnection$AckMode;"⟩ : MethodName) method_3_code 1 (Option.some (FieldType.object "bindery/server/stomp/StompConnection$AckMode")) ({ frames := 2, cells := 6, slots := 120, locals := 28 } : Room) #[(.ref p0)] h0 [p0, p1] (fun v h so => (v = some .null ∧ so = [] ∧ Keep h0 h [])) := by
  refine Met.of (EWl V) (by first | decide +kernel | rfl) hO (L0 := #[.val (.ref p0)]) rfl ?_
  intro p e s m below meth c T H
  show Go p e below _ (T.setTop (mkF m 0 #[.val (.ref p0)] []))
  refine G.aloadN H D3_0 (pc' := 1) rfl rfl rfl ?_
  refine G.ifnonnullYes H D3_1 (by decide) (pc' := 6) rfl ?_
  refine G.aloadN H D3_6 (pc' := 7) rfl rfl rfl ?_
  refine G.ldcS H trivial (wS V) (wd72 V) (by decide) (vs := [(.int 97), (.int 117), (.int 116), (.int 111)]) (z := 4) (by decide) (by decide) rfl (n := 16) (by decide) (by decide) (by decide) (by decide) D3_7 (pc' := 9) rfl ?_
  intro T1 h1_ a2 b4 k5 H1 E3 X6 F7 F8 A9 Q10
  have S11 : Str Z h1_ a2 b4 k5 [97, 117, 116, 111] := ⟨X6, F7, F8, A9, by decide, by decide⟩
  have F12 := (Str.ext E3 f0)
  refine G.strEq H1 (strwEq V) (wd7 V) (wd75 V) (wd60 V) (wd62 V) (wd61 V) F12 S11 (hv24 V) (hv25 V) (rest := []) (W := 0) rfl rfl D3_9 (pc' := 12) rfl (by decide) (by decide) (by decide) (by decide) ?_ ?_
  ·
    intro T13 H14 c15
    exact absurd c15 (by intro qq; simp at qq)
  ·
    intro T16 H17 c18
    refine G.ifYes H17 D3_12 (by decide) (by decide) (pc' := 19) rfl ?_
    refine G.aloadN H17 D3_19 (pc' := 20) rfl rfl rfl ?_
    refine G.ldcS H17 trivial (wS V) (wd80 V) (by decide) (vs := [(.int 99), (.int 108), (.int 105), (.int 101), (.int 110), (.int 116)]) (z := 6) (by decide) (by decide) rfl (n := 24) (by decide) (by decide) (by decide) (by decide) D3_20 (pc' := 22) rfl ?_
    intro T19 h19_ a20 b22 k23 H19 E21 X24 F25 F26 A27 Q28
    have S29 : Str Z h19_ a20 b22 k23 [99, 108, 105, 101, 110, 116] := ⟨X24, F25, F26, A27, by decide, by decide⟩
    have F30 := (Str.ext E21 F12)
    refine G.strEq H19 (strwEq V) (wd7 V) (wd75 V) (wd60 V) (wd62 V) (wd61 V) F30 S29 (hv24 V) (hv25 V) (rest := []) (W := 0) rfl rfl D3_22 (pc' := 25) rfl (by decide) (by decide) (by decide) (by decide) ?_ ?_
    ·
      intro T31 H32 c33
      exact absurd c33 (by intro qq; simp at qq)
    ·
      intro T34 H35 c36
      refine G.ifYes H35 D3_25 (by decide) (by decide) (pc' := 32) rfl ?_
      refine G.aloadN H35 D3_32 (pc' := 33) rfl rfl rfl ?_
      refine G.ldcS H35 trivial (wS V) (wd81 V) (by decide) (vs := [(.int 99), (.int 108), (.int 105), (.int 101), (.int 110), (.int 116), (.int 45), (.int 105), (.int 110), (.int 100), (.int 105), (.int 118), (.int 105), (.int 100), (.int 117), (.int 97), (.int 108)]) (z := 17) (by decide) (by decide) rfl (n := 68) (by decide) (by decide) (by decide) (by decide) D3_33 (pc' := 35) rfl ?_
      intro T37 h37_ a38 b40 k41 H37 E39 X42 F43 F44 A45 Q46
      have S47 : Str Z h37_ a38 b40 k41 [99, 108, 105, 101, 110, 116, 45, 105, 110, 100, 105, 118, 105, 100, 117, 97, 108] := ⟨X42, F43, F44, A45, by decide, by decide⟩
      have F48 := (Str.ext E39 F30)
      refine G.strEq H37 (strwEq V) (wd7 V) (wd75 V) (wd60 V) (wd62 V) (wd61 V) F48 S47 (hv24 V) (hv25 V) (rest := []) (W := 0) rfl rfl D3_35 (pc' := 38) rfl (by decide) (by decide) (by decide) (by decide) ?_ ?_
      ·
        intro T49 H50 c51
        exact absurd c51 (by intro qq; simp at qq)
      ·
        intro T52 H53 c54
        refine G.ifYes H53 D3_38 (by decide) (by decide) (pc' := 45) rfl ?_
        refine G.aconstNull H53 D3_45 (pc' := 46) rfl ?_
        have K55 : Keep h0 h37_ [] := (Keep.ext (Keep.ext (Keep.ext (Keep.refl h0 []) E3) E21) E39)
        exact G.retA H53 (t := (.object "bindery/server/stomp/StompConnection$AckMode")) rfl rfl rfl D3_46 (so := []) all0 (by decide) (by decide) ⟨rfl, rfl, K55⟩
set_option maxRecDepth 65536 in
set_option maxHeartbeats 40000000 in
theorem cut14_122 (V : Env1 Z a0 n0 uu0 uu1 uu2 uu3 uu4 uu5 uu6 uu7 uu8 uu9 uu10 uu11 uu12 uu13 uu14 uu15) (x70000 : Int32) (x70001 : Int32) (x70002 : Int32) (x70003 : Int32) (x70004 : Int32) (x70005 : Int32) (x70006 : Int32) (x70007 : Int32) (x70008 : Int32) (x70009 : Int32) (p0 : Addr) (c0 : ClassId) (x61100 : Int32) (x61101 : Int32) (x61102 : Int32) (H : Hs p l e room_1 s m as' below meth c Z a0 ELs True x.cls n0 code maxLocals ret x.name T h0 1 3 []) (re_x61100 : ¬ x61100 < 0 ∧ ¬ 255 < x61100) (re_x61101 : ¬ x61101 < 0 ∧ ¬ 255 < x61101) (re_x61102 : ¬ x61102 < 0 ∧ ¬ 255 < x61102) (fA11 : Arv Z h0 p0 c0 .char 3 [(.int x61100), (.int x61101), (.int x61102)] (.int 0)) :
    Go p e below (FinP s below Z ELs True n0 room_1.cells room_1.slots (fun v h so => v = some (.int 1))) (T.setTop (mkF m 122 #[.val (.int x70000), .val (.int x70001), .val (.int x70002), .val (.int x70003), .val (.int x70004), .val (.int x70005), .val (.int x70006), .val (.int x70007), .val (.int x70008), .val (.int x70009), .unset, .val (.ref p0)] [])) := by
  refine G.new H (wd6 V) (wd7 V) (wd8 V) at_122 (pc' := 125) rfl (by decide) (by decide) ?_
  intro T1 h1_ a2 ga2 H1 E3 A4 D5
  have na2 := H.nle ga2
  refine G.dup H1 at_125 (pc' := 126) rfl rfl ?_
  refine G.aload H1 at_126 (pc' := 128) rfl rfl rfl ?_
  have F6 := (Arv.ext fA11 E3)
  have F7 : Fld Z h1_ a2 "java/lang/String" "value" "[B" .null := D5 (Or.inr (wd34 V)) (ty := (.array .byte)) (by decide)
  have F8 : Fld Z h1_ a2 "java/lang/String" "coder" "B" (.int 0) := D5 (Or.inr (wd32 V)) (ty := .byte) (by decide)
  refine G.newStr H1 (strw V) (wd7 V) (wd9 V) (wd10 V) (cs := [x61100, x61101, x61102]) (n := 3) na2 A4 F7 F8 F6 (hv24 V) (hv25 V) rfl rfl (by decide) (by decide) (cbS re_x61100 (cbS re_x61101 (cbS re_x61102 cb0))) (Sf.mem (mG (i := 0) rfl)) (rest := [(.ref a2)]) (W := 1) rfl rfl at_128 (pc' := 131) rfl (by decide) (by decide) (by decide) (by decide) ?_
  intro T9 h9_ t10 k11 g14 H9 K12 S13
  have nt10 : n0 ≤ t10 := Nat.le_trans H1.le g14
  refine G.astore H9 (L' := #[.val (.int x70000), .val (.int x70001), .val (.int x70002), .val (.int x70003), .val (.int x70004), .val (.int x70005), .val (.int x70006), .val (.int x70007), .val (.int x70008), .val (.int x70009), .val (.ref a2), .val (.ref p0)]) at_131 (pc' := 133) rfl rfl rfl ?_
  refine G.aload H9 at_133 (pc' := 135) rfl rfl rfl ?_
  refine G.callS H9 (m12_named V a2 t10 k11 x61100 x61101 x61102 h9_ H9.old S13) (wd35 V) (wd36 V) (wd37 V) (wd38 V) (by decide) (argsL := [(.ref a2)]) (rest := []) (W := 0) rfl rfl (lenOf (pd_2) rfl) rfl rfl at_135 (pc' := 138) rfl (by decide) (by decide) (by decide) (by decide) all0 ?_
  intro T15 h15_ v16 s17 H15 Q18
  obtain ⟨rfl, rfl, K19⟩ := Q18
  show Go p e below _ (T15.setTop (mkF m 138 #[.val (.int x70000), .val (.int x70001), .val (.int x70002), .val (.int x70003), .val (.int x70004), .val (.int x70005), .val (.int x70006), .val (.int x70007), .val (.int x70008), .val (.int x70009), .val (.ref a2), .val (.ref p0)] [.null]))
  refine G.astore H15 (L' := #[.val (.int x70000), .val (.int x70001), .val (.int x70002), .val (.int x70003), .val (.int x70004), .val (.int x70005), .val (.int x70006), .val (.int x70007), .val (.int x70008), .val (.int x70009), .val (.ref a2), .val .null]) at_138 (pc' := 140) rfl rfl rfl ?_
  refine G.aload H15 at_140 (pc' := 142) rfl rfl rfl ?_
  refine G.aload H15 at_142 (pc' := 144) rfl rfl rfl ?_
  have F20 := (Str.keep S13 K19 nin0 nin0)
  refine G.callS H15 (m13_expected V a2 t10 k11 x61100 x61101 x61102 h15_ H15.old F20) (wd69 V) (wd70 V) (wd3 V) (wd71 V) (by decide) (argsL := [(.ref a2)]) (rest := [.null]) (W := 1) rfl rfl (lenOf (pd_2) rfl) rfl rfl at_144 (pc' := 147) rfl (by decide) (by decide) (by decide) (by decide) (allS (mG (i := 1) rfl) (allS (mG (i := 0) rfl) all0)) ?_
  intro T21 h21_ v22 s23 H21 Q24
  obtain ⟨rfl, rfl, K25⟩ := Q24
  show Go p e below _ (T21.setTop (mkF m 147 #[.val (.int x70000), .val (.int x70001), .val (.int x70002), .val (.int x70003), .val (.int x70004), .val (.int x70005), .val (.int x70006), .val (.int x70007), .val (.int x70008), .val (.int x70009), .val (.ref a2), .val .null] [.null, .null]))
  refine G.acmpNo H21 at_147 (pc' := 150) rfl rfl rfl (XT.aa_ne_f rfl) ?_
  refine G.iconst H21 at_150 (pc' := 151) rfl (v := 1) rfl ?_
  refine G.goto H21 at_151 (by decide) (pc' := 155) rfl ?_
  exact G.retN H21 (t := .boolean) rfl (by decide) at_155 (so := []) all0 (by decide) (by decide) rfl
set_option maxRecDepth 65536 in
set_option maxHeartbeats 40000000 in
theorem cut15_87 (V : Env1 Z a0 n0 uu0 uu1 uu2 uu3 uu4 uu5 uu6 uu7 uu8 uu9 uu10 uu11 uu12 uu13 uu14 uu15) (x90087 : Int32) (x0 : Int32) (x1 : Int32) (x2 : Int32) (x3 : Int32) (x4 : Int32) (x800340 : Int32) (H : Hs p l e room_1 s m as' below meth c Z a0 ELs True x.cls n0 code maxLocals ret x.name T h0 0 0 []) (sp : x90087 = 0 ∨ x90087 = 1 ∨ x90087 = 2) (cc1 : x800340 = 0) :
    Go p e below (FinP s below Z ELs True n0 room_1.cells room_1.slots (fun v h so => v = some (.int 1))) (T.setTop (mkF m 87 #[.val (.int x0), .val (.int x1), .val (.int x2), .val (.int x3), .val (.int x4), .val (.int 0), .val (.int x90087), .val (.int x800340), .val (.int (x2 &&& 255)), .val (.int ((XT.ushr x2 8) &&& 255)), .unset, .unset] [])) := by
  rcases sp with rfl | rfl | rfl
  ·
    refine G.iload H at_87 (pc' := 89) rfl rfl ?_
    refine G.iload H at_89 (pc' := 91) rfl rfl ?_
    refine G.iload H at_91 (pc' := 93) rfl rfl ?_
    refine G.callS H (m1_base V ((XT.ushr x2 8) &&& 255) h0 H.old) (wd1 V) (wd2 V) (wd3 V) (wd4 V) (by decide) (argsL := [(.int 0), (.int 0), (.int ((XT.ushr x2 8) &&& 255))]) (rest := []) (W := 0) rfl rfl (lenOf (pd_0) rfl) rfl rfl at_93 (pc' := 96) rfl (by decide) (by decide) (by decide) (by decide) all0 ?_
    intro T1 h1_ v2 s3 H1 Q4
    obtain ⟨a5, k6, rfl, rfl, K7, g8, F9, F10⟩ := Q4
    have na5 : n0 ≤ a5 := Nat.le_trans H.le g8
    show Go p e below _ (T1.setTop (mkF m 96 #[.val (.int x0), .val (.int x1), .val (.int x2), .val (.int x3), .val (.int x4), .val (.int 0), .val (.int 0), .val (.int x800340), .val (.int (x2 &&& 255)), .val (.int ((XT.ushr x2 8) &&& 255)), .unset, .unset] [(.ref a5)]))
    refine G.astore H1 (L' := #[.val (.int x0), .val (.int x1), .val (.int x2), .val (.int x3), .val (.int x4), .val (.int 0), .val (.int 0), .val (.int x800340), .val (.int (x2 &&& 255)), .val (.int ((XT.ushr x2 8) &&& 255)), .unset, .val (.ref a5)]) at_96 (pc' := 98) rfl rfl rfl ?_
    refine G.iload H1 at_98 (pc' := 100) rfl rfl ?_
    refine G.ifYes H1 at_100 (XT.i0_eq_t cc1) (by decide) (pc' := 122) rfl ?_
    exact cut6_122 V x0 x1 x2 x3 x4 0 0 x800340 (x2 &&& 255) ((XT.ushr x2 8) &&& 255) a5 k6 97 117 116 111 ((H1.less all0).mono (C' := 1) (S' := 4) (by decide) (by decide)) (by decide) (by decide) (by decide) (by decide) F9
  ·
    refine G.iload H at_87 (pc' := 89) rfl rfl ?_
    refine G.iload H at_89 (pc' := 91) rfl rfl ?_
    refine G.iload H at_91 (pc' := 93) rfl rfl ?_
    refine G.callS H (m7_base V ((XT.ushr x2 8) &&& 255) h0 H.old (own_u16 (own_and255 _))) (wd1 V) (wd2 V) (wd3 V) (wd4 V) (by decide) (argsL := [(.int 0), (.int 1), (.int ((XT.ushr x2 8) &&& 255))]) (rest := []) (W := 0) rfl rfl (lenOf (pd_0) rfl) rfl rfl at_93 (pc' := 96) rfl (by decide) (by decide) (by decide) (by decide) all0 ?_
    intro T11 h11_ v12 s13 H11 Q14
    obtain ⟨a15, k16, rfl, rfl, K17, g18, F19, F20⟩ := Q14
    have na15 : n0 ≤ a15 := Nat.le_trans H.le g18
    show Go p e below _ (T11.setTop (mkF m 96 #[.val (.int x0), .val (.int x1), .val (.int x2), .val (.int x3), .val (.int x4), .val (.int 0), .val (.int 1), .val (.int x800340), .val (.int (x2 &&& 255)), .val (.int ((XT.ushr x2 8) &&& 255)), .unset, .unset] [(.ref a15)]))
    refine G.astore H11 (L' := #[.val (.int x0), .val (.int x1), .val (.int x2), .val (.int x3), .val (.int x4), .val (.int 0), .val (.int 1), .val (.int x800340), .val (.int (x2 &&& 255)), .val (.int ((XT.ushr x2 8) &&& 255)), .unset, .val (.ref a15)]) at_96 (pc' := 98) rfl rfl rfl ?_
    refine G.iload H11 at_98 (pc' := 100) rfl rfl ?_
    refine G.ifYes H11 at_100 (XT.i0_eq_t cc1) (by decide) (pc' := 122) rfl ?_
    exact cut10_122 V x0 x1 x2 x3 x4 0 1 x800340 (x2 &&& 255) ((XT.ushr x2 8) &&& 255) a15 k16 97 117 116 111 ((XT.ushr x2 8) &&& 255) ((H11.less all0).mono (C' := 1) (S' := 5) (by decide) (by decide)) (by decide) (by decide) (by decide) (by decide) (own_and255 _) F19
  ·
    refine G.iload H at_87 (pc' := 89) rfl rfl ?_
    refine G.iload H at_89 (pc' := 91) rfl rfl ?_
    refine G.iload H at_91 (pc' := 93) rfl rfl ?_
    refine G.callS H (m11_base V ((XT.ushr x2 8) &&& 255) h0 H.old) (wd1 V) (wd2 V) (wd3 V) (wd4 V) (by decide) (argsL := [(.int 0), (.int 2), (.int ((XT.ushr x2 8) &&& 255))]) (rest := []) (W := 0) rfl rfl (lenOf (pd_0) rfl) rfl rfl at_93 (pc' := 96) rfl (by decide) (by decide) (by decide) (by decide) all0 ?_
    intro T21 h21_ v22 s23 H21 Q24
    obtain ⟨a25, k26, rfl, rfl, K27, g28, F29, F30⟩ := Q24
    have na25 : n0 ≤ a25 := Nat.le_trans H.le g28
    show Go p e below _ (T21.setTop (mkF m 96 #[.val (.int x0), .val (.int x1), .val (.int x2), .val (.int x3), .val (.int x4), .val (.int 0), .val (.int 2), .val (.int x800340), .val (.int (x2 &&& 255)), .val (.int ((XT.ushr x2 8) &&& 255)), .unset, .unset] [(.ref a25)]))
    refine G.astore H21 (L' := #[.val (.int x0), .val (.int x1), .val (.int x2), .val (.int x3), .val (.int x4), .val (.int 0), .val (.int 2), .val (.int x800340), .val (.int (x2 &&& 255)), .val (.int ((XT.ushr x2 8) &&& 255)), .unset, .val (.ref a25)]) at_96 (pc' := 98) rfl rfl rfl ?_
    refine G.iload H21 at_98 (pc' := 100) rfl rfl ?_
    refine G.ifYes H21 at_100 (XT.i0_eq_t cc1) (by decide) (pc' := 122) rfl ?_
    exact cut14_122 V x0 x1 x2 x3 x4 0 2 x800340 (x2 &&& 255) ((XT.ushr x2 8) &&& 255) a25 k26 97 117 116 ((H21.less all0).mono (C' := 1) (S' := 3) (by decide) (by decide)) (by decide) (by decide) (by decide) F29
set_option maxRecDepth 65536 in
set_option maxHeartbeats 40000000 in
theorem m16_base (V : Env1 Z a0 n0 uu0 uu1 uu2 uu3 uu4 uu5 uu6 uu7 uu8 uu9 uu10 uu11 uu12 uu13 uu14 uu15) (x0 : Int32) (h0 : Heap) (hO : Old Z n0 h0)  :
    Met Z a0 ELs True n0 l (⟨"bindery/server/stomp/AckModeNamedPinLaw", "base", "(IIC)[C"⟩ : MethodName) method_5_code 3 (Option.some (FieldType.array FieldType.char)) ({ frames := 0, cells := 1, slots := 6, locals := 0 } : Room) #[(.int 1), (.int 0), (.int x0)] h0 [] (fun v h so => (∃ a2 : Addr, ∃ k5 : ClassId, v = some (.ref a2) ∧ so = [] ∧ Keep h0 h [] ∧ h0.size ≤ a2 ∧ Arv Z h a2 k5 .char 6 [(.int 99), (.int 108), (.int 105), (.int 101), (.int 110), (.int 116)] (.int 0) ∧ Exa Z h a2 "[C")) := by
  refine Met.of (EWl V) (by first | decide +kernel | rfl) hO (L0 := #[.val (.int 1), .val (.int 0), .val (.int x0)]) rfl ?_
  intro p e s m below meth c T H
  show Go p e below _ (T.setTop (mkF m 0 #[.val (.int 1), .val (.int 0), .val (.int x0)] []))
  refine G.iloadN H D5_0 (pc' := 1) rfl rfl ?_
  refine G.ifYes H D5_1 (by decide) (by decide) (pc' := 84) rfl ?_
  refine G.iloadN H D5_84 (pc' := 85) rfl rfl ?_
  refine G.iconst H D5_85 (pc' := 86) rfl (v := 1) rfl ?_
  refine G.icmpNo H D5_86 (pc' := 89) rfl (by decide) ?_
  refine G.iloadN H D5_89 (pc' := 90) rfl rfl ?_
  refine G.ifNo H D5_90 (pc' := 93) rfl (by decide) ?_
  refine G.bipush H D5_93 (pc' := 95) rfl (v := 6) rfl ?_
  refine G.newP H (aty := .char) (wd5 V) D5_95 (pc' := 97) rfl (by decide) (cap := 6) (by decide) (by decide) (by decide) (by decide) (vs := [(.int 0), (.int 0), (.int 0), (.int 0), (.int 0), (.int 0)]) rfl (ad := "[C") rfl ?_
  intro T1 h1_ a2 k5 ga2 H1 E3 A4 X6
  have na2 := H.nle ga2
  replace A4 : Arv Z h1_ a2 k5 .char 6 [(.int 0), (.int 0), (.int 0), (.int 0), (.int 0), (.int 0)] (.int 0) := A4
  refine G.dup H1 D5_97 (pc' := 98) rfl rfl ?_
  refine G.iconst H1 D5_98 (pc' := 99) rfl (v := 0) rfl ?_
  refine G.bipush H1 D5_99 (pc' := 101) rfl (v := 99) rfl ?_
  refine G.stC H1 A4 (by decide) (i := 0) rfl lB na2 (y := 99) rfl D5_101 (pc' := 102) rfl ?_
  intro T7 h7_ H7 W8 A9
  replace A9 : Arv Z h7_ a2 k5 .char 6 [(.int 99), (.int 0), (.int 0), (.int 0), (.int 0), (.int 0)] (.int 0) := A9
  refine G.dup H7 D5_102 (pc' := 103) rfl rfl ?_
  refine G.iconst H7 D5_103 (pc' := 104) rfl (v := 1) rfl ?_
  refine G.bipush H7 D5_104 (pc' := 106) rfl (v := 108) rfl ?_
  refine G.stC H7 A9 (by decide) (i := 1) rfl lB na2 (y := 108) rfl D5_106 (pc' := 107) rfl ?_
  intro T10 h10_ H10 W11 A12
  replace A12 : Arv Z h10_ a2 k5 .char 6 [(.int 99), (.int 108), (.int 0), (.int 0), (.int 0), (.int 0)] (.int 0) := A12
  refine G.dup H10 D5_107 (pc' := 108) rfl rfl ?_
  refine G.iconst H10 D5_108 (pc' := 109) rfl (v := 2) rfl ?_
  refine G.bipush H10 D5_109 (pc' := 111) rfl (v := 105) rfl ?_
  refine G.stC H10 A12 (by decide) (i := 2) rfl lB na2 (y := 105) rfl D5_111 (pc' := 112) rfl ?_
  intro T13 h13_ H13 W14 A15
  replace A15 : Arv Z h13_ a2 k5 .char 6 [(.int 99), (.int 108), (.int 105), (.int 0), (.int 0), (.int 0)] (.int 0) := A15
  refine G.dup H13 D5_112 (pc' := 113) rfl rfl ?_
  refine G.iconst H13 D5_113 (pc' := 114) rfl (v := 3) rfl ?_
  refine G.bipush H13 D5_114 (pc' := 116) rfl (v := 101) rfl ?_
  refine G.stC H13 A15 (by decide) (i := 3) rfl lB na2 (y := 101) rfl D5_116 (pc' := 117) rfl ?_
  intro T16 h16_ H16 W17 A18
  replace A18 : Arv Z h16_ a2 k5 .char 6 [(.int 99), (.int 108), (.int 105), (.int 101), (.int 0), (.int 0)] (.int 0) := A18
  refine G.dup H16 D5_117 (pc' := 118) rfl rfl ?_
  refine G.iconst H16 D5_118 (pc' := 119) rfl (v := 4) rfl ?_
  refine G.bipush H16 D5_119 (pc' := 121) rfl (v := 110) rfl ?_
  refine G.stC H16 A18 (by decide) (i := 4) rfl lB na2 (y := 110) rfl D5_121 (pc' := 122) rfl ?_
  intro T19 h19_ H19 W20 A21
  replace A21 : Arv Z h19_ a2 k5 .char 6 [(.int 99), (.int 108), (.int 105), (.int 101), (.int 110), (.int 0)] (.int 0) := A21
  refine G.dup H19 D5_122 (pc' := 123) rfl rfl ?_
  refine G.iconst H19 D5_123 (pc' := 124) rfl (v := 5) rfl ?_
  refine G.bipush H19 D5_124 (pc' := 126) rfl (v := 116) rfl ?_
  refine G.stC H19 A21 (by decide) (i := 5) rfl lB na2 (y := 116) rfl D5_126 (pc' := 127) rfl ?_
  intro T22 h22_ H22 W23 A24
  replace A24 : Arv Z h22_ a2 k5 .char 6 [(.int 99), (.int 108), (.int 105), (.int 101), (.int 110), (.int 116)] (.int 0) := A24
  have K25 : Keep h1_ h22_ [a2] := (Keep.wr (Keep.wr (Keep.wr (Keep.wr (Keep.wr (Keep.wr (Keep.refl h1_ [a2]) W8 (Or.inl (mG (i := 0) rfl))) W11 (Or.inl (mG (i := 0) rfl))) W14 (Or.inl (mG (i := 0) rfl))) W17 (Or.inl (mG (i := 0) rfl))) W20 (Or.inl (mG (i := 0) rfl))) W23 (Or.inl (mG (i := 0) rfl)))
  have F26 := (Exa.keep X6 K25)
  have K27 : Keep h0 h22_ [] := (Keep.wr (Keep.wr (Keep.wr (Keep.wr (Keep.wr (Keep.wr (Keep.ext (Keep.refl h0 []) E3) W8 (Or.inr (Nat.le_of_eq ga2.symm))) W11 (Or.inr (Nat.le_of_eq ga2.symm))) W14 (Or.inr (Nat.le_of_eq ga2.symm))) W17 (Or.inr (Nat.le_of_eq ga2.symm))) W20 (Or.inr (Nat.le_of_eq ga2.symm))) W23 (Or.inr (Nat.le_of_eq ga2.symm)))
  exact G.retA H22 (t := (.array .char)) rfl rfl rfl D5_127 (so := []) all0 (by decide) (by decide) ⟨a2, k5, rfl, rfl, K27, (Nat.le_of_eq ga2.symm), A24, F26⟩
set_option maxRecDepth 65536 in
set_option maxHeartbeats 40000000 in
theorem m17_named (V : Env1 Z a0 n0 uu0 uu1 uu2 uu3 uu4 uu5 uu6 uu7 uu8 uu9 uu10 uu11 uu12 uu13 uu14 uu15) (p0 : Addr) (p1 : Addr) (c0 : ClassId) (x0 : Int32) (x1 : Int32) (x2 : Int32) (x3 : Int32) (x4 : Int32) (x5 : Int32) (h0 : Heap) (hO : Old Z n0 h0) (f0 : Str Z h0 p0 p1 c0 [x0, x1, x2, x3, x4, x5]) :
    Met Z a0 ELs True n0 l (⟨"bindery/server/stomp/StompConnection$AckMode", "named", "(Ljava/lang/String;)Lbindery/server/stomp/StompConnection$AckMode;"⟩ : MethodName) prog_93_method_4_code 5 (Option.some (FieldType.object "bindery/server/stomp/StompConnection$AckMode")) ({ frames := 2, cells := 1, slots := 3, locals := 28 } : Room) #[(.ref p0)] h0 [] (fun v h so => ([99, 108, 105, 101, 110, 116] = [x0, x1, x2, x3, x4, x5] ∧ v = some (.ref uu2) ∧ so = [] ∧ Keep h0 h []) ∨ (¬ [99, 108, 105, 101, 110, 116] = [x0, x1, x2, x3, x4, x5] ∧ v = some .null ∧ so = [] ∧ Keep h0 h [])) := by
  refine Met.of (EWl V) (by first | decide +kernel | rfl) hO (L0 := #[.val (.ref p0), .unset, .unset, .unset, .unset]) rfl ?_
  intro p e s m below meth c T H
  show Go p e below _ (T.setTop (mkF m 0 #[.val (.ref p0), .unset, .unset, .unset, .unset] []))
  refine G.callS H (m2_values V h0 H.old) (wd39 V) (wd40 V) (wd37 V) (wd41 V) (by decide) (argsL := []) (rest := []) (W := 0) rfl rfl (lenOf (pd_1) rfl) rfl rfl D7_0 (pc' := 3) rfl (by decide) (by decide) (by decide) (by decide) all0 ?_
  intro T1 h1_ v2 s3 H1 Q4
  obtain ⟨a5, k6, rfl, rfl, K7, g8, F9, F10⟩ := Q4
  have na5 : n0 ≤ a5 := Nat.le_trans H.le g8
  show Go p e below _ (T1.setTop (mkF m 3 #[.val (.ref p0), .unset, .unset, .unset, .unset] [(.ref a5)]))
  refine G.astoreN H1 (L' := #[.val (.ref p0), .val (.ref a5), .unset, .unset, .unset]) D7_3 (pc' := 4) rfl rfl rfl ?_
  refine G.aloadN H1 D7_4 (pc' := 5) rfl rfl rfl ?_
  refine G.arrlen H1 F9 D7_5 (pc' := 6) rfl ?_
  refine G.istoreN H1 (L' := #[.val (.ref p0), .val (.ref a5), .val (.int 3), .unset, .unset]) D7_6 (pc' := 7) rfl rfl ?_
  refine G.iconst H1 D7_7 (pc' := 8) rfl (v := 0) rfl ?_
  refine G.istoreN H1 (L' := #[.val (.ref p0), .val (.ref a5), .val (.int 3), .val (.int 0), .unset]) D7_8 (pc' := 9) rfl rfl ?_
  refine G.iloadN H1 D7_9 (pc' := 10) rfl rfl ?_
  refine G.iloadN H1 D7_10 (pc' := 11) rfl rfl ?_
  refine G.icmpNo H1 D7_11 (pc' := 14) rfl (by decide) ?_
  refine G.aloadN H1 D7_14 (pc' := 15) rfl rfl rfl ?_
  refine G.iloadN H1 D7_15 (pc' := 16) rfl rfl ?_
  refine G.aaloadG H1 F9 rfl (j := 0) (v := (.ref uu1)) (by decide) rfl D7_16 (pc' := 17) rfl ?_
  refine G.astore H1 (L' := #[.val (.ref p0), .val (.ref a5), .val (.int 3), .val (.int 0), .val (.ref uu1)]) D7_17 (pc' := 19) rfl rfl rfl ?_
  refine G.aload H1 D7_19 (pc' := 21) rfl rfl rfl ?_
  have B11 := Fld.ext H1.old.2 (hv12 V)
  refine G.getF H1 (wd57 V) Via.refl B11 D7_21 (pc' := 24) rfl ?_
  intro T12 H13
  refine G.aloadN H13 D7_24 (pc' := 25) rfl rfl rfl ?_
  have B14 := Str.ext H13.old.2 (hv30 V)
  have F15 := (Str.keep f0 K7 nin0 nin0)
  refine G.strEq H13 (strwEq V) (wd7 V) (wd59 V) (wd60 V) (wd62 V) (wd61 V) B14 F15 (hv24 V) (hv25 V) (rest := []) (W := 0) rfl rfl D7_25 (pc' := 28) rfl (by decide) (by decide) (by decide) (by decide) ?_ ?_
  ·
    intro T16 H17 c18
    exact absurd c18 (by intro qq; simp at qq)
  ·
    intro T19 H20 c21
    refine G.ifYes H20 D7_28 (by decide) (by decide) (pc' := 34) rfl ?_
    refine G.iinc H20 (v := 1) (L' := #[.val (.ref p0), .val (.ref a5), .val (.int 3), .val (.int 1), .val (.ref uu1)]) D7_34 (pc' := 37) rfl rfl rfl rfl ?_
    refine G.goto H20 D7_37 (by decide) (pc' := 9) rfl ?_
    show Go p e below _ (T19.setTop (mkF m 9 #[.val (.ref p0), .val (.ref a5), .val (.int 3), .val (.int 1), .val (.ref uu1)] []))
    refine G.iloadN H20 D7_9 (pc' := 10) rfl rfl ?_
    refine G.iloadN H20 D7_10 (pc' := 11) rfl rfl ?_
    refine G.icmpNo H20 D7_11 (pc' := 14) rfl (by decide) ?_
    refine G.aloadN H20 D7_14 (pc' := 15) rfl rfl rfl ?_
    refine G.iloadN H20 D7_15 (pc' := 16) rfl rfl ?_
    refine G.aaloadG H20 F9 rfl (j := 1) (v := (.ref uu2)) (by decide) rfl D7_16 (pc' := 17) rfl ?_
    refine G.astore H20 (L' := #[.val (.ref p0), .val (.ref a5), .val (.int 3), .val (.int 1), .val (.ref uu2)]) D7_17 (pc' := 19) rfl rfl rfl ?_
    refine G.aload H20 D7_19 (pc' := 21) rfl rfl rfl ?_
    have B22 := Fld.ext H20.old.2 (hv10 V)
    refine G.getF H20 (wd57 V) Via.refl B22 D7_21 (pc' := 24) rfl ?_
    intro T23 H24
    refine G.aloadN H24 D7_24 (pc' := 25) rfl rfl rfl ?_
    have B25 := Str.ext H24.old.2 (hv29 V)
    refine G.strEq H24 (strwEq V) (wd7 V) (wd59 V) (wd60 V) (wd62 V) (wd61 V) B25 F15 (hv24 V) (hv25 V) (rest := []) (W := 0) rfl rfl D7_25 (pc' := 28) rfl (by decide) (by decide) (by decide) (by decide) ?_ ?_
    ·
      intro T26 H27 c28
      refine G.ifNo H27 D7_28 (pc' := 31) rfl (by decide) ?_
      refine G.aload H27 D7_31 (pc' := 33) rfl rfl rfl ?_
      have K29 : Keep h0 h1_ [] := (Keep.trans (Keep.refl h0 []) K7 all0)
      exact G.retA H27 (t := (.object "bindery/server/stomp/StompConnection$AckMode")) rfl rfl rfl D7_33 (so := []) all0 (by decide) (by decide) (Or.inl ⟨c28, rfl, rfl, K29⟩)
    ·
      intro T30 H31 c32
      refine G.ifYes H31 D7_28 (by decide) (by decide) (pc' := 34) rfl ?_
      refine G.iinc H31 (v := 2) (L' := #[.val (.ref p0), .val (.ref a5), .val (.int 3), .val (.int 2), .val (.ref uu2)]) D7_34 (pc' := 37) rfl rfl rfl rfl ?_
      refine G.goto H31 D7_37 (by decide) (pc' := 9) rfl ?_
      show Go p e below _ (T30.setTop (mkF m 9 #[.val (.ref p0), .val (.ref a5), .val (.int 3), .val (.int 2), .val (.ref uu2)] []))
      refine G.iloadN H31 D7_9 (pc' := 10) rfl rfl ?_
      refine G.iloadN H31 D7_10 (pc' := 11) rfl rfl ?_
      refine G.icmpNo H31 D7_11 (pc' := 14) rfl (by decide) ?_
      refine G.aloadN H31 D7_14 (pc' := 15) rfl rfl rfl ?_
      refine G.iloadN H31 D7_15 (pc' := 16) rfl rfl ?_
      refine G.aaloadG H31 F9 rfl (j := 2) (v := (.ref uu3)) (by decide) rfl D7_16 (pc' := 17) rfl ?_
      refine G.astore H31 (L' := #[.val (.ref p0), .val (.ref a5), .val (.int 3), .val (.int 2), .val (.ref uu3)]) D7_17 (pc' := 19) rfl rfl rfl ?_
      refine G.aload H31 D7_19 (pc' := 21) rfl rfl rfl ?_
      have B33 := Fld.ext H31.old.2 (hv8 V)
      refine G.getF H31 (wd57 V) Via.refl B33 D7_21 (pc' := 24) rfl ?_
      intro T34 H35
      refine G.aloadN H35 D7_24 (pc' := 25) rfl rfl rfl ?_
      have B36 := Str.ext H35.old.2 (hv28 V)
      refine G.strEq H35 (strwEq V) (wd7 V) (wd59 V) (wd60 V) (wd62 V) (wd61 V) B36 F15 (hv24 V) (hv25 V) (rest := []) (W := 0) rfl rfl D7_25 (pc' := 28) rfl (by decide) (by decide) (by decide) (by decide) ?_ ?_
      ·
        intro T37 H38 c39
        exact absurd c39 (by intro qq; simp at qq)
      ·
        intro T40 H41 c42
        refine G.ifYes H41 D7_28 (by decide) (by decide) (pc' := 34) rfl ?_
        refine G.iinc H41 (v := 3) (L' := #[.val (.ref p0), .val (.ref a5), .val (.int 3), .val (.int 3), .val (.ref uu3)]) D7_34 (pc' := 37) rfl rfl rfl rfl ?_
        refine G.goto H41 D7_37 (by decide) (pc' := 9) rfl ?_
        show Go p e below _ (T40.setTop (mkF m 9 #[.val (.ref p0), .val (.ref a5), .val (.int 3), .val (.int 3), .val (.ref uu3)] []))
        refine G.iloadN H41 D7_9 (pc' := 10) rfl rfl ?_
        refine G.iloadN H41 D7_10 (pc' := 11) rfl rfl ?_
        refine G.icmpYes H41 D7_11 (by decide) (by decide) (pc' := 40) rfl ?_
        refine G.aconstNull H41 D7_40 (pc' := 41) rfl ?_
        have K43 : Keep h0 h1_ [] := (Keep.trans (Keep.refl h0 []) K7 all0)
        exact G.retA H41 (t := (.object "bindery/server/stomp/StompConnection$AckMode")) rfl rfl rfl D7_41 (so := []) all0 (by decide) (by decide) (Or.inr ⟨c32, rfl, rfl, K43⟩)
set_option maxRecDepth 65536 in
set_option maxHeartbeats 40000000 in
theorem m18_expected (V : Env1 Z a0 n0 uu0 uu1 uu2 uu3 uu4 uu5 uu6 uu7 uu8 uu9 uu10 uu11 uu12 uu13 uu14 uu15) (p0 : Addr) (p1 : Addr) (c0 : ClassId) (x0 : Int32) (x1 : Int32) (x2 : Int32) (x3 : Int32) (x4 : Int32) (x5 : Int32) (h0 : Heap) (hO : Old Z n0 h0) (f0 : Str Z h0 p0 p1 c0 [x0, x1, x2, x3, x4, x5]) (cl1 : [x0, x1, x2, x3, x4, x5] = [99, 108, 105, 101, 110, 116]) :
    Met Z a0 ELs True n0 l (⟨"bindery/server/stomp/AckModeNamedPinLaw", "expected", "(Ljava/lang/String;)Lbindery/server/stomp/StompConnection$AckMode;"⟩ : MethodName) method_3_code 1 (Option.some (FieldType.object "bindery/server/stomp/StompConnection$AckMode")) ({ frames := 2, cells := 4, slots := 48, locals := 28 } : Room) #[(.ref p0)] h0 [p0, p1] (fun v h so => ([x0, x1, x2, x3, x4, x5] = [99, 108, 105, 101, 110, 116] ∧ v = some (.ref uu2) ∧ so = [] ∧ Keep h0 h [])) := by
  refine Met.of (EWl V) (by first | decide +kernel | rfl) hO (L0 := #[.val (.ref p0)]) rfl ?_
  intro p e s m below meth c T H
  show Go p e below _ (T.setTop (mkF m 0 #[.val (.ref p0)] []))
  refine G.aloadN H D3_0 (pc' := 1) rfl rfl rfl ?_
  refine G.ifnonnullYes H D3_1 (by decide) (pc' := 6) rfl ?_
  refine G.aloadN H D3_6 (pc' := 7) rfl rfl rfl ?_
  refine G.ldcS H trivial (wS V) (wd72 V) (by decide) (vs := [(.int 97), (.int 117), (.int 116), (.int 111)]) (z := 4) (by decide) (by decide) rfl (n := 16) (by decide) (by decide) (by decide) (by decide) D3_7 (pc' := 9) rfl ?_
  intro T1 h1_ a2 b4 k5 H1 E3 X6 F7 F8 A9 Q10
  have S11 : Str Z h1_ a2 b4 k5 [97, 117, 116, 111] := ⟨X6, F7, F8, A9, by decide, by decide⟩
  have F12 := (Str.ext E3 f0)
  refine G.strEq H1 (strwEq V) (wd7 V) (wd75 V) (wd60 V) (wd62 V) (wd61 V) F12 S11 (hv24 V) (hv25 V) (rest := []) (W := 0) rfl rfl D3_9 (pc' := 12) rfl (by decide) (by decide) (by decide) (by decide) ?_ ?_
  ·
    intro T13 H14 c15
    exact absurd c15 (by intro qq; simp at qq)
  ·
    intro T16 H17 c18
    refine G.ifYes H17 D3_12 (by decide) (by decide) (pc' := 19) rfl ?_
    refine G.aloadN H17 D3_19 (pc' := 20) rfl rfl rfl ?_
    refine G.ldcS H17 trivial (wS V) (wd80 V) (by decide) (vs := [(.int 99), (.int 108), (.int 105), (.int 101), (.int 110), (.int 116)]) (z := 6) (by decide) (by decide) rfl (n := 24) (by decide) (by decide) (by decide) (by decide) D3_20 (pc' := 22) rfl ?_
    intro T19 h19_ a20 b22 k23 H19 E21 X24 F25 F26 A27 Q28
    have S29 : Str Z h19_ a20 b22 k23 [99, 108, 105, 101, 110, 116] := ⟨X24, F25, F26, A27, by decide, by decide⟩
    have F30 := (Str.ext E21 F12)
    refine G.strEq H19 (strwEq V) (wd7 V) (wd75 V) (wd60 V) (wd62 V) (wd61 V) F30 S29 (hv24 V) (hv25 V) (rest := []) (W := 0) rfl rfl D3_22 (pc' := 25) rfl (by decide) (by decide) (by decide) (by decide) ?_ ?_
    ·
      intro T31 H32 c33
      refine G.ifNo H32 D3_25 (pc' := 28) rfl (by decide) ?_
      refine G.getS H32 (wd83 V) Via.refl (Sta.ext H32.old.2 (hv4 V)) D3_28 (pc' := 31) rfl ?_
      intro T34 H35
      have K36 : Keep h0 h19_ [] := (Keep.ext (Keep.ext (Keep.refl h0 []) E3) E21)
      exact G.retA H35 (t := (.object "bindery/server/stomp/StompConnection$AckMode")) rfl rfl rfl D3_31 (so := []) all0 (by decide) (by decide) ⟨c33, rfl, rfl, K36⟩
    ·
      intro T37 H38 c39
      exact absurd cl1 c39
set_option maxRecDepth 65536 in
set_option maxHeartbeats 40000000 in
theorem m19_expected (V : Env1 Z a0 n0 uu0 uu1 uu2 uu3 uu4 uu5 uu6 uu7 uu8 uu9 uu10 uu11 uu12 uu13 uu14 uu15) (p0 : Addr) (p1 : Addr) (c0 : ClassId) (x0 : Int32) (x1 : Int32) (x2 : Int32) (x3 : Int32) (x4 : Int32) (x5 : Int32) (h0 : Heap) (hO : Old Z n0 h0) (f0 : Str Z h0 p0 p1 c0 [x0, x1, x2, x3, x4, x5]) (cl1 : ¬ [x0, x1, x2, x3, x4, x5] = [99, 108, 105, 101, 110, 116]) :
    Met Z a0 ELs True n0 l (⟨"bindery/server/stomp/AckModeNamedPinLaw", "expected", "(Ljava/lang/String;)Lbindery/server/stomp/StompConnection$AckMode;"⟩ : MethodName) method_3_code 1 (Option.some (FieldType.object "bindery/server/stomp/StompConnection$AckMode")) ({ frames := 2, cells := 6, slots := 120, locals := 28 } : Room) #[(.ref p0)] h0 [p0, p1] (fun v h so => (¬ [x0, x1, x2, x3, x4, x5] = [99, 108, 105, 101, 110, 116] ∧ v = some .null ∧ so = [] ∧ Keep h0 h [])) := by
  refine Met.of (EWl V) (by first | decide +kernel | rfl) hO (L0 := #[.val (.ref p0)]) rfl ?_
  intro p e s m below meth c T H
  show Go p e below _ (T.setTop (mkF m 0 #[.val (.ref p0)] []))
  refine G.aloadN H D3_0 (pc' := 1) rfl rfl rfl ?_
  refine G.ifnonnullYes H D3_1 (by decide) (pc' := 6) rfl ?_
  refine G.aloadN H D3_6 (pc' := 7) rfl rfl rfl ?_
  refine G.ldcS H trivial (wS V) (wd72 V) (by decide) (vs := [(.int 97), (.int 117), (.int 116), (.int 111)]) (z := 4) (by decide) (by decide) rfl (n := 16) (by decide) (by decide) (by decide) (by decide) D3_7 (pc' := 9) rfl ?_
  intro T1 h1_ a2 b4 k5 H1 E3 X6 F7 F8 A9 Q10
  have S11 : Str Z h1_ a2 b4 k5 [97, 117, 116, 111] := ⟨X6, F7, F8, A9, by decide, by decide⟩
  have F12 := (Str.ext E3 f0)
  refine G.strEq H1 (strwEq V) (wd7 V) (wd75 V) (wd60 V) (wd62 V) (wd61 V) F12 S11 (hv24 V) (hv25 V) (rest := []) (W := 0) rfl rfl D3_9 (pc' := 12) rfl (by decide) (by decide) (by decide) (by decide) ?_ ?_
  ·
    intro T13 H14 c15
    exact absurd c15 (by intro qq; simp at qq)
  ·
    intro T16 H17 c18
    refine G.ifYes H17 D3_12 (by decide) (by decide) (pc' := 19) rfl ?_
    refine G.aloadN H17 D3_19 (pc' := 20) rfl rfl rfl ?_
    refine G.ldcS H17 trivial (wS V) (wd80 V) (by decide) (vs := [(.int 99), (.int 108), (.int 105), (.int 101), (.int 110), (.int 116)]) (z := 6) (by decide) (by decide) rfl (n := 24) (by decide) (by decide) (by decide) (by decide) D3_20 (pc' := 22) rfl ?_
    intro T19 h19_ a20 b22 k23 H19 E21 X24 F25 F26 A27 Q28
    have S29 : Str Z h19_ a20 b22 k23 [99, 108, 105, 101, 110, 116] := ⟨X24, F25, F26, A27, by decide, by decide⟩
    have F30 := (Str.ext E21 F12)
    refine G.strEq H19 (strwEq V) (wd7 V) (wd75 V) (wd60 V) (wd62 V) (wd61 V) F30 S29 (hv24 V) (hv25 V) (rest := []) (W := 0) rfl rfl D3_22 (pc' := 25) rfl (by decide) (by decide) (by decide) (by decide) ?_ ?_
    ·
      intro T31 H32 c33
      exact absurd c33 cl1
    ·
      intro T34 H35 c36
      refine G.ifYes H35 D3_25 (by decide) (by decide) (pc' := 32) rfl ?_
      refine G.aloadN H35 D3_32 (pc' := 33) rfl rfl rfl ?_
      refine G.ldcS H35 trivial (wS V) (wd81 V) (by decide) (vs := [(.int 99), (.int 108), (.int 105), (.int 101), (.int 110), (.int 116), (.int 45), (.int 105), (.int 110), (.int 100), (.int 105), (.int 118), (.int 105), (.int 100), (.int 117), (.int 97), (.int 108)]) (z := 17) (by decide) (by decide) rfl (n := 68) (by decide) (by decide) (by decide) (by decide) D3_33 (pc' := 35) rfl ?_
      intro T37 h37_ a38 b40 k41 H37 E39 X42 F43 F44 A45 Q46
      have S47 : Str Z h37_ a38 b40 k41 [99, 108, 105, 101, 110, 116, 45, 105, 110, 100, 105, 118, 105, 100, 117, 97, 108] := ⟨X42, F43, F44, A45, by decide, by decide⟩
      have F48 := (Str.ext E39 F30)
      refine G.strEq H37 (strwEq V) (wd7 V) (wd75 V) (wd60 V) (wd62 V) (wd61 V) F48 S47 (hv24 V) (hv25 V) (rest := []) (W := 0) rfl rfl D3_35 (pc' := 38) rfl (by decide) (by decide) (by decide) (by decide) ?_ ?_
      ·
        intro T49 H50 c51
        exact absurd c51 (by intro qq; simp at qq)
      ·
        intro T52 H53 c54
        refine G.ifYes H53 D3_38 (by decide) (by decide) (pc' := 45) rfl ?_
        refine G.aconstNull H53 D3_45 (pc' := 46) rfl ?_
        have K55 : Keep h0 h37_ [] := (Keep.ext (Keep.ext (Keep.ext (Keep.refl h0 []) E3) E21) E39)
        exact G.retA H53 (t := (.object "bindery/server/stomp/StompConnection$AckMode")) rfl rfl rfl D3_46 (so := []) all0 (by decide) (by decide) ⟨c36, rfl, rfl, K55⟩
set_option maxRecDepth 65536 in
set_option maxHeartbeats 40000000 in
theorem cut20_122 (V : Env1 Z a0 n0 uu0 uu1 uu2 uu3 uu4 uu5 uu6 uu7 uu8 uu9 uu10 uu11 uu12 uu13 uu14 uu15) (x70000 : Int32) (x70001 : Int32) (x70002 : Int32) (x70003 : Int32) (x70004 : Int32) (x70005 : Int32) (x70006 : Int32) (x70007 : Int32) (x70008 : Int32) (x70009 : Int32) (p0 : Addr) (c0 : ClassId) (x61100 : Int32) (x61101 : Int32) (x61102 : Int32) (x61103 : Int32) (x61104 : Int32) (x61105 : Int32) (H : Hs p l e room_1 s m as' below meth c Z a0 ELs True x.cls n0 code maxLocals ret x.name T h0 1 6 []) (re_x61100 : ¬ x61100 < 0 ∧ ¬ 255 < x61100) (re_x61101 : ¬ x61101 < 0 ∧ ¬ 255 < x61101) (re_x61102 : ¬ x61102 < 0 ∧ ¬ 255 < x61102) (re_x61103 : ¬ x61103 < 0 ∧ ¬ 255 < x61103) (re_x61104 : ¬ x61104 < 0 ∧ ¬ 255 < x61104) (re_x61105 : ¬ x61105 < 0 ∧ ¬ 255 < x61105) (fA11 : Arv Z h0 p0 c0 .char 6 [(.int x61100), (.int x61101), (.int x61102), (.int x61103), (.int x61104), (.int x61105)] (.int 0)) :
    Go p e below (FinP s below Z ELs True n0 room_1.cells room_1.slots (fun v h so => v = some (.int 1))) (T.setTop (mkF m 122 #[.val (.int x70000), .val (.int x70001), .val (.int x70002), .val (.int x70003), .val (.int x70004), .val (.int x70005), .val (.int x70006), .val (.int x70007), .val (.int x70008), .val (.int x70009), .unset, .val (.ref p0)] [])) := by
  refine G.new H (wd6 V) (wd7 V) (wd8 V) at_122 (pc' := 125) rfl (by decide) (by decide) ?_
  intro T1 h1_ a2 ga2 H1 E3 A4 D5
  have na2 := H.nle ga2
  refine G.dup H1 at_125 (pc' := 126) rfl rfl ?_
  refine G.aload H1 at_126 (pc' := 128) rfl rfl rfl ?_
  have F6 := (Arv.ext fA11 E3)
  have F7 : Fld Z h1_ a2 "java/lang/String" "value" "[B" .null := D5 (Or.inr (wd34 V)) (ty := (.array .byte)) (by decide)
  have F8 : Fld Z h1_ a2 "java/lang/String" "coder" "B" (.int 0) := D5 (Or.inr (wd32 V)) (ty := .byte) (by decide)
  refine G.newStr H1 (strw V) (wd7 V) (wd9 V) (wd10 V) (cs := [x61100, x61101, x61102, x61103, x61104, x61105]) (n := 6) na2 A4 F7 F8 F6 (hv24 V) (hv25 V) rfl rfl (by decide) (by decide) (cbS re_x61100 (cbS re_x61101 (cbS re_x61102 (cbS re_x61103 (cbS re_x61104 (cbS re_x61105 cb0)))))) (Sf.mem (mG (i := 0) rfl)) (rest := [(.ref a2)]) (W := 1) rfl rfl at_128 (pc' := 131) rfl (by decide) (by decide) (by decide) (by decide) ?_
  intro T9 h9_ t10 k11 g14 H9 K12 S13
  have nt10 : n0 ≤ t10 := Nat.le_trans H1.le g14
  refine G.astore H9 (L' := #[.val (.int x70000), .val (.int x70001), .val (.int x70002), .val (.int x70003), .val (.int x70004), .val (.int x70005), .val (.int x70006), .val (.int x70007), .val (.int x70008), .val (.int x70009), .val (.ref a2), .val (.ref p0)]) at_131 (pc' := 133) rfl rfl rfl ?_
  refine G.aload H9 at_133 (pc' := 135) rfl rfl rfl ?_
  refine G.callS H9 (m17_named V a2 t10 k11 x61100 x61101 x61102 x61103 x61104 x61105 h9_ H9.old S13) (wd35 V) (wd36 V) (wd37 V) (wd38 V) (by decide) (argsL := [(.ref a2)]) (rest := []) (W := 0) rfl rfl (lenOf (pd_2) rfl) rfl rfl at_135 (pc' := 138) rfl (by decide) (by decide) (by decide) (by decide) all0 ?_
  intro T15 h15_ v16 s17 H15 Q18
  rcases Q18 with ⟨c19, rfl, rfl, K20⟩ | ⟨c21, rfl, rfl, K22⟩
  ·
    show Go p e below _ (T15.setTop (mkF m 138 #[.val (.int x70000), .val (.int x70001), .val (.int x70002), .val (.int x70003), .val (.int x70004), .val (.int x70005), .val (.int x70006), .val (.int x70007), .val (.int x70008), .val (.int x70009), .val (.ref a2), .val (.ref p0)] [(.ref uu2)]))
    refine G.astore H15 (L' := #[.val (.int x70000), .val (.int x70001), .val (.int x70002), .val (.int x70003), .val (.int x70004), .val (.int x70005), .val (.int x70006), .val (.int x70007), .val (.int x70008), .val (.int x70009), .val (.ref a2), .val (.ref uu2)]) at_138 (pc' := 140) rfl rfl rfl ?_
    refine G.aload H15 at_140 (pc' := 142) rfl rfl rfl ?_
    refine G.aload H15 at_142 (pc' := 144) rfl rfl rfl ?_
    have F23 := (Str.keep S13 K20 nin0 nin0)
    refine G.callS H15 (m18_expected V a2 t10 k11 x61100 x61101 x61102 x61103 x61104 x61105 h15_ H15.old F23 (Eq.symm c19)) (wd69 V) (wd70 V) (wd3 V) (wd71 V) (by decide) (argsL := [(.ref a2)]) (rest := [(.ref uu2)]) (W := 1) rfl rfl (lenOf (pd_2) rfl) rfl rfl at_144 (pc' := 147) rfl (by decide) (by decide) (by decide) (by decide) (allS (mG (i := 1) rfl) (allS (mG (i := 0) rfl) all0)) ?_
    intro T24 h24_ v25 s26 H24 Q27
    obtain ⟨c28, rfl, rfl, K29⟩ := Q27
    show Go p e below _ (T24.setTop (mkF m 147 #[.val (.int x70000), .val (.int x70001), .val (.int x70002), .val (.int x70003), .val (.int x70004), .val (.int x70005), .val (.int x70006), .val (.int x70007), .val (.int x70008), .val (.int x70009), .val (.ref a2), .val (.ref uu2)] [(.ref uu2), (.ref uu2)]))
    refine G.acmpNo H24 at_147 (pc' := 150) rfl rfl rfl (XT.aa_ne_f rfl) ?_
    refine G.iconst H24 at_150 (pc' := 151) rfl (v := 1) rfl ?_
    refine G.goto H24 at_151 (by decide) (pc' := 155) rfl ?_
    exact G.retN H24 (t := .boolean) rfl (by decide) at_155 (so := []) all0 (by decide) (by decide) rfl
  ·
    show Go p e below _ (T15.setTop (mkF m 138 #[.val (.int x70000), .val (.int x70001), .val (.int x70002), .val (.int x70003), .val (.int x70004), .val (.int x70005), .val (.int x70006), .val (.int x70007), .val (.int x70008), .val (.int x70009), .val (.ref a2), .val (.ref p0)] [.null]))
    refine G.astore H15 (L' := #[.val (.int x70000), .val (.int x70001), .val (.int x70002), .val (.int x70003), .val (.int x70004), .val (.int x70005), .val (.int x70006), .val (.int x70007), .val (.int x70008), .val (.int x70009), .val (.ref a2), .val .null]) at_138 (pc' := 140) rfl rfl rfl ?_
    refine G.aload H15 at_140 (pc' := 142) rfl rfl rfl ?_
    refine G.aload H15 at_142 (pc' := 144) rfl rfl rfl ?_
    have F30 := (Str.keep S13 K22 nin0 nin0)
    refine G.callS H15 (m19_expected V a2 t10 k11 x61100 x61101 x61102 x61103 x61104 x61105 h15_ H15.old F30 (fun qq => c21 (Eq.symm qq))) (wd69 V) (wd70 V) (wd3 V) (wd71 V) (by decide) (argsL := [(.ref a2)]) (rest := [.null]) (W := 1) rfl rfl (lenOf (pd_2) rfl) rfl rfl at_144 (pc' := 147) rfl (by decide) (by decide) (by decide) (by decide) (allS (mG (i := 1) rfl) (allS (mG (i := 0) rfl) all0)) ?_
    intro T31 h31_ v32 s33 H31 Q34
    obtain ⟨c35, rfl, rfl, K36⟩ := Q34
    show Go p e below _ (T31.setTop (mkF m 147 #[.val (.int x70000), .val (.int x70001), .val (.int x70002), .val (.int x70003), .val (.int x70004), .val (.int x70005), .val (.int x70006), .val (.int x70007), .val (.int x70008), .val (.int x70009), .val (.ref a2), .val .null] [.null, .null]))
    refine G.acmpNo H31 at_147 (pc' := 150) rfl rfl rfl (XT.aa_ne_f rfl) ?_
    refine G.iconst H31 at_150 (pc' := 151) rfl (v := 1) rfl ?_
    refine G.goto H31 at_151 (by decide) (pc' := 155) rfl ?_
    exact G.retN H31 (t := .boolean) rfl (by decide) at_155 (so := []) all0 (by decide) (by decide) rfl
set_option maxRecDepth 65536 in
set_option maxHeartbeats 40000000 in
theorem m21_base (V : Env1 Z a0 n0 uu0 uu1 uu2 uu3 uu4 uu5 uu6 uu7 uu8 uu9 uu10 uu11 uu12 uu13 uu14 uu15) (x0 : Int32) (h0 : Heap) (hO : Old Z n0 h0) (r0 : ¬ x0 < 0 ∧ ¬ 65535 < x0) :
    Met Z a0 ELs True n0 l (⟨"bindery/server/stomp/AckModeNamedPinLaw", "base", "(IIC)[C"⟩ : MethodName) method_5_code 3 (Option.some (FieldType.array FieldType.char)) ({ frames := 0, cells := 1, slots := 7, locals := 0 } : Room) #[(.int 1), (.int 1), (.int x0)] h0 [] (fun v h so => (∃ a2 : Addr, ∃ k5 : ClassId, v = some (.ref a2) ∧ so = [] ∧ Keep h0 h [] ∧ h0.size ≤ a2 ∧ Arv Z h a2 k5 .char 7 [(.int 99), (.int 108), (.int 105), (.int 101), (.int 110), (.int 116), (.int x0)] (.int 0) ∧ Exa Z h a2 "[C")) := by
  refine Met.of (EWl V) (by first | decide +kernel | rfl) hO (L0 := #[.val (.int 1), .val (.int 1), .val (.int x0)]) rfl ?_
  intro p e s m below meth c T H
  show Go p e below _ (T.setTop (mkF m 0 #[.val (.int 1), .val (.int 1), .val (.int x0)] []))
  refine G.iloadN H D5_0 (pc' := 1) rfl rfl ?_
  refine G.ifYes H D5_1 (by decide) (by decide) (pc' := 84) rfl ?_
  refine G.iloadN H D5_84 (pc' := 85) rfl rfl ?_
  refine G.iconst H D5_85 (pc' := 86) rfl (v := 1) rfl ?_
  refine G.icmpNo H D5_86 (pc' := 89) rfl (by decide) ?_
  refine G.iloadN H D5_89 (pc' := 90) rfl rfl ?_
  refine G.ifYes H D5_90 (by decide) (by decide) (pc' := 128) rfl ?_
  refine G.iloadN H D5_128 (pc' := 129) rfl rfl ?_
  refine G.iconst H D5_129 (pc' := 130) rfl (v := 1) rfl ?_
  refine G.icmpNo H D5_130 (pc' := 133) rfl (by decide) ?_
  refine G.bipush H D5_133 (pc' := 135) rfl (v := 7) rfl ?_
  refine G.newP H (aty := .char) (wd5 V) D5_135 (pc' := 137) rfl (by decide) (cap := 7) (by decide) (by decide) (by decide) (by decide) (vs := [(.int 0), (.int 0), (.int 0), (.int 0), (.int 0), (.int 0), (.int 0)]) rfl (ad := "[C") rfl ?_
  intro T1 h1_ a2 k5 ga2 H1 E3 A4 X6
  have na2 := H.nle ga2
  replace A4 : Arv Z h1_ a2 k5 .char 7 [(.int 0), (.int 0), (.int 0), (.int 0), (.int 0), (.int 0), (.int 0)] (.int 0) := A4
  refine G.dup H1 D5_137 (pc' := 138) rfl rfl ?_
  refine G.iconst H1 D5_138 (pc' := 139) rfl (v := 0) rfl ?_
  refine G.bipush H1 D5_139 (pc' := 141) rfl (v := 99) rfl ?_
  refine G.stC H1 A4 (by decide) (i := 0) rfl lB na2 (y := 99) rfl D5_141 (pc' := 142) rfl ?_
  intro T7 h7_ H7 W8 A9
  replace A9 : Arv Z h7_ a2 k5 .char 7 [(.int 99), (.int 0), (.int 0), (.int 0), (.int 0), (.int 0), (.int 0)] (.int 0) := A9
  refine G.dup H7 D5_142 (pc' := 143) rfl rfl ?_
  refine G.iconst H7 D5_143 (pc' := 144) rfl (v := 1) rfl ?_
  refine G.bipush H7 D5_144 (pc' := 146) rfl (v := 108) rfl ?_
  refine G.stC H7 A9 (by decide) (i := 1) rfl lB na2 (y := 108) rfl D5_146 (pc' := 147) rfl ?_
  intro T10 h10_ H10 W11 A12
  replace A12 : Arv Z h10_ a2 k5 .char 7 [(.int 99), (.int 108), (.int 0), (.int 0), (.int 0), (.int 0), (.int 0)] (.int 0) := A12
  refine G.dup H10 D5_147 (pc' := 148) rfl rfl ?_
  refine G.iconst H10 D5_148 (pc' := 149) rfl (v := 2) rfl ?_
  refine G.bipush H10 D5_149 (pc' := 151) rfl (v := 105) rfl ?_
  refine G.stC H10 A12 (by decide) (i := 2) rfl lB na2 (y := 105) rfl D5_151 (pc' := 152) rfl ?_
  intro T13 h13_ H13 W14 A15
  replace A15 : Arv Z h13_ a2 k5 .char 7 [(.int 99), (.int 108), (.int 105), (.int 0), (.int 0), (.int 0), (.int 0)] (.int 0) := A15
  refine G.dup H13 D5_152 (pc' := 153) rfl rfl ?_
  refine G.iconst H13 D5_153 (pc' := 154) rfl (v := 3) rfl ?_
  refine G.bipush H13 D5_154 (pc' := 156) rfl (v := 101) rfl ?_
  refine G.stC H13 A15 (by decide) (i := 3) rfl lB na2 (y := 101) rfl D5_156 (pc' := 157) rfl ?_
  intro T16 h16_ H16 W17 A18
  replace A18 : Arv Z h16_ a2 k5 .char 7 [(.int 99), (.int 108), (.int 105), (.int 101), (.int 0), (.int 0), (.int 0)] (.int 0) := A18
  refine G.dup H16 D5_157 (pc' := 158) rfl rfl ?_
  refine G.iconst H16 D5_158 (pc' := 159) rfl (v := 4) rfl ?_
  refine G.bipush H16 D5_159 (pc' := 161) rfl (v := 110) rfl ?_
  refine G.stC H16 A18 (by decide) (i := 4) rfl lB na2 (y := 110) rfl D5_161 (pc' := 162) rfl ?_
  intro T19 h19_ H19 W20 A21
  replace A21 : Arv Z h19_ a2 k5 .char 7 [(.int 99), (.int 108), (.int 105), (.int 101), (.int 110), (.int 0), (.int 0)] (.int 0) := A21
  refine G.dup H19 D5_162 (pc' := 163) rfl rfl ?_
  refine G.iconst H19 D5_163 (pc' := 164) rfl (v := 5) rfl ?_
  refine G.bipush H19 D5_164 (pc' := 166) rfl (v := 116) rfl ?_
  refine G.stC H19 A21 (by decide) (i := 5) rfl lB na2 (y := 116) rfl D5_166 (pc' := 167) rfl ?_
  intro T22 h22_ H22 W23 A24
  replace A24 : Arv Z h22_ a2 k5 .char 7 [(.int 99), (.int 108), (.int 105), (.int 101), (.int 110), (.int 116), (.int 0)] (.int 0) := A24
  refine G.dup H22 D5_167 (pc' := 168) rfl rfl ?_
  refine G.bipush H22 D5_168 (pc' := 170) rfl (v := 6) rfl ?_
  refine G.iloadN H22 D5_170 (pc' := 171) rfl rfl ?_
  refine G.stC H22 A24 (by decide) (i := 6) rfl lB na2 (y := x0) (own_narC r0) D5_171 (pc' := 172) rfl ?_
  intro T25 h25_ H25 W26 A27
  replace A27 : Arv Z h25_ a2 k5 .char 7 [(.int 99), (.int 108), (.int 105), (.int 101), (.int 110), (.int 116), (.int x0)] (.int 0) := A27
  have K28 : Keep h1_ h25_ [a2] := (Keep.wr (Keep.wr (Keep.wr (Keep.wr (Keep.wr (Keep.wr (Keep.wr (Keep.refl h1_ [a2]) W8 (Or.inl (mG (i := 0) rfl))) W11 (Or.inl (mG (i := 0) rfl))) W14 (Or.inl (mG (i := 0) rfl))) W17 (Or.inl (mG (i := 0) rfl))) W20 (Or.inl (mG (i := 0) rfl))) W23 (Or.inl (mG (i := 0) rfl))) W26 (Or.inl (mG (i := 0) rfl)))
  have F29 := (Exa.keep X6 K28)
  have K30 : Keep h0 h25_ [] := (Keep.wr (Keep.wr (Keep.wr (Keep.wr (Keep.wr (Keep.wr (Keep.wr (Keep.ext (Keep.refl h0 []) E3) W8 (Or.inr (Nat.le_of_eq ga2.symm))) W11 (Or.inr (Nat.le_of_eq ga2.symm))) W14 (Or.inr (Nat.le_of_eq ga2.symm))) W17 (Or.inr (Nat.le_of_eq ga2.symm))) W20 (Or.inr (Nat.le_of_eq ga2.symm))) W23 (Or.inr (Nat.le_of_eq ga2.symm))) W26 (Or.inr (Nat.le_of_eq ga2.symm)))
  exact G.retA H25 (t := (.array .char)) rfl rfl rfl D5_172 (so := []) all0 (by decide) (by decide) ⟨a2, k5, rfl, rfl, K30, (Nat.le_of_eq ga2.symm), A27, F29⟩
set_option maxRecDepth 65536 in
set_option maxHeartbeats 40000000 in
theorem m22_named (V : Env1 Z a0 n0 uu0 uu1 uu2 uu3 uu4 uu5 uu6 uu7 uu8 uu9 uu10 uu11 uu12 uu13 uu14 uu15) (p0 : Addr) (p1 : Addr) (c0 : ClassId) (x0 : Int32) (x1 : Int32) (x2 : Int32) (x3 : Int32) (x4 : Int32) (x5 : Int32) (x6 : Int32) (h0 : Heap) (hO : Old Z n0 h0) (f0 : Str Z h0 p0 p1 c0 [x0, x1, x2, x3, x4, x5, x6]) :
    Met Z a0 ELs True n0 l (⟨"bindery/server/stomp/StompConnection$AckMode", "named", "(Ljava/lang/String;)Lbindery/server/stomp/StompConnection$AckMode;"⟩ : MethodName) prog_93_method_4_code 5 (Option.some (FieldType.object "bindery/server/stomp/StompConnection$AckMode")) ({ frames := 2, cells := 1, slots := 3, locals := 28 } : Room) #[(.ref p0)] h0 [] (fun v h so => (v = some .null ∧ so = [] ∧ Keep h0 h [])) := by
  refine Met.of (EWl V) (by first | decide +kernel | rfl) hO (L0 := #[.val (.ref p0), .unset, .unset, .unset, .unset]) rfl ?_
  intro p e s m below meth c T H
  show Go p e below _ (T.setTop (mkF m 0 #[.val (.ref p0), .unset, .unset, .unset, .unset] []))
  refine G.callS H (m2_values V h0 H.old) (wd39 V) (wd40 V) (wd37 V) (wd41 V) (by decide) (argsL := []) (rest := []) (W := 0) rfl rfl (lenOf (pd_1) rfl) rfl rfl D7_0 (pc' := 3) rfl (by decide) (by decide) (by decide) (by decide) all0 ?_
  intro T1 h1_ v2 s3 H1 Q4
  obtain ⟨a5, k6, rfl, rfl, K7, g8, F9, F10⟩ := Q4
  have na5 : n0 ≤ a5 := Nat.le_trans H.le g8
  show Go p e below _ (T1.setTop (mkF m 3 #[.val (.ref p0), .unset, .unset, .unset, .unset] [(.ref a5)]))
  refine G.astoreN H1 (L' := #[.val (.ref p0), .val (.ref a5), .unset, .unset, .unset]) D7_3 (pc' := 4) rfl rfl rfl ?_
  refine G.aloadN H1 D7_4 (pc' := 5) rfl rfl rfl ?_
  refine G.arrlen H1 F9 D7_5 (pc' := 6) rfl ?_
  refine G.istoreN H1 (L' := #[.val (.ref p0), .val (.ref a5), .val (.int 3), .unset, .unset]) D7_6 (pc' := 7) rfl rfl ?_
  refine G.iconst H1 D7_7 (pc' := 8) rfl (v := 0) rfl ?_
  refine G.istoreN H1 (L' := #[.val (.ref p0), .val (.ref a5), .val (.int 3), .val (.int 0), .unset]) D7_8 (pc' := 9) rfl rfl ?_
  refine G.iloadN H1 D7_9 (pc' := 10) rfl rfl ?_
  refine G.iloadN H1 D7_10 (pc' := 11) rfl rfl ?_
  refine G.icmpNo H1 D7_11 (pc' := 14) rfl (by decide) ?_
  refine G.aloadN H1 D7_14 (pc' := 15) rfl rfl rfl ?_
  refine G.iloadN H1 D7_15 (pc' := 16) rfl rfl ?_
  refine G.aaloadG H1 F9 rfl (j := 0) (v := (.ref uu1)) (by decide) rfl D7_16 (pc' := 17) rfl ?_
  refine G.astore H1 (L' := #[.val (.ref p0), .val (.ref a5), .val (.int 3), .val (.int 0), .val (.ref uu1)]) D7_17 (pc' := 19) rfl rfl rfl ?_
  refine G.aload H1 D7_19 (pc' := 21) rfl rfl rfl ?_
  have B11 := Fld.ext H1.old.2 (hv12 V)
  refine G.getF H1 (wd57 V) Via.refl B11 D7_21 (pc' := 24) rfl ?_
  intro T12 H13
  refine G.aloadN H13 D7_24 (pc' := 25) rfl rfl rfl ?_
  have B14 := Str.ext H13.old.2 (hv30 V)
  have F15 := (Str.keep f0 K7 nin0 nin0)
  refine G.strEq H13 (strwEq V) (wd7 V) (wd59 V) (wd60 V) (wd62 V) (wd61 V) B14 F15 (hv24 V) (hv25 V) (rest := []) (W := 0) rfl rfl D7_25 (pc' := 28) rfl (by decide) (by decide) (by decide) (by decide) ?_ ?_
  ·
    intro T16 H17 c18
    exact absurd c18 (by intro qq; simp at qq)
  ·
    intro T19 H20 c21
    refine G.ifYes H20 D7_28 (by decide) (by decide) (pc' := 34) rfl ?_
    refine G.iinc H20 (v := 1) (L' := #[.val (.ref p0), .val (.ref a5), .val (.int 3), .val (.int 1), .val (.ref uu1)]) D7_34 (pc' := 37) rfl rfl rfl rfl ?_
    refine G.goto H20 D7_37 (by decide) (pc' := 9) rfl ?_
    show Go p e below _ (T19.setTop (mkF m 9 #[.val (.ref p0), .val (.ref a5), .val (.int 3), .val (.int 1), .val (.ref uu1)] []))
    refine G.iloadN H20 D7_9 (pc' := 10) rfl rfl ?_
    refine G.iloadN H20 D7_10 (pc' := 11) rfl rfl ?_
    refine G.icmpNo H20 D7_11 (pc' := 14) rfl (by decide) ?_
    refine G.aloadN H20 D7_14 (pc' := 15) rfl rfl rfl ?_
    refine G.iloadN H20 D7_15 (pc' := 16) rfl rfl ?_
    refine G.aaloadG H20 F9 rfl (j := 1) (v := (.ref uu2)) (by decide) rfl D7_16 (pc' := 17) rfl ?_
    refine G.astore H20 (L' := #[.val (.ref p0), .val (.ref a5), .val (.int 3), .val (.int 1), .val (.ref uu2)]) D7_17 (pc' := 19) rfl rfl rfl ?_
    refine G.aload H20 D7_19 (pc' := 21) rfl rfl rfl ?_
    have B22 := Fld.ext H20.old.2 (hv10 V)
    refine G.getF H20 (wd57 V) Via.refl B22 D7_21 (pc' := 24) rfl ?_
    intro T23 H24
    refine G.aloadN H24 D7_24 (pc' := 25) rfl rfl rfl ?_
    have B25 := Str.ext H24.old.2 (hv29 V)
    refine G.strEq H24 (strwEq V) (wd7 V) (wd59 V) (wd60 V) (wd62 V) (wd61 V) B25 F15 (hv24 V) (hv25 V) (rest := []) (W := 0) rfl rfl D7_25 (pc' := 28) rfl (by decide) (by decide) (by decide) (by decide) ?_ ?_
    ·
      intro T26 H27 c28
      exact absurd c28 (by intro qq; simp at qq)
    ·
      intro T29 H30 c31
      refine G.ifYes H30 D7_28 (by decide) (by decide) (pc' := 34) rfl ?_
      refine G.iinc H30 (v := 2) (L' := #[.val (.ref p0), .val (.ref a5), .val (.int 3), .val (.int 2), .val (.ref uu2)]) D7_34 (pc' := 37) rfl rfl rfl rfl ?_
      refine G.goto H30 D7_37 (by decide) (pc' := 9) rfl ?_
      show Go p e below _ (T29.setTop (mkF m 9 #[.val (.ref p0), .val (.ref a5), .val (.int 3), .val (.int 2), .val (.ref uu2)] []))
      refine G.iloadN H30 D7_9 (pc' := 10) rfl rfl ?_
      refine G.iloadN H30 D7_10 (pc' := 11) rfl rfl ?_
      refine G.icmpNo H30 D7_11 (pc' := 14) rfl (by decide) ?_
      refine G.aloadN H30 D7_14 (pc' := 15) rfl rfl rfl ?_
      refine G.iloadN H30 D7_15 (pc' := 16) rfl rfl ?_
      refine G.aaloadG H30 F9 rfl (j := 2) (v := (.ref uu3)) (by decide) rfl D7_16 (pc' := 17) rfl ?_
      refine G.astore H30 (L' := #[.val (.ref p0), .val (.ref a5), .val (.int 3), .val (.int 2), .val (.ref uu3)]) D7_17 (pc' := 19) rfl rfl rfl ?_
      refine G.aload H30 D7_19 (pc' := 21) rfl rfl rfl ?_
      have B32 := Fld.ext H30.old.2 (hv8 V)
      refine G.getF H30 (wd57 V) Via.refl B32 D7_21 (pc' := 24) rfl ?_
      intro T33 H34
      refine G.aloadN H34 D7_24 (pc' := 25) rfl rfl rfl ?_
      have B35 := Str.ext H34.old.2 (hv28 V)
      refine G.strEq H34 (strwEq V) (wd7 V) (wd59 V) (wd60 V) (wd62 V) (wd61 V) B35 F15 (hv24 V) (hv25 V) (rest := []) (W := 0) rfl rfl D7_25 (pc' := 28) rfl (by decide) (by decide) (by decide) (by decide) ?_ ?_
      ·
        intro T36 H37 c38
        exact absurd c38 (by intro qq; simp at qq)
      ·
        intro T39 H40 c41
        refine G.ifYes H40 D7_28 (by decide) (by decide) (pc' := 34) rfl ?_
        refine G.iinc H40 (v := 3) (L' := #[.val (.ref p0), .val (.ref a5), .val (.int 3), .val (.int 3), .val (.ref uu3)]) D7_34 (pc' := 37) rfl rfl rfl rfl ?_
        refine G.goto H40 D7_37 (by decide) (pc' := 9) rfl ?_
        show Go p e below _ (T39.setTop (mkF m 9 #[.val (.ref p0), .val (.ref a5), .val (.int 3), .val (.int 3), .val (.ref uu3)] []))
        refine G.iloadN H40 D7_9 (pc' := 10) rfl rfl ?_
        refine G.iloadN H40 D7_10 (pc' := 11) rfl rfl ?_
        refine G.icmpYes H40 D7_11 (by decide) (by decide) (pc' := 40) rfl ?_
        refine G.aconstNull H40 D7_40 (pc' := 41) rfl ?_
        have K42 : Keep h0 h1_ [] := (Keep.trans (Keep.refl h0 []) K7 all0)
        exact G.retA H40 (t := (.object "bindery/server/stomp/StompConnection$AckMode")) rfl rfl rfl D7_41 (so := []) all0 (by decide) (by decide) ⟨rfl, rfl, K42⟩
set_option maxRecDepth 65536 in
set_option maxHeartbeats 40000000 in
theorem m23_expected (V : Env1 Z a0 n0 uu0 uu1 uu2 uu3 uu4 uu5 uu6 uu7 uu8 uu9 uu10 uu11 uu12 uu13 uu14 uu15) (p0 : Addr) (p1 : Addr) (c0 : ClassId) (x0 : Int32) (x1 : Int32) (x2 : Int32) (x3 : Int32) (x4 : Int32) (x5 : Int32) (x6 : Int32) (h0 : Heap) (hO : Old Z n0 h0) (f0 : Str Z h0 p0 p1 c0 [x0, x1, x2, x3, x4, x5, x6]) :
    Met Z a0 ELs True n0 l (⟨"bindery/server/stomp/AckModeNamedPinLaw", "expected", "(Ljava/lang/String;)Lbindery/server/stomp/StompConnection$AckMode;"⟩ : MethodName) method_3_code 1 (Option.some (FieldType.object "bindery/server/stomp/StompConnection$AckMode")) ({ frames := 2, cells := 6, slots := 120, locals := 28 } : Room) #[(.ref p0)] h0 [p0, p1] (fun v h so => (v = some .null ∧ so = [] ∧ Keep h0 h [])) := by
  refine Met.of (EWl V) (by first | decide +kernel | rfl) hO (L0 := #[.val (.ref p0)]) rfl ?_
  intro p e s m below meth c T H
  show Go p e below _ (T.setTop (mkF m 0 #[.val (.ref p0)] []))
  refine G.aloadN H D3_0 (pc' := 1) rfl rfl rfl ?_
  refine G.ifnonnullYes H D3_1 (by decide) (pc' := 6) rfl ?_
  refine G.aloadN H D3_6 (pc' := 7) rfl rfl rfl ?_
  refine G.ldcS H trivial (wS V) (wd72 V) (by decide) (vs := [(.int 97), (.int 117), (.int 116), (.int 111)]) (z := 4) (by decide) (by decide) rfl (n := 16) (by decide) (by decide) (by decide) (by decide) D3_7 (pc' := 9) rfl ?_
  intro T1 h1_ a2 b4 k5 H1 E3 X6 F7 F8 A9 Q10
  have S11 : Str Z h1_ a2 b4 k5 [97, 117, 116, 111] := ⟨X6, F7, F8, A9, by decide, by decide⟩
  have F12 := (Str.ext E3 f0)
  refine G.strEq H1 (strwEq V) (wd7 V) (wd75 V) (wd60 V) (wd62 V) (wd61 V) F12 S11 (hv24 V) (hv25 V) (rest := []) (W := 0) rfl rfl D3_9 (pc' := 12) rfl (by decide) (by decide) (by decide) (by decide) ?_ ?_
  ·
    intro T13 H14 c15
    exact absurd c15 (by intro qq; simp at qq)
  ·
    intro T16 H17 c18
    refine G.ifYes H17 D3_12 (by decide) (by decide) (pc' := 19) rfl ?_
    refine G.aloadN H17 D3_19 (pc' := 20) rfl rfl rfl ?_
    refine G.ldcS H17 trivial (wS V) (wd80 V) (by decide) (vs := [(.int 99), (.int 108), (.int 105), (.int 101), (.int 110), (.int 116)]) (z := 6) (by decide) (by decide) rfl (n := 24) (by decide) (by decide) (by decide) (by decide) D3_20 (pc' := 22) rfl ?_
    intro T19 h19_ a20 b22 k23 H19 E21 X24 F25 F26 A27 Q28
    have S29 : Str Z h19_ a20 b22 k23 [99, 108, 105, 101, 110, 116] := ⟨X24, F25, F26, A27, by decide, by decide⟩
    have F30 := (Str.ext E21 F12)
    refine G.strEq H19 (strwEq V) (wd7 V) (wd75 V) (wd60 V) (wd62 V) (wd61 V) F30 S29 (hv24 V) (hv25 V) (rest := []) (W := 0) rfl rfl D3_22 (pc' := 25) rfl (by decide) (by decide) (by decide) (by decide) ?_ ?_
    ·
      intro T31 H32 c33
      exact absurd c33 (by intro qq; simp at qq)
    ·
      intro T34 H35 c36
      refine G.ifYes H35 D3_25 (by decide) (by decide) (pc' := 32) rfl ?_
      refine G.aloadN H35 D3_32 (pc' := 33) rfl rfl rfl ?_
      refine G.ldcS H35 trivial (wS V) (wd81 V) (by decide) (vs := [(.int 99), (.int 108), (.int 105), (.int 101), (.int 110), (.int 116), (.int 45), (.int 105), (.int 110), (.int 100), (.int 105), (.int 118), (.int 105), (.int 100), (.int 117), (.int 97), (.int 108)]) (z := 17) (by decide) (by decide) rfl (n := 68) (by decide) (by decide) (by decide) (by decide) D3_33 (pc' := 35) rfl ?_
      intro T37 h37_ a38 b40 k41 H37 E39 X42 F43 F44 A45 Q46
      have S47 : Str Z h37_ a38 b40 k41 [99, 108, 105, 101, 110, 116, 45, 105, 110, 100, 105, 118, 105, 100, 117, 97, 108] := ⟨X42, F43, F44, A45, by decide, by decide⟩
      have F48 := (Str.ext E39 F30)
      refine G.strEq H37 (strwEq V) (wd7 V) (wd75 V) (wd60 V) (wd62 V) (wd61 V) F48 S47 (hv24 V) (hv25 V) (rest := []) (W := 0) rfl rfl D3_35 (pc' := 38) rfl (by decide) (by decide) (by decide) (by decide) ?_ ?_
      ·
        intro T49 H50 c51
        exact absurd c51 (by intro qq; simp at qq)
      ·
        intro T52 H53 c54
        refine G.ifYes H53 D3_38 (by decide) (by decide) (pc' := 45) rfl ?_
        refine G.aconstNull H53 D3_45 (pc' := 46) rfl ?_
        have K55 : Keep h0 h37_ [] := (Keep.ext (Keep.ext (Keep.ext (Keep.refl h0 []) E3) E21) E39)
        exact G.retA H53 (t := (.object "bindery/server/stomp/StompConnection$AckMode")) rfl rfl rfl D3_46 (so := []) all0 (by decide) (by decide) ⟨rfl, rfl, K55⟩
set_option maxRecDepth 65536 in
set_option maxHeartbeats 40000000 in
theorem cut24_122 (V : Env1 Z a0 n0 uu0 uu1 uu2 uu3 uu4 uu5 uu6 uu7 uu8 uu9 uu10 uu11 uu12 uu13 uu14 uu15) (x70000 : Int32) (x70001 : Int32) (x70002 : Int32) (x70003 : Int32) (x70004 : Int32) (x70005 : Int32) (x70006 : Int32) (x70007 : Int32) (x70008 : Int32) (x70009 : Int32) (p0 : Addr) (c0 : ClassId) (x61100 : Int32) (x61101 : Int32) (x61102 : Int32) (x61103 : Int32) (x61104 : Int32) (x61105 : Int32) (x61106 : Int32) (H : Hs p l e room_1 s m as' below meth c Z a0 ELs True x.cls n0 code maxLocals ret x.name T h0 1 7 []) (re_x61100 : ¬ x61100 < 0 ∧ ¬ 255 < x61100) (re_x61101 : ¬ x61101 < 0 ∧ ¬ 255 < x61101) (re_x61102 : ¬ x61102 < 0 ∧ ¬ 255 < x61102) (re_x61103 : ¬ x61103 < 0 ∧ ¬ 255 < x61103) (re_x61104 : ¬ x61104 < 0 ∧ ¬ 255 < x61104) (re_x61105 : ¬ x61105 < 0 ∧ ¬ 255 < x61105) (re_x61106 : ¬ x61106 < 0 ∧ ¬ 255 < x61106) (fA11 : Arv Z h0 p0 c0 .char 7 [(.int x61100), (.int x61101), (.int x61102), (.int x61103), (.int x61104), (.int x61105), (.int x61106)] (.int 0)) :
    Go p e below (FinP s below Z ELs True n0 room_1.cells room_1.slots (fun v h so => v = some (.int 1))) (T.setTop (mkF m 122 #[.val (.int x70000), .val (.int x70001), .val (.int x70002), .val (.int x70003), .val (.int x70004), .val (.int x70005), .val (.int x70006), .val (.int x70007), .val (.int x70008), .val (.int x70009), .unset, .val (.ref p0)] [])) := by
  refine G.new H (wd6 V) (wd7 V) (wd8 V) at_122 (pc' := 125) rfl (by decide) (by decide) ?_
  intro T1 h1_ a2 ga2 H1 E3 A4 D5
  have na2 := H.nle ga2
  refine G.dup H1 at_125 (pc' := 126) rfl rfl ?_
  refine G.aload H1 at_126 (pc' := 128) rfl rfl rfl ?_
  have F6 := (Arv.ext fA11 E3)
  have F7 : Fld Z h1_ a2 "java/lang/String" "value" "[B" .null := D5 (Or.inr (wd34 V)) (ty := (.array .byte)) (by decide)
  have F8 : Fld Z h1_ a2 "java/lang/String" "coder" "B" (.int 0) := D5 (Or.inr (wd32 V)) (ty := .byte) (by decide)
  refine G.newStr H1 (strw V) (wd7 V) (wd9 V) (wd10 V) (cs := [x61100, x61101, x61102, x61103, x61104, x61105, x61106]) (n := 7) na2 A4 F7 F8 F6 (hv24 V) (hv25 V) rfl rfl (by decide) (by decide) (cbS re_x61100 (cbS re_x61101 (cbS re_x61102 (cbS re_x61103 (cbS re_x61104 (cbS re_x61105 (cbS re_x61106 cb0))))))) (Sf.mem (mG (i := 0) rfl)) (rest := [(.ref a2)]) (W := 1) rfl rfl at_128 (pc' := 131) rfl (by decide) (by decide) (by decide) (by decide) ?_
  intro T9 h9_ t10 k11 g14 H9 K12 S13
  have nt10 : n0 ≤ t10 := Nat.le_trans H1.le g14
  refine G.astore H9 (L' := #[.val (.int x70000), .val (.int x70001), .val (.int x70002), .val (.int x70003), .val (.int x70004), .val (.int x70005), .val (.int x70006), .val (.int x70007), .val (.int x70008), .val (.int x70009), .val (.ref a2), .val (.ref p0)]) at_131 (pc' := 133) rfl rfl rfl ?_
  refine G.aload H9 at_133 (pc' := 135) rfl rfl rfl ?_
  refine G.callS H9 (m22_named V a2 t10 k11 x61100 x61101 x61102 x61103 x61104 x61105 x61106 h9_ H9.old S13) (wd35 V) (wd36 V) (wd37 V) (wd38 V) (by decide) (argsL := [(.ref a2)]) (rest := []) (W := 0) rfl rfl (lenOf (pd_2) rfl) rfl rfl at_135 (pc' := 138) rfl (by decide) (by decide) (by decide) (by decide) all0 ?_
  intro T15 h15_ v16 s17 H15 Q18
  obtain ⟨rfl, rfl, K19⟩ := Q18
  show Go p e below _ (T15.setTop (mkF m 138 #[.val (.int x70000), .val (.int x70001), .val (.int x70002), .val (.int x70003), .val (.int x70004), .val (.int x70005), .val (.int x70006), .val (.int x70007), .val (.int x70008), .val (.int x70009), .val (.ref a2), .val (.ref p0)] [.null]))
  refine G.astore H15 (L' := #[.val (.int x70000), .val (.int x70001), .val (.int x70002), .val (.int x70003), .val (.int x70004), .val (.int x70005), .val (.int x70006), .val (.int x70007), .val (.int x70008), .val (.int x70009), .val (.ref a2), .val .null]) at_138 (pc' := 140) rfl rfl rfl ?_
  refine G.aload H15 at_140 (pc' := 142) rfl rfl rfl ?_
  refine G.aload H15 at_142 (pc' := 144) rfl rfl rfl ?_
  have F20 := (Str.keep S13 K19 nin0 nin0)
  refine G.callS H15 (m23_expected V a2 t10 k11 x61100 x61101 x61102 x61103 x61104 x61105 x61106 h15_ H15.old F20) (wd69 V) (wd70 V) (wd3 V) (wd71 V) (by decide) (argsL := [(.ref a2)]) (rest := [.null]) (W := 1) rfl rfl (lenOf (pd_2) rfl) rfl rfl at_144 (pc' := 147) rfl (by decide) (by decide) (by decide) (by decide) (allS (mG (i := 1) rfl) (allS (mG (i := 0) rfl) all0)) ?_
  intro T21 h21_ v22 s23 H21 Q24
  obtain ⟨rfl, rfl, K25⟩ := Q24
  show Go p e below _ (T21.setTop (mkF m 147 #[.val (.int x70000), .val (.int x70001), .val (.int x70002), .val (.int x70003), .val (.int x70004), .val (.int x70005), .val (.int x70006), .val (.int x70007), .val (.int x70008), .val (.int x70009), .val (.ref a2), .val .null] [.null, .null]))
  refine G.acmpNo H21 at_147 (pc' := 150) rfl rfl rfl (XT.aa_ne_f rfl) ?_
  refine G.iconst H21 at_150 (pc' := 151) rfl (v := 1) rfl ?_
  refine G.goto H21 at_151 (by decide) (pc' := 155) rfl ?_
  exact G.retN H21 (t := .boolean) rfl (by decide) at_155 (so := []) all0 (by decide) (by decide) rfl
set_option maxRecDepth 65536 in
set_option maxHeartbeats 40000000 in
theorem m25_base (V : Env1 Z a0 n0 uu0 uu1 uu2 uu3 uu4 uu5 uu6 uu7 uu8 uu9 uu10 uu11 uu12 uu13 uu14 uu15) (x0 : Int32) (h0 : Heap) (hO : Old Z n0 h0)  :
    Met Z a0 ELs True n0 l (⟨"bindery/server/stomp/AckModeNamedPinLaw", "base", "(IIC)[C"⟩ : MethodName) method_5_code 3 (Option.some (FieldType.array FieldType.char)) ({ frames := 0, cells := 1, slots := 5, locals := 0 } : Room) #[(.int 1), (.int 2), (.int x0)] h0 [] (fun v h so => (∃ a2 : Addr, ∃ k5 : ClassId, v = some (.ref a2) ∧ so = [] ∧ Keep h0 h [] ∧ h0.size ≤ a2 ∧ Arv Z h a2 k5 .char 5 [(.int 99), (.int 108), (.int 105), (.int 101), (.int 110)] (.int 0) ∧ Exa Z h a2 "[C")) := by
  refine Met.of (EWl V) (by first | decide +kernel | rfl) hO (L0 := #[.val (.int 1), .val (.int 2), .val (.int x0)]) rfl ?_
  intro p e s m below meth c T H
  show Go p e below _ (T.setTop (mkF m 0 #[.val (.int 1), .val (.int 2), .val (.int x0)] []))
  refine G.iloadN H D5_0 (pc' := 1) rfl rfl ?_
  refine G.ifYes H D5_1 (by decide) (by decide) (pc' := 84) rfl ?_
  refine G.iloadN H D5_84 (pc' := 85) rfl rfl ?_
  refine G.iconst H D5_85 (pc' := 86) rfl (v := 1) rfl ?_
  refine G.icmpNo H D5_86 (pc' := 89) rfl (by decide) ?_
  refine G.iloadN H D5_89 (pc' := 90) rfl rfl ?_
  refine G.ifYes H D5_90 (by decide) (by decide) (pc' := 128) rfl ?_
  refine G.iloadN H D5_128 (pc' := 129) rfl rfl ?_
  refine G.iconst H D5_129 (pc' := 130) rfl (v := 1) rfl ?_
  refine G.icmpYes H D5_130 (by decide) (by decide) (pc' := 173) rfl ?_
  refine G.iconst H D5_173 (pc' := 174) rfl (v := 5) rfl ?_
  refine G.newP H (aty := .char) (wd5 V) D5_174 (pc' := 176) rfl (by decide) (cap := 5) (by decide) (by decide) (by decide) (by decide) (vs := [(.int 0), (.int 0), (.int 0), (.int 0), (.int 0)]) rfl (ad := "[C") rfl ?_
  intro T1 h1_ a2 k5 ga2 H1 E3 A4 X6
  have na2 := H.nle ga2
  replace A4 : Arv Z h1_ a2 k5 .char 5 [(.int 0), (.int 0), (.int 0), (.int 0), (.int 0)] (.int 0) := A4
  refine G.dup H1 D5_176 (pc' := 177) rfl rfl ?_
  refine G.iconst H1 D5_177 (pc' := 178) rfl (v := 0) rfl ?_
  refine G.bipush H1 D5_178 (pc' := 180) rfl (v := 99) rfl ?_
  refine G.stC H1 A4 (by decide) (i := 0) rfl lB na2 (y := 99) rfl D5_180 (pc' := 181) rfl ?_
  intro T7 h7_ H7 W8 A9
  replace A9 : Arv Z h7_ a2 k5 .char 5 [(.int 99), (.int 0), (.int 0), (.int 0), (.int 0)] (.int 0) := A9
  refine G.dup H7 D5_181 (pc' := 182) rfl rfl ?_
  refine G.iconst H7 D5_182 (pc' := 183) rfl (v := 1) rfl ?_
  refine G.bipush H7 D5_183 (pc' := 185) rfl (v := 108) rfl ?_
  refine G.stC H7 A9 (by decide) (i := 1) rfl lB na2 (y := 108) rfl D5_185 (pc' := 186) rfl ?_
  intro T10 h10_ H10 W11 A12
  replace A12 : Arv Z h10_ a2 k5 .char 5 [(.int 99), (.int 108), (.int 0), (.int 0), (.int 0)] (.int 0) := A12
  refine G.dup H10 D5_186 (pc' := 187) rfl rfl ?_
  refine G.iconst H10 D5_187 (pc' := 188) rfl (v := 2) rfl ?_
  refine G.bipush H10 D5_188 (pc' := 190) rfl (v := 105) rfl ?_
  refine G.stC H10 A12 (by decide) (i := 2) rfl lB na2 (y := 105) rfl D5_190 (pc' := 191) rfl ?_
  intro T13 h13_ H13 W14 A15
  replace A15 : Arv Z h13_ a2 k5 .char 5 [(.int 99), (.int 108), (.int 105), (.int 0), (.int 0)] (.int 0) := A15
  refine G.dup H13 D5_191 (pc' := 192) rfl rfl ?_
  refine G.iconst H13 D5_192 (pc' := 193) rfl (v := 3) rfl ?_
  refine G.bipush H13 D5_193 (pc' := 195) rfl (v := 101) rfl ?_
  refine G.stC H13 A15 (by decide) (i := 3) rfl lB na2 (y := 101) rfl D5_195 (pc' := 196) rfl ?_
  intro T16 h16_ H16 W17 A18
  replace A18 : Arv Z h16_ a2 k5 .char 5 [(.int 99), (.int 108), (.int 105), (.int 101), (.int 0)] (.int 0) := A18
  refine G.dup H16 D5_196 (pc' := 197) rfl rfl ?_
  refine G.iconst H16 D5_197 (pc' := 198) rfl (v := 4) rfl ?_
  refine G.bipush H16 D5_198 (pc' := 200) rfl (v := 110) rfl ?_
  refine G.stC H16 A18 (by decide) (i := 4) rfl lB na2 (y := 110) rfl D5_200 (pc' := 201) rfl ?_
  intro T19 h19_ H19 W20 A21
  replace A21 : Arv Z h19_ a2 k5 .char 5 [(.int 99), (.int 108), (.int 105), (.int 101), (.int 110)] (.int 0) := A21
  have K22 : Keep h1_ h19_ [a2] := (Keep.wr (Keep.wr (Keep.wr (Keep.wr (Keep.wr (Keep.refl h1_ [a2]) W8 (Or.inl (mG (i := 0) rfl))) W11 (Or.inl (mG (i := 0) rfl))) W14 (Or.inl (mG (i := 0) rfl))) W17 (Or.inl (mG (i := 0) rfl))) W20 (Or.inl (mG (i := 0) rfl)))
  have F23 := (Exa.keep X6 K22)
  have K24 : Keep h0 h19_ [] := (Keep.wr (Keep.wr (Keep.wr (Keep.wr (Keep.wr (Keep.ext (Keep.refl h0 []) E3) W8 (Or.inr (Nat.le_of_eq ga2.symm))) W11 (Or.inr (Nat.le_of_eq ga2.symm))) W14 (Or.inr (Nat.le_of_eq ga2.symm))) W17 (Or.inr (Nat.le_of_eq ga2.symm))) W20 (Or.inr (Nat.le_of_eq ga2.symm)))
  exact G.retA H19 (t := (.array .char)) rfl rfl rfl D5_201 (so := []) all0 (by decide) (by decide) ⟨a2, k5, rfl, rfl, K24, (Nat.le_of_eq ga2.symm), A21, F23⟩
set_option maxRecDepth 65536 in
set_option maxHeartbeats 40000000 in
theorem cut26_87 (V : Env1 Z a0 n0 uu0 uu1 uu2 uu3 uu4 uu5 uu6 uu7 uu8 uu9 uu10 uu11 uu12 uu13 uu14 uu15) (x90087 : Int32) (x0 : Int32) (x1 : Int32) (x2 : Int32) (x3 : Int32) (x4 : Int32) (x800340 : Int32) (H : Hs p l e room_1 s m as' below meth c Z a0 ELs True x.cls n0 code maxLocals ret x.name T h0 0 0 []) (sp : x90087 = 0 ∨ x90087 = 1 ∨ x90087 = 2) (cc1 : x800340 = 0) :
    Go p e below (FinP s below Z ELs True n0 room_1.cells room_1.slots (fun v h so => v = some (.int 1))) (T.setTop (mkF m 87 #[.val (.int x0), .val (.int x1), .val (.int x2), .val (.int x3), .val (.int x4), .val (.int 1), .val (.int x90087), .val (.int x800340), .val (.int (x2 &&& 255)), .val (.int ((XT.ushr x2 8) &&& 255)), .unset, .unset] [])) := by
  rcases sp with rfl | rfl | rfl
  ·
    refine G.iload H at_87 (pc' := 89) rfl rfl ?_
    refine G.iload H at_89 (pc' := 91) rfl rfl ?_
    refine G.iload H at_91 (pc' := 93) rfl rfl ?_
    refine G.callS H (m16_base V ((XT.ushr x2 8) &&& 255) h0 H.old) (wd1 V) (wd2 V) (wd3 V) (wd4 V) (by decide) (argsL := [(.int 1), (.int 0), (.int ((XT.ushr x2 8) &&& 255))]) (rest := []) (W := 0) rfl rfl (lenOf (pd_0) rfl) rfl rfl at_93 (pc' := 96) rfl (by decide) (by decide) (by decide) (by decide) all0 ?_
    intro T1 h1_ v2 s3 H1 Q4
    obtain ⟨a5, k6, rfl, rfl, K7, g8, F9, F10⟩ := Q4
    have na5 : n0 ≤ a5 := Nat.le_trans H.le g8
    show Go p e below _ (T1.setTop (mkF m 96 #[.val (.int x0), .val (.int x1), .val (.int x2), .val (.int x3), .val (.int x4), .val (.int 1), .val (.int 0), .val (.int x800340), .val (.int (x2 &&& 255)), .val (.int ((XT.ushr x2 8) &&& 255)), .unset, .unset] [(.ref a5)]))
    refine G.astore H1 (L' := #[.val (.int x0), .val (.int x1), .val (.int x2), .val (.int x3), .val (.int x4), .val (.int 1), .val (.int 0), .val (.int x800340), .val (.int (x2 &&& 255)), .val (.int ((XT.ushr x2 8) &&& 255)), .unset, .val (.ref a5)]) at_96 (pc' := 98) rfl rfl rfl ?_
    refine G.iload H1 at_98 (pc' := 100) rfl rfl ?_
    refine G.ifYes H1 at_100 (XT.i0_eq_t cc1) (by decide) (pc' := 122) rfl ?_
    exact cut20_122 V x0 x1 x2 x3 x4 1 0 x800340 (x2 &&& 255) ((XT.ushr x2 8) &&& 255) a5 k6 99 108 105 101 110 116 ((H1.less all0).mono (C' := 1) (S' := 6) (by decide) (by decide)) (by decide) (by decide) (by decide) (by decide) (by decide) (by decide) F9
  ·
    refine G.iload H at_87 (pc' := 89) rfl rfl ?_
    refine G.iload H at_89 (pc' := 91) rfl rfl ?_
    refine G.iload H at_91 (pc' := 93) rfl rfl ?_
    refine G.callS H (m21_base V ((XT.ushr x2 8) &&& 255) h0 H.old (own_u16 (own_and255 _))) (wd1 V) (wd2 V) (wd3 V) (wd4 V) (by decide) (argsL := [(.int 1), (.int 1), (.int ((XT.ushr x2 8) &&& 255))]) (rest := []) (W := 0) rfl rfl (lenOf (pd_0) rfl) rfl rfl at_93 (pc' := 96) rfl (by decide) (by decide) (by decide) (by decide) all0 ?_
    intro T11 h11_ v12 s13 H11 Q14
    obtain ⟨a15, k16, rfl, rfl, K17, g18, F19, F20⟩ := Q14
    have na15 : n0 ≤ a15 := Nat.le_trans H.le g18
    show Go p e below _ (T11.setTop (mkF m 96 #[.val (.int x0), .val (.int x1), .val (.int x2), .val (.int x3), .val (.int x4), .val (.int 1), .val (.int 1), .val (.int x800340), .val (.int (x2 &&& 255)), .val (.int ((XT.ushr x2 8) &&& 255)), .unset, .unset] [(.ref a15)]))
    refine G.astore H11 (L' := #[.val (.int x0), .val (.int x1), .val (.int x2), .val (.int x3), .val (.int x4), .val (.int 1), .val (.int 1), .val (.int x800340), .val (.int (x2 &&& 255)), .val (.int ((XT.ushr x2 8) &&& 255)), .unset, .val (.ref a15)]) at_96 (pc' := 98) rfl rfl rfl ?_
    refine G.iload H11 at_98 (pc' := 100) rfl rfl ?_
    refine G.ifYes H11 at_100 (XT.i0_eq_t cc1) (by decide) (pc' := 122) rfl ?_
    exact cut24_122 V x0 x1 x2 x3 x4 1 1 x800340 (x2 &&& 255) ((XT.ushr x2 8) &&& 255) a15 k16 99 108 105 101 110 116 ((XT.ushr x2 8) &&& 255) ((H11.less all0).mono (C' := 1) (S' := 7) (by decide) (by decide)) (by decide) (by decide) (by decide) (by decide) (by decide) (by decide) (own_and255 _) F19
  ·
    refine G.iload H at_87 (pc' := 89) rfl rfl ?_
    refine G.iload H at_89 (pc' := 91) rfl rfl ?_
    refine G.iload H at_91 (pc' := 93) rfl rfl ?_
    refine G.callS H (m25_base V ((XT.ushr x2 8) &&& 255) h0 H.old) (wd1 V) (wd2 V) (wd3 V) (wd4 V) (by decide) (argsL := [(.int 1), (.int 2), (.int ((XT.ushr x2 8) &&& 255))]) (rest := []) (W := 0) rfl rfl (lenOf (pd_0) rfl) rfl rfl at_93 (pc' := 96) rfl (by decide) (by decide) (by decide) (by decide) all0 ?_
    intro T21 h21_ v22 s23 H21 Q24
    obtain ⟨a25, k26, rfl, rfl, K27, g28, F29, F30⟩ := Q24
    have na25 : n0 ≤ a25 := Nat.le_trans H.le g28
    show Go p e below _ (T21.setTop (mkF m 96 #[.val (.int x0), .val (.int x1), .val (.int x2), .val (.int x3), .val (.int x4), .val (.int 1), .val (.int 2), .val (.int x800340), .val (.int (x2 &&& 255)), .val (.int ((XT.ushr x2 8) &&& 255)), .unset, .unset] [(.ref a25)]))
    refine G.astore H21 (L' := #[.val (.int x0), .val (.int x1), .val (.int x2), .val (.int x3), .val (.int x4), .val (.int 1), .val (.int 2), .val (.int x800340), .val (.int (x2 &&& 255)), .val (.int ((XT.ushr x2 8) &&& 255)), .unset, .val (.ref a25)]) at_96 (pc' := 98) rfl rfl rfl ?_
    refine G.iload H21 at_98 (pc' := 100) rfl rfl ?_
    refine G.ifYes H21 at_100 (XT.i0_eq_t cc1) (by decide) (pc' := 122) rfl ?_
    exact cut10_122 V x0 x1 x2 x3 x4 1 2 x800340 (x2 &&& 255) ((XT.ushr x2 8) &&& 255) a25 k26 99 108 105 101 110 ((H21.less all0).mono (C' := 1) (S' := 5) (by decide) (by decide)) (by decide) (by decide) (by decide) (by decide) (by decide) F29
set_option maxRecDepth 65536 in
set_option maxHeartbeats 40000000 in
theorem m27_base (V : Env1 Z a0 n0 uu0 uu1 uu2 uu3 uu4 uu5 uu6 uu7 uu8 uu9 uu10 uu11 uu12 uu13 uu14 uu15) (x0 : Int32) (h0 : Heap) (hO : Old Z n0 h0)  :
    Met Z a0 ELs True n0 l (⟨"bindery/server/stomp/AckModeNamedPinLaw", "base", "(IIC)[C"⟩ : MethodName) method_5_code 3 (Option.some (FieldType.array FieldType.char)) ({ frames := 0, cells := 1, slots := 17, locals := 0 } : Room) #[(.int 2), (.int 0), (.int x0)] h0 [] (fun v h so => (∃ a2 : Addr, ∃ k5 : ClassId, v = some (.ref a2) ∧ so = [] ∧ Keep h0 h [] ∧ h0.size ≤ a2 ∧ Arv Z h a2 k5 .char 17 [(.int 99), (.int 108), (.int 105), (.int 101), (.int 110), (.int 116), (.int 45), (.int 105), (.int 110), (.int 100), (.int 105), (.int 118), (.int 105), (.int 100), (.int 117), (.int 97), (.int 108)] (.int 0) ∧ Exa Z h a2 "[C")) := by
  refine Met.of (EWl V) (by first | decide +kernel | rfl) hO (L0 := #[.val (.int 2), .val (.int 0), .val (.int x0)]) rfl ?_
  intro p e s m below meth c T H
  show Go p e below _ (T.setTop (mkF m 0 #[.val (.int 2), .val (.int 0), .val (.int x0)] []))
  refine G.iloadN H D5_0 (pc' := 1) rfl rfl ?_
  refine G.ifYes H D5_1 (by decide) (by decide) (pc' := 84) rfl ?_
  refine G.iloadN H D5_84 (pc' := 85) rfl rfl ?_
  refine G.iconst H D5_85 (pc' := 86) rfl (v := 1) rfl ?_
  refine G.icmpYes H D5_86 (by decide) (by decide) (pc' := 202) rfl ?_
  refine G.iloadN H D5_202 (pc' := 203) rfl rfl ?_
  refine G.ifNo H D5_203 (pc' := 206) rfl (by decide) ?_
  refine G.bipush H D5_206 (pc' := 208) rfl (v := 17) rfl ?_
  refine G.newP H (aty := .char) (wd5 V) D5_208 (pc' := 210) rfl (by decide) (cap := 17) (by decide) (by decide) (by decide) (by decide) (vs := [(.int 0), (.int 0), (.int 0), (.int 0), (.int 0), (.int 0), (.int 0), (.int 0), (.int 0), (.int 0), (.int 0), (.int 0), (.int 0), (.int 0), (.int 0), (.int 0), (.int 0)]) rfl (ad := "[C") rfl ?_
  intro T1 h1_ a2 k5 ga2 H1 E3 A4 X6
  have na2 := H.nle ga2
  replace A4 : Arv Z h1_ a2 k5 .char 17 [(.int 0), (.int 0), (.int 0), (.int 0), (.int 0), (.int 0), (.int 0), (.int 0), (.int 0), (.int 0), (.int 0), (.int 0), (.int 0), (.int 0), (.int 0), (.int 0), (.int 0)] (.int 0) := A4
  refine G.dup H1 D5_210 (pc' := 211) rfl rfl ?_
  refine G.iconst H1 D5_211 (pc' := 212) rfl (v := 0) rfl ?_
  refine G.bipush H1 D5_212 (pc' := 214) rfl (v := 99) rfl ?_
  refine G.stC H1 A4 (by decide) (i := 0) rfl lB na2 (y := 99) rfl D5_214 (pc' := 215) rfl ?_
  intro T7 h7_ H7 W8 A9
  replace A9 : Arv Z h7_ a2 k5 .char 17 [(.int 99), (.int 0), (.int 0), (.int 0), (.int 0), (.int 0), (.int 0), (.int 0), (.int 0), (.int 0), (.int 0), (.int 0), (.int 0), (.int 0), (.int 0), (.int 0), (.int 0)] (.int 0) := A9
  refine G.dup H7 D5_215 (pc' := 216) rfl rfl ?_
  refine G.iconst H7 D5_216 (pc' := 217) rfl (v := 1) rfl ?_
  refine G.bipush H7 D5_217 (pc' := 219) rfl (v := 108) rfl ?_
  refine G.stC H7 A9 (by decide) (i := 1) rfl lB na2 (y := 108) rfl D5_219 (pc' := 220) rfl ?_
  intro T10 h10_ H10 W11 A12
  replace A12 : Arv Z h10_ a2 k5 .char 17 [(.int 99), (.int 108), (.int 0), (.int 0), (.int 0), (.int 0), (.int 0), (.int 0), (.int 0), (.int 0), (.int 0), (.int 0), (.int 0), (.int 0), (.int 0), (.int 0), (.int 0)] (.int 0) := A12
  refine G.dup H10 D5_220 (pc' := 221) rfl rfl ?_
  refine G.iconst H10 D5_221 (pc' := 222) rfl (v := 2) rfl ?_
  refine G.bipush H10 D5_222 (pc' := 224) rfl (v := 105) rfl ?_
  refine G.stC H10 A12 (by decide) (i := 2) rfl lB na2 (y := 105) rfl D5_224 (pc' := 225) rfl ?_
  intro T13 h13_ H13 W14 A15
  replace A15 : Arv Z h13_ a2 k5 .char 17 [(.int 99), (.int 108), (.int 105), (.int 0), (.int 0), (.int 0), (.int 0), (.int 0), (.int 0), (.int 0), (.int 0), (.int 0), (.int 0), (.int 0), (.int 0), (.int 0), (.int 0)] (.int 0) := A15
  refine G.dup H13 D5_225 (pc' := 226) rfl rfl ?_
  refine G.iconst H13 D5_226 (pc' := 227) rfl (v := 3) rfl ?_
  refine G.bipush H13 D5_227 (pc' := 229) rfl (v := 101) rfl ?_
  refine G.stC H13 A15 (by decide) (i := 3) rfl lB na2 (y := 101) rfl D5_229 (pc' := 230) rfl ?_
  intro T16 h16_ H16 W17 A18
  replace A18 : Arv Z h16_ a2 k5 .char 17 [(.int 99), (.int 108), (.int 105), (.int 101), (.int 0), (.int 0), (.int 0), (.int 0), (.int 0), (.int 0), (.int 0), (.int 0), (.int 0), (.int 0), (.int 0), (.int 0), (.int 0)] (.int 0) := A18
  refine G.dup H16 D5_230 (pc' := 231) rfl rfl ?_
  refine G.iconst H16 D5_231 (pc' := 232) rfl (v := 4) rfl ?_
  refine G.bipush H16 D5_232 (pc' := 234) rfl (v := 110) rfl ?_
  refine G.stC H16 A18 (by decide) (i := 4) rfl lB na2 (y := 110) rfl D5_234 (pc' := 235) rfl ?_
  intro T19 h19_ H19 W20 A21
  replace A21 : Arv Z h19_ a2 k5 .char 17 [(.int 99), (.int 108), (.int 105), (.int 101), (.int 110), (.int 0), (.int 0), (.int 0), (.int 0), (.int 0), (.int 0), (.int 0), (.int 0), (.int 0), (.int 0), (.int 0), (.int 0)] (.int 0) := A21
  refine G.dup H19 D5_235 (pc' := 236) rfl rfl ?_
  refine G.iconst H19 D5_236 (pc' := 237) rfl (v := 5) rfl ?_
  refine G.bipush H19 D5_237 (pc' := 239) rfl (v := 116) rfl ?_
  refine G.stC H19 A21 (by decide) (i := 5) rfl lB na2 (y := 116) rfl D5_239 (pc' := 240) rfl ?_
  intro T22 h22_ H22 W23 A24
  replace A24 : Arv Z h22_ a2 k5 .char 17 [(.int 99), (.int 108), (.int 105), (.int 101), (.int 110), (.int 116), (.int 0), (.int 0), (.int 0), (.int 0), (.int 0), (.int 0), (.int 0), (.int 0), (.int 0), (.int 0), (.int 0)] (.int 0) := A24
  refine G.dup H22 D5_240 (pc' := 241) rfl rfl ?_
  refine G.bipush H22 D5_241 (pc' := 243) rfl (v := 6) rfl ?_
  refine G.bipush H22 D5_243 (pc' := 245) rfl (v := 45) rfl ?_
  refine G.stC H22 A24 (by decide) (i := 6) rfl lB na2 (y := 45) rfl D5_245 (pc' := 246) rfl ?_
  intro T25 h25_ H25 W26 A27
  replace A27 : Arv Z h25_ a2 k5 .char 17 [(.int 99), (.int 108), (.int 105), (.int 101), (.int 110), (.int 116), (.int 45), (.int 0), (.int 0), (.int 0), (.int 0), (.int 0), (.int 0), (.int 0), (.int 0), (.int 0), (.int 0)] (.int 0) := A27
  refine G.dup H25 D5_246 (pc' := 247) rfl rfl ?_
  refine G.bipush H25 D5_247 (pc' := 249) rfl (v := 7) rfl ?_
  refine G.bipush H25 D5_249 (pc' := 251) rfl (v := 105) rfl ?_
  refine G.stC H25 A27 (by decide) (i := 7) rfl lB na2 (y := 105) rfl D5_251 (pc' := 252) rfl ?_
  intro T28 h28_ H28 W29 A30
  replace A30 : Arv Z h28_ a2 k5 .char 17 [(.int 99), (.int 108), (.int 105), (.int 101), (.int 110), (.int 116), (.int 45), (.int 105), (.int 0), (.int 0), (.int 0), (.int 0), (.int 0), (.int 0), (.int 0), (.int 0), (.int 0)] (.int 0) := A30
  refine G.dup H28 D5_252 (pc' := 253) rfl rfl ?_
  refine G.bipush H28 D5_253 (pc' := 255) rfl (v := 8) rfl ?_
  refine G.bipush H28 D5_255 (pc' := 257) rfl (v := 110) rfl ?_
  refine G.stC H28 A30 (by decide) (i := 8) rfl lB na2 (y := 110) rfl D5_257 (pc' := 258) rfl ?_
  intro T31 h31_ H31 W32 A33
  replace A33 : Arv Z h31_ a2 k5 .char 17 [(.int 99), (.int 108), (.int 105), (.int 101), (.int 110), (.int 116), (.int 45), (.int 105), (.int 110), (.int 0), (.int 0), (.int 0), (.int 0), (.int 0), (.int 0), (.int 0), (.int 0)] (.int 0) := A33
  refine G.dup H31 D5_258 (pc' := 259) rfl rfl ?_
  refine G.bipush H31 D5_259 (pc' := 261) rfl (v := 9) rfl ?_
  refine G.bipush H31 D5_261 (pc' := 263) rfl (v := 100) rfl ?_
  refine G.stC H31 A33 (by decide) (i := 9) rfl lB na2 (y := 100) rfl D5_263 (pc' := 264) rfl ?_
  intro T34 h34_ H34 W35 A36
  replace A36 : Arv Z h34_ a2 k5 .char 17 [(.int 99), (.int 108), (.int 105), (.int 101), (.int 110), (.int 116), (.int 45), (.int 105), (.int 110), (.int 100), (.int 0), (.int 0), (.int 0), (.int 0), (.int 0), (.int 0), (.int 0)] (.int 0) := A36
  refine G.dup H34 D5_264 (pc' := 265) rfl rfl ?_
  refine G.bipush H34 D5_265 (pc' := 267) rfl (v := 10) rfl ?_
  refine G.bipush H34 D5_267 (pc' := 269) rfl (v := 105) rfl ?_
  refine G.stC H34 A36 (by decide) (i := 10) rfl lB na2 (y := 105) rfl D5_269 (pc' := 270) rfl ?_
  intro T37 h37_ H37 W38 A39
  replace A39 : Arv Z h37_ a2 k5 .char 17 [(.int 99), (.int 108), (.int 105), (.int 101), (.int 110), (.int 116), (.int 45), (.int 105), (.int 110), (.int 100), (.int 105), (.int 0), (.int 0), (.int 0), (.int 0), (.int 0), (.int 0)] (.int 0) := A39
  refine G.dup H37 D5_270 (pc' := 271) rfl rfl ?_
  refine G.bipush H37 D5_271 (pc' := 273) rfl (v := 11) rfl ?_
  refine G.bipush H37 D5_273 (pc' := 275) rfl (v := 118) rfl ?_
  refine G.stC H37 A39 (by decide) (i := 11) rfl lB na2 (y := 118) rfl D5_275 (pc' := 276) rfl ?_
  intro T40 h40_ H40 W41 A42
  replace A42 : Arv Z h40_ a2 k5 .char 17 [(.int 99), (.int 108), (.int 105), (.int 101), (.int 110), (.int 116), (.int 45), (.int 105), (.int 110), (.int 100), (.int 105), (.int 118), (.int 0), (.int 0), (.int 0), (.int 0), (.int 0)] (.int 0) := A42
  refine G.dup H40 D5_276 (pc' := 277) rfl rfl ?_
  refine G.bipush H40 D5_277 (pc' := 279) rfl (v := 12) rfl ?_
  refine G.bipush H40 D5_279 (pc' := 281) rfl (v := 105) rfl ?_
  refine G.stC H40 A42 (by decide) (i := 12) rfl lB na2 (y := 105) rfl D5_281 (pc' := 282) rfl ?_
  intro T43 h43_ H43 W44 A45
  replace A45 : Arv Z h43_ a2 k5 .char 17 [(.int 99), (.int 108), (.int 105), (.int 101), (.int 110), (.int 116), (.int 45), (.int 105), (.int 110), (.int 100), (.int 105), (.int 118), (.int 105), (.int 0), (.int 0), (.int 0), (.int 0)] (.int 0) := A45
  refine G.dup H43 D5_282 (pc' := 283) rfl rfl ?_
  refine G.bipush H43 D5_283 (pc' := 285) rfl (v := 13) rfl ?_
  refine G.bipush H43 D5_285 (pc' := 287) rfl (v := 100) rfl ?_
  refine G.stC H43 A45 (by decide) (i := 13) rfl lB na2 (y := 100) rfl D5_287 (pc' := 288) rfl ?_
  intro T46 h46_ H46 W47 A48
  replace A48 : Arv Z h46_ a2 k5 .char 17 [(.int 99), (.int 108), (.int 105), (.int 101), (.int 110), (.int 116), (.int 45), (.int 105), (.int 110), (.int 100), (.int 105), (.int 118), (.int 105), (.int 100), (.int 0), (.int 0), (.int 0)] (.int 0) := A48
  refine G.dup H46 D5_288 (pc' := 289) rfl rfl ?_
  refine G.bipush H46 D5_289 (pc' := 291) rfl (v := 14) rfl ?_
  refine G.bipush H46 D5_291 (pc' := 293) rfl (v := 117) rfl ?_
  refine G.stC H46 A48 (by decide) (i := 14) rfl lB na2 (y := 117) rfl D5_293 (pc' := 294) rfl ?_
  intro T49 h49_ H49 W50 A51
  replace A51 : Arv Z h49_ a2 k5 .char 17 [(.int 99), (.int 108), (.int 105), (.int 101), (.int 110), (.int 116), (.int 45), (.int 105), (.int 110), (.int 100), (.int 105), (.int 118), (.int 105), (.int 100), (.int 117), (.int 0), (.int 0)] (.int 0) := A51
  refine G.dup H49 D5_294 (pc' := 295) rfl rfl ?_
  refine G.bipush H49 D5_295 (pc' := 297) rfl (v := 15) rfl ?_
  refine G.bipush H49 D5_297 (pc' := 299) rfl (v := 97) rfl ?_
  refine G.stC H49 A51 (by decide) (i := 15) rfl lB na2 (y := 97) rfl D5_299 (pc' := 300) rfl ?_
  intro T52 h52_ H52 W53 A54
  replace A54 : Arv Z h52_ a2 k5 .char 17 [(.int 99), (.int 108), (.int 105), (.int 101), (.int 110), (.int 116), (.int 45), (.int 105), (.int 110), (.int 100), (.int 105), (.int 118), (.int 105), (.int 100), (.int 117), (.int 97), (.int 0)] (.int 0) := A54
  refine G.dup H52 D5_300 (pc' := 301) rfl rfl ?_
  refine G.bipush H52 D5_301 (pc' := 303) rfl (v := 16) rfl ?_
  refine G.bipush H52 D5_303 (pc' := 305) rfl (v := 108) rfl ?_
  refine G.stC H52 A54 (by decide) (i := 16) rfl lB na2 (y := 108) rfl D5_305 (pc' := 306) rfl ?_
  intro T55 h55_ H55 W56 A57
  replace A57 : Arv Z h55_ a2 k5 .char 17 [(.int 99), (.int 108), (.int 105), (.int 101), (.int 110), (.int 116), (.int 45), (.int 105), (.int 110), (.int 100), (.int 105), (.int 118), (.int 105), (.int 100), (.int 117), (.int 97), (.int 108)] (.int 0) := A57
  have K58 : Keep h1_ h55_ [a2] := (Keep.wr (Keep.wr (Keep.wr (Keep.wr (Keep.wr (Keep.wr (Keep.wr (Keep.wr (Keep.wr (Keep.wr (Keep.wr (Keep.wr (Keep.wr (Keep.wr (Keep.wr (Keep.wr (Keep.wr (Keep.refl h1_ [a2]) W8 (Or.inl (mG (i := 0) rfl))) W11 (Or.inl (mG (i := 0) rfl))) W14 (Or.inl (mG (i := 0) rfl))) W17 (Or.inl (mG (i := 0) rfl))) W20 (Or.inl (mG (i := 0) rfl))) W23 (Or.inl (mG (i := 0) rfl))) W26 (Or.inl (mG (i := 0) rfl))) W29 (Or.inl (mG (i := 0) rfl))) W32 (Or.inl (mG (i := 0) rfl))) W35 (Or.inl (mG (i := 0) rfl))) W38 (Or.inl (mG (i := 0) rfl))) W41 (Or.inl (mG (i := 0) rfl))) W44 (Or.inl (mG (i := 0) rfl))) W47 (Or.inl (mG (i := 0) rfl))) W50 (Or.inl (mG (i := 0) rfl))) W53 (Or.inl (mG (i := 0) rfl))) W56 (Or.inl (mG (i := 0) rfl)))
  have F59 := (Exa.keep X6 K58)
  have K60 : Keep h0 h55_ [] := (Keep.wr (Keep.wr (Keep.wr (Keep.wr (Keep.wr (Keep.wr (Keep.wr (Keep.wr (Keep.wr (Keep.wr (Keep.wr (Keep.wr (Keep.wr (Keep.wr (Keep.wr (Keep.wr (Keep.wr (Keep.ext (Keep.refl h0 []) E3) W8 (Or.inr (Nat.le_of_eq ga2.symm))) W11 (Or.inr (Nat.le_of_eq ga2.symm))) W14 (Or.inr (Nat.le_of_eq ga2.symm))) W17 (Or.inr (Nat.le_of_eq ga2.symm))) W20 (Or.inr (Nat.le_of_eq ga2.symm))) W23 (Or.inr (Nat.le_of_eq ga2.symm))) W26 (Or.inr (Nat.le_of_eq ga2.symm))) W29 (Or.inr (Nat.le_of_eq ga2.symm))) W32 (Or.inr (Nat.le_of_eq ga2.symm))) W35 (Or.inr (Nat.le_of_eq ga2.symm))) W38 (Or.inr (Nat.le_of_eq ga2.symm))) W41 (Or.inr (Nat.le_of_eq ga2.symm))) W44 (Or.inr (Nat.le_of_eq ga2.symm))) W47 (Or.inr (Nat.le_of_eq ga2.symm))) W50 (Or.inr (Nat.le_of_eq ga2.symm))) W53 (Or.inr (Nat.le_of_eq ga2.symm))) W56 (Or.inr (Nat.le_of_eq ga2.symm)))
  exact G.retA H55 (t := (.array .char)) rfl rfl rfl D5_306 (so := []) all0 (by decide) (by decide) ⟨a2, k5, rfl, rfl, K60, (Nat.le_of_eq ga2.symm), A57, F59⟩
set_option maxRecDepth 65536 in
set_option maxHeartbeats 40000000 in
theorem m28_named (V : Env1 Z a0 n0 uu0 uu1 uu2 uu3 uu4 uu5 uu6 uu7 uu8 uu9 uu10 uu11 uu12 uu13 uu14 uu15) (p0 : Addr) (p1 : Addr) (c0 : ClassId) (x0 : Int32) (x1 : Int32) (x2 : Int32) (x3 : Int32) (x4 : Int32) (x5 : Int32) (x6 : Int32) (x7 : Int32) (x8 : Int32) (x9 : Int32) (x10 : Int32) (x11 : Int32) (x12 : Int32) (x13 : Int32) (x14 : Int32) (x15 : Int32) (x16 : Int32) (h0 : Heap) (hO : Old Z n0 h0) (f0 : Str Z h0 p0 p1 c0 [x0, x1, x2, x3, x4, x5, x6, x7, x8, x9, x10, x11, x12, x13, x14, x15, x16]) :
    Met Z a0 ELs True n0 l (⟨"bindery/server/stomp/StompConnection$AckMode", "named", "(Ljava/lang/String;)Lbindery/server/stomp/StompConnection$AckMode;"⟩ : MethodName) prog_93_method_4_code 5 (Option.some (FieldType.object "bindery/server/stomp/StompConnection$AckMode")) ({ frames := 2, cells := 1, slots := 3, locals := 28 } : Room) #[(.ref p0)] h0 [] (fun v h so => ([99, 108, 105, 101, 110, 116, 45, 105, 110, 100, 105, 118, 105, 100, 117, 97, 108] = [x0, x1, x2, x3, x4, x5, x6, x7, x8, x9, x10, x11, x12, x13, x14, x15, x16] ∧ v = some (.ref uu3) ∧ so = [] ∧ Keep h0 h []) ∨ (¬ [99, 108, 105, 101, 110, 116, 45, 105, 110, 100, 105, 118, 105, 100, 117, 97, 108] = [x0, x1, x2, x3, x4, x5, x6, x7, x8, x9, x10, x11, x12, x13, x14, x15, x16] ∧ v = some .null ∧ so = [] ∧ Keep h0 h [])) := by
  refine Met.of (EWl V) (by first | decide +kernel | rfl) hO (L0 := #[.val (.ref p0), .unset, .unset, .unset, .unset]) rfl ?_
  intro p e s m below meth c T H
  show Go p e below _ (T.setTop (mkF m 0 #[.val (.ref p0), .unset, .unset, .unset, .unset] []))
  refine G.callS H (m2_values V h0 H.old) (wd39 V) (wd40 V) (wd37 V) (wd41 V) (by decide) (argsL := []) (rest := []) (W := 0) rfl rfl (lenOf (pd_1) rfl) rfl rfl D7_0 (pc' := 3) rfl (by decide) (by decide) (by decide) (by decide) all0 ?_
  intro T1 h1_ v2 s3 H1 Q4
  obtain ⟨a5, k6, rfl, rfl, K7, g8, F9, F10⟩ := Q4
  have na5 : n0 ≤ a5 := Nat.le_trans H.le g8
  show Go p e below _ (T1.setTop (mkF m 3 #[.val (.ref p0), .unset, .unset, .unset, .unset] [(.ref a5)]))
  refine G.astoreN H1 (L' := #[.val (.ref p0), .val (.ref a5), .unset, .unset, .unset]) D7_3 (pc' := 4) rfl rfl rfl ?_
  refine G.aloadN H1 D7_4 (pc' := 5) rfl rfl rfl ?_
  refine G.arrlen H1 F9 D7_5 (pc' := 6) rfl ?_
  refine G.istoreN H1 (L' := #[.val (.ref p0), .val (.ref a5), .val (.int 3), .unset, .unset]) D7_6 (pc' := 7) rfl rfl ?_
  refine G.iconst H1 D7_7 (pc' := 8) rfl (v := 0) rfl ?_
  refine G.istoreN H1 (L' := #[.val (.ref p0), .val (.ref a5), .val (.int 3), .val (.int 0), .unset]) D7_8 (pc' := 9) rfl rfl ?_
  refine G.iloadN H1 D7_9 (pc' := 10) rfl rfl ?_
  refine G.iloadN H1 D7_10 (pc' := 11) rfl rfl ?_
  refine G.icmpNo H1 D7_11 (pc' := 14) rfl (by decide) ?_
  refine G.aloadN H1 D7_14 (pc' := 15) rfl rfl rfl ?_
  refine G.iloadN H1 D7_15 (pc' := 16) rfl rfl ?_
  refine G.aaloadG H1 F9 rfl (j := 0) (v := (.ref uu1)) (by decide) rfl D7_16 (pc' := 17) rfl ?_
  refine G.astore H1 (L' := #[.val (.ref p0), .val (.ref a5), .val (.int 3), .val (.int 0), .val (.ref uu1)]) D7_17 (pc' := 19) rfl rfl rfl ?_
  refine G.aload H1 D7_19 (pc' := 21) rfl rfl rfl ?_
  have B11 := Fld.ext H1.old.2 (hv12 V)
  refine G.getF H1 (wd57 V) Via.refl B11 D7_21 (pc' := 24) rfl ?_
  intro T12 H13
  refine G.aloadN H13 D7_24 (pc' := 25) rfl rfl rfl ?_
  have B14 := Str.ext H13.old.2 (hv30 V)
  have F15 := (Str.keep f0 K7 nin0 nin0)
  refine G.strEq H13 (strwEq V) (wd7 V) (wd59 V) (wd60 V) (wd62 V) (wd61 V) B14 F15 (hv24 V) (hv25 V) (rest := []) (W := 0) rfl rfl D7_25 (pc' := 28) rfl (by decide) (by decide) (by decide) (by decide) ?_ ?_
  ·
    intro T16 H17 c18
    exact absurd c18 (by intro qq; simp at qq)
  ·
    intro T19 H20 c21
    refine G.ifYes H20 D7_28 (by decide) (by decide) (pc' := 34) rfl ?_
    refine G.iinc H20 (v := 1) (L' := #[.val (.ref p0), .val (.ref a5), .val (.int 3), .val (.int 1), .val (.ref uu1)]) D7_34 (pc' := 37) rfl rfl rfl rfl ?_
    refine G.goto H20 D7_37 (by decide) (pc' := 9) rfl ?_
    show Go p e below _ (T19.setTop (mkF m 9 #[.val (.ref p0), .val (.ref a5), .val (.int 3), .val (.int 1), .val (.ref uu1)] []))
    refine G.iloadN H20 D7_9 (pc' := 10) rfl rfl ?_
    refine G.iloadN H20 D7_10 (pc' := 11) rfl rfl ?_
    refine G.icmpNo H20 D7_11 (pc' := 14) rfl (by decide) ?_
    refine G.aloadN H20 D7_14 (pc' := 15) rfl rfl rfl ?_
    refine G.iloadN H20 D7_15 (pc' := 16) rfl rfl ?_
    refine G.aaloadG H20 F9 rfl (j := 1) (v := (.ref uu2)) (by decide) rfl D7_16 (pc' := 17) rfl ?_
    refine G.astore H20 (L' := #[.val (.ref p0), .val (.ref a5), .val (.int 3), .val (.int 1), .val (.ref uu2)]) D7_17 (pc' := 19) rfl rfl rfl ?_
    refine G.aload H20 D7_19 (pc' := 21) rfl rfl rfl ?_
    have B22 := Fld.ext H20.old.2 (hv10 V)
    refine G.getF H20 (wd57 V) Via.refl B22 D7_21 (pc' := 24) rfl ?_
    intro T23 H24
    refine G.aloadN H24 D7_24 (pc' := 25) rfl rfl rfl ?_
    have B25 := Str.ext H24.old.2 (hv29 V)
    refine G.strEq H24 (strwEq V) (wd7 V) (wd59 V) (wd60 V) (wd62 V) (wd61 V) B25 F15 (hv24 V) (hv25 V) (rest := []) (W := 0) rfl rfl D7_25 (pc' := 28) rfl (by decide) (by decide) (by decide) (by decide) ?_ ?_
    ·
      intro T26 H27 c28
      exact absurd c28 (by intro qq; simp at qq)
    ·
      intro T29 H30 c31
      refine G.ifYes H30 D7_28 (by decide) (by decide) (pc' := 34) rfl ?_
      refine G.iinc H30 (v := 2) (L' := #[.val (.ref p0), .val (.ref a5), .val (.int 3), .val (.int 2), .val (.ref uu2)]) D7_34 (pc' := 37) rfl rfl rfl rfl ?_
      refine G.goto H30 D7_37 (by decide) (pc' := 9) rfl ?_
      show Go p e below _ (T29.setTop (mkF m 9 #[.val (.ref p0), .val (.ref a5), .val (.int 3), .val (.int 2), .val (.ref uu2)] []))
      refine G.iloadN H30 D7_9 (pc' := 10) rfl rfl ?_
      refine G.iloadN H30 D7_10 (pc' := 11) rfl rfl ?_
      refine G.icmpNo H30 D7_11 (pc' := 14) rfl (by decide) ?_
      refine G.aloadN H30 D7_14 (pc' := 15) rfl rfl rfl ?_
      refine G.iloadN H30 D7_15 (pc' := 16) rfl rfl ?_
      refine G.aaloadG H30 F9 rfl (j := 2) (v := (.ref uu3)) (by decide) rfl D7_16 (pc' := 17) rfl ?_
      refine G.astore H30 (L' := #[.val (.ref p0), .val (.ref a5), .val (.int 3), .val (.int 2), .val (.ref uu3)]) D7_17 (pc' := 19) rfl rfl rfl ?_
      refine G.aload H30 D7_19 (pc' := 21) rfl rfl rfl ?_
      have B32 := Fld.ext H30.old.2 (hv8 V)
      refine G.getF H30 (wd57 V) Via.refl B32 D7_21 (pc' := 24) rfl ?_
      intro T33 H34
      refine G.aloadN H34 D7_24 (pc' := 25) rfl rfl rfl ?_
      have B35 := Str.ext H34.old.2 (hv28 V)
      refine G.strEq H34 (strwEq V) (wd7 V) (wd59 V) (wd60 V) (wd62 V) (wd61 V) B35 F15 (hv24 V) (hv25 V) (rest := []) (W := 0) rfl rfl D7_25 (pc' := 28) rfl (by decide) (by decide) (by decide) (by decide) ?_ ?_
      ·
        intro T36 H37 c38
        refine G.ifNo H37 D7_28 (pc' := 31) rfl (by decide) ?_
        refine G.aload H37 D7_31 (pc' := 33) rfl rfl rfl ?_
        have K39 : Keep h0 h1_ [] := (Keep.trans (Keep.refl h0 []) K7 all0)
        exact G.retA H37 (t := (.object "bindery/server/stomp/StompConnection$AckMode")) rfl rfl rfl D7_33 (so := []) all0 (by decide) (by decide) (Or.inl ⟨c38, rfl, rfl, K39⟩)
      ·
        intro T40 H41 c42
        refine G.ifYes H41 D7_28 (by decide) (by decide) (pc' := 34) rfl ?_
        refine G.iinc H41 (v := 3) (L' := #[.val (.ref p0), .val (.ref a5), .val (.int 3), .val (.int 3), .val (.ref uu3)]) D7_34 (pc' := 37) rfl rfl rfl rfl ?_
        refine G.goto H41 D7_37 (by decide) (pc' := 9) rfl ?_
        show Go p e below _ (T40.setTop (mkF m 9 #[.val (.ref p0), .val (.ref a5), .val (.int 3), .val (.int 3), .val (.ref uu3)] []))
        refine G.iloadN H41 D7_9 (pc' := 10) rfl rfl ?_
        refine G.iloadN H41 D7_10 (pc' := 11) rfl rfl ?_
        refine G.icmpYes H41 D7_11 (by decide) (by decide) (pc' := 40) rfl ?_
        refine G.aconstNull H41 D7_40 (pc' := 41) rfl ?_
        have K43 : Keep h0 h1_ [] := (Keep.trans (Keep.refl h0 []) K7 all0)
        exact G.retA H41 (t := (.object "bindery/server/stomp/StompConnection$AckMode")) rfl rfl rfl D7_41 (so := []) all0 (by decide) (by decide) (Or.inr ⟨c42, rfl, rfl, K43⟩)
set_option maxRecDepth 65536 in
set_option maxHeartbeats 40000000 in
theorem m29_expected (V : Env1 Z a0 n0 uu0 uu1 uu2 uu3 uu4 uu5 uu6 uu7 uu8 uu9 uu10 uu11 uu12 uu13 uu14 uu15) (p0 : Addr) (p1 : Addr) (c0 : ClassId) (x0 : Int32) (x1 : Int32) (x2 : Int32) (x3 : Int32) (x4 : Int32) (x5 : Int32) (x6 : Int32) (x7 : Int32) (x8 : Int32) (x9 : Int32) (x10 : Int32) (x11 : Int32) (x12 : Int32) (x13 : Int32) (x14 : Int32) (x15 : Int32) (x16 : Int32) (h0 : Heap) (hO : Old Z n0 h0) (f0 : Str Z h0 p0 p1 c0 [x0, x1, x2, x3, x4, x5, x6, x7, x8, x9, x10, x11, x12, x13, x14, x15, x16]) (cl1 : [x0, x1, x2, x3, x4, x5, x6, x7, x8, x9, x10, x11, x12, x13, x14, x15, x16] = [99, 108, 105, 101, 110, 116, 45, 105, 110, 100, 105, 118, 105, 100, 117, 97, 108]) :
    Met Z a0 ELs True n0 l (⟨"bindery/server/stomp/AckModeNamedPinLaw", "expected", "(Ljava/lang/String;)Lbindery/server/stomp/StompConnection$AckMode;"⟩ : MethodName) method_3_code 1 (Option.some (FieldType.object "bindery/server/stomp/StompConnection$AckMode")) ({ frames := 2, cells := 6, slots := 120, locals := 28 } : Room) #[(.ref p0)] h0 [p0, p1] (fun v h so => ([x0, x1, x2, x3, x4, x5, x6, x7, x8, x9, x10, x11, x12, x13, x14, x15, x16] = [99, 108, 105, 101, 110, 116, 45, 105, 110, 100, 105, 118, 105, 100, 117, 97, 108] ∧ v = some (.ref uu3) ∧ so = [] ∧ Keep h0 h [])) := by
  refine Met.of (EWl V) (by first | decide +kernel | rfl) hO (L0 := #[.val (.ref p0)]) rfl ?_
  intro p e s m below meth c T H
  show Go p e below _ (T.setTop (mkF m 0 #[.val (.ref p0)] []))
  refine G.aloadN H D3_0 (pc' := 1) rfl rfl rfl ?_
  refine G.ifnonnullYes H D3_1 (by decide) (pc' := 6) rfl ?_
  refine G.aloadN H D3_6 (pc' := 7) rfl rfl rfl ?_
  refine G.ldcS H trivial (wS V) (wd72 V) (by decide) (vs := [(.int 97), (.int 117), (.int 116), (.int 111)]) (z := 4) (by decide) (by decide) rfl (n := 16) (by decide) (by decide) (by decide) (by decide) D3_7 (pc' := 9) rfl ?_
  intro T1 h1_ a2 b4 k5 H1 E3 X6 F7 F8 A9 Q10
  have S11 : Str Z h1_ a2 b4 k5 [97, 117, 116, 111] := ⟨X6, F7, F8, A9, by decide, by decide⟩
  have F12 := (Str.ext E3 f0)
  refine G.strEq H1 (strwEq V) (wd7 V) (wd75 V) (wd60 V) (wd62 V) (wd61 V) F12 S11 (hv24 V) (hv25 V) (rest := []) (W := 0) rfl rfl D3_9 (pc' := 12) rfl (by decide) (by decide) (by decide) (by decide) ?_ ?_
  ·
    intro T13 H14 c15
    exact absurd c15 (by intro qq; simp at qq)
  ·
    intro T16 H17 c18
    refine G.ifYes H17 D3_12 (by decide) (by decide) (pc' := 19) rfl ?_
    refine G.aloadN H17 D3_19 (pc' := 20) rfl rfl rfl ?_
    refine G.ldcS H17 trivial (wS V) (wd80 V) (by decide) (vs := [(.int 99), (.int 108), (.int 105), (.int 101), (.int 110), (.int 116)]) (z := 6) (by decide) (by decide) rfl (n := 24) (by decide) (by decide) (by decide) (by decide) D3_20 (pc' := 22) rfl ?_
    intro T19 h19_ a20 b22 k23 H19 E21 X24 F25 F26 A27 Q28
    have S29 : Str Z h19_ a20 b22 k23 [99, 108, 105, 101, 110, 116] := ⟨X24, F25, F26, A27, by decide, by decide⟩
    have F30 := (Str.ext E21 F12)
    refine G.strEq H19 (strwEq V) (wd7 V) (wd75 V) (wd60 V) (wd62 V) (wd61 V) F30 S29 (hv24 V) (hv25 V) (rest := []) (W := 0) rfl rfl D3_22 (pc' := 25) rfl (by decide) (by decide) (by decide) (by decide) ?_ ?_
    ·
      intro T31 H32 c33
      exact absurd c33 (by intro qq; simp at qq)
    ·
      intro T34 H35 c36
      refine G.ifYes H35 D3_25 (by decide) (by decide) (pc' := 32) rfl ?_
      refine G.aloadN H35 D3_32 (pc' := 33) rfl rfl rfl ?_
      refine G.ldcS H35 trivial (wS V) (wd81 V) (by decide) (vs := [(.int 99), (.int 108), (.int 105), (.int 101), (.int 110), (.int 116), (.int 45), (.int 105), (.int 110), (.int 100), (.int 105), (.int 118), (.int 105), (.int 100), (.int 117), (.int 97), (.int 108)]) (z := 17) (by decide) (by decide) rfl (n := 68) (by decide) (by decide) (by decide) (by decide) D3_33 (pc' := 35) rfl ?_
      intro T37 h37_ a38 b40 k41 H37 E39 X42 F43 F44 A45 Q46
      have S47 : Str Z h37_ a38 b40 k41 [99, 108, 105, 101, 110, 116, 45, 105, 110, 100, 105, 118, 105, 100, 117, 97, 108] := ⟨X42, F43, F44, A45, by decide, by decide⟩
      have F48 := (Str.ext E39 F30)
      refine G.strEq H37 (strwEq V) (wd7 V) (wd75 V) (wd60 V) (wd62 V) (wd61 V) F48 S47 (hv24 V) (hv25 V) (rest := []) (W := 0) rfl rfl D3_35 (pc' := 38) rfl (by decide) (by decide) (by decide) (by decide) ?_ ?_
      ·
        intro T49 H50 c51
        refine G.ifNo H50 D3_38 (pc' := 41) rfl (by decide) ?_
        refine G.getS H50 (wd82 V) Via.refl (Sta.ext H50.old.2 (hv6 V)) D3_41 (pc' := 44) rfl ?_
        intro T52 H53
        have K54 : Keep h0 h37_ [] := (Keep.ext (Keep.ext (Keep.ext (Keep.refl h0 []) E3) E21) E39)
        exact G.retA H53 (t := (.object "bindery/server/stomp/StompConnection$AckMode")) rfl rfl rfl D3_44 (so := []) all0 (by decide) (by decide) ⟨c51, rfl, rfl, K54⟩
      ·
        intro T55 H56 c57
        exact absurd cl1 c57
set_option maxRecDepth 65536 in
set_option maxHeartbeats 40000000 in
theorem m30_expected (V : Env1 Z a0 n0 uu0 uu1 uu2 uu3 uu4 uu5 uu6 uu7 uu8 uu9 uu10 uu11 uu12 uu13 uu14 uu15) (p0 : Addr) (p1 : Addr) (c0 : ClassId) (x0 : Int32) (x1 : Int32) (x2 : Int32) (x3 : Int32) (x4 : Int32) (x5 : Int32) (x6 : Int32) (x7 : Int32) (x8 : Int32) (x9 : Int32) (x10 : Int32) (x11 : Int32) (x12 : Int32) (x13 : Int32) (x14 : Int32) (x15 : Int32) (x16 : Int32) (h0 : Heap) (hO : Old Z n0 h0) (f0 : Str Z h0 p0 p1 c0 [x0, x1, x2, x3, x4, x5, x6, x7, x8, x9, x10, x11, x12, x13, x14, x15, x16]) (cl1 : ¬ [x0, x1, x2, x3, x4, x5, x6, x7, x8, x9, x10, x11, x12, x13, x14, x15, x16] = [99, 108, 105, 101, 110, 116, 45, 105, 110, 100, 105, 118, 105, 100, 117, 97, 108]) :
    Met Z a0 ELs True n0 l (⟨"bindery/server/stomp/AckModeNamedPinLaw", "expected", "(Ljava/lang/String;)Lbindery/server/stomp/StompConnection$AckMode;"⟩ : MethodName) method_3_code 1 (Option.some (FieldType.object "bindery/server/stomp/StompConnection$AckMode")) ({ frames := 2, cells := 6, slots := 120, locals := 28 } : Room) #[(.ref p0)] h0 [p0, p1] (fun v h so => (¬ [x0, x1, x2, x3, x4, x5, x6, x7, x8, x9, x10, x11, x12, x13, x14, x15, x16] = [99, 108, 105, 101, 110, 116, 45, 105, 110, 100, 105, 118, 105, 100, 117, 97, 108] ∧ v = some .null ∧ so = [] ∧ Keep h0 h [])) := by
  refine Met.of (EWl V) (by first | decide +kernel | rfl) hO (L0 := #[.val (.ref p0)]) rfl ?_
  intro p e s m below meth c T H
  show Go p e below _ (T.setTop (mkF m 0 #[.val (.ref p0)] []))
  refine G.aloadN H D3_0 (pc' := 1) rfl rfl rfl ?_
  refine G.ifnonnullYes H D3_1 (by decide) (pc' := 6) rfl ?_
  refine G.aloadN H D3_6 (pc' := 7) rfl rfl rfl ?_
  refine G.ldcS H trivial (wS V) (wd72 V) (by decide) (vs := [(.int 97), (.int 117), (.int 116), (.int 111)]) (z := 4) (by decide) (by decide) rfl (n := 16) (by decide) (by decide) (by decide) (by decide) D3_7 (pc' := 9) rfl ?_
  intro T1 h1_ a2 b4 k5 H1 E3 X6 F7 F8 A9 Q10
  have S11 : Str Z h1_ a2 b4 k5 [97, 117, 116, 111] := ⟨X6, F7, F8, A9, by decide, by decide⟩
  have F12 := (Str.ext E3 f0)
  refine G.strEq H1 (strwEq V) (wd7 V) (wd75 V) (wd60 V) (wd62 V) (wd61 V) F12 S11 (hv24 V) (hv25 V) (rest := []) (W := 0) rfl rfl D3_9 (pc' := 12) rfl (by decide) (by decide) (by decide) (by decide) ?_ ?_
  ·
    intro T13 H14 c15
    exact absurd c15 (by intro qq; simp at qq)
  ·
    intro T16 H17 c18
    refine G.ifYes H17 D3_12 (by decide) (by decide) (pc' := 19) rfl ?_
    refine G.aloadN H17 D3_19 (pc' := 20) rfl rfl rfl ?_
    refine G.ldcS H17 trivial (wS V) (wd80 V) (by decide) (vs := [(.int 99), (.int 108), (.int 105), (.int 101), (.int 110), (.int 116)]) (z := 6) (by decide) (by decide) rfl (n := 24) (by decide) (by decide) (by decide) (by decide) D3_20 (pc' := 22) rfl ?_
    intro T19 h19_ a20 b22 k23 H19 E21 X24 F25 F26 A27 Q28
    have S29 : Str Z h19_ a20 b22 k23 [99, 108, 105, 101, 110, 116] := ⟨X24, F25, F26, A27, by decide, by decide⟩
    have F30 := (Str.ext E21 F12)
    refine G.strEq H19 (strwEq V) (wd7 V) (wd75 V) (wd60 V) (wd62 V) (wd61 V) F30 S29 (hv24 V) (hv25 V) (rest := []) (W := 0) rfl rfl D3_22 (pc' := 25) rfl (by decide) (by decide) (by decide) (by decide) ?_ ?_
    ·
      intro T31 H32 c33
      exact absurd c33 (by intro qq; simp at qq)
    ·
      intro T34 H35 c36
      refine G.ifYes H35 D3_25 (by decide) (by decide) (pc' := 32) rfl ?_
      refine G.aloadN H35 D3_32 (pc' := 33) rfl rfl rfl ?_
      refine G.ldcS H35 trivial (wS V) (wd81 V) (by decide) (vs := [(.int 99), (.int 108), (.int 105), (.int 101), (.int 110), (.int 116), (.int 45), (.int 105), (.int 110), (.int 100), (.int 105), (.int 118), (.int 105), (.int 100), (.int 117), (.int 97), (.int 108)]) (z := 17) (by decide) (by decide) rfl (n := 68) (by decide) (by decide) (by decide) (by decide) D3_33 (pc' := 35) rfl ?_
      intro T37 h37_ a38 b40 k41 H37 E39 X42 F43 F44 A45 Q46
      have S47 : Str Z h37_ a38 b40 k41 [99, 108, 105, 101, 110, 116, 45, 105, 110, 100, 105, 118, 105, 100, 117, 97, 108] := ⟨X42, F43, F44, A45, by decide, by decide⟩
      have F48 := (Str.ext E39 F30)
      refine G.strEq H37 (strwEq V) (wd7 V) (wd75 V) (wd60 V) (wd62 V) (wd61 V) F48 S47 (hv24 V) (hv25 V) (rest := []) (W := 0) rfl rfl D3_35 (pc' := 38) rfl (by decide) (by decide) (by decide) (by decide) ?_ ?_
      ·
        intro T49 H50 c51
        exact absurd c51 cl1
      ·
        intro T52 H53 c54
        refine G.ifYes H53 D3_38 (by decide) (by decide) (pc' := 45) rfl ?_
        refine G.aconstNull H53 D3_45 (pc' := 46) rfl ?_
        have K55 : Keep h0 h37_ [] := (Keep.ext (Keep.ext (Keep.ext (Keep.refl h0 []) E3) E21) E39)
        exact G.retA H53 (t := (.object "bindery/server/stomp/StompConnection$AckMode")) rfl rfl rfl D3_46 (so := []) all0 (by decide) (by decide) ⟨c54, rfl, rfl, K55⟩
set_option maxRecDepth 65536 in
set_option maxHeartbeats 40000000 in
theorem cut31_122 (V : Env1 Z a0 n0 uu0 uu1 uu2 uu3 uu4 uu5 uu6 uu7 uu8 uu9 uu10 uu11 uu12 uu13 uu14 uu15) (x70000 : Int32) (x70001 : Int32) (x70002 : Int32) (x70003 : Int32) (x70004 : Int32) (x70005 : Int32) (x70006 : Int32) (x70007 : Int32) (x70008 : Int32) (x70009 : Int32) (p0 : Addr) (c0 : ClassId) (x61100 : Int32) (x61101 : Int32) (x61102 : Int32) (x61103 : Int32) (x61104 : Int32) (x61105 : Int32) (x61106 : Int32) (x61107 : Int32) (x61108 : Int32) (x61109 : Int32) (x61110 : Int32) (x61111 : Int32) (x61112 : Int32) (x61113 : Int32) (x61114 : Int32) (x61115 : Int32) (x61116 : Int32) (H : Hs p l e room_1 s m as' below meth c Z a0 ELs True x.cls n0 code maxLocals ret x.name T h0 1 17 []) (re_x61100 : ¬ x61100 < 0 ∧ ¬ 255 < x61100) (re_x61101 : ¬ x61101 < 0 ∧ ¬ 255 < x61101) (re_x61102 : ¬ x61102 < 0 ∧ ¬ 255 < x61102) (re_x61103 : ¬ x61103 < 0 ∧ ¬ 255 < x61103) (re_x61104 : ¬ x61104 < 0 ∧ ¬ 255 < x61104) (re_x61105 : ¬ x61105 < 0 ∧ ¬ 255 < x61105) (re_x61106 : ¬ x61106 < 0 ∧ ¬ 255 < x61106) (re_x61107 : ¬ x61107 < 0 ∧ ¬ 255 < x61107) (re_x61108 : ¬ x61108 < 0 ∧ ¬ 255 < x61108) (re_x61109 : ¬ x61109 < 0 ∧ ¬ 255 < x61109) (re_x61110 : ¬ x61110 < 0 ∧ ¬ 255 < x61110) (re_x61111 : ¬ x61111 < 0 ∧ ¬ 255 < x61111) (re_x61112 : ¬ x61112 < 0 ∧ ¬ 255 < x61112) (re_x61113 : ¬ x61113 < 0 ∧ ¬ 255 < x61113) (re_x61114 : ¬ x61114 < 0 ∧ ¬ 255 < x61114) (re_x61115 : ¬ x61115 < 0 ∧ ¬ 255 < x61115) (re_x61116 : ¬ x61116 < 0 ∧ ¬ 255 < x61116) (fA11 : Arv Z h0 p0 c0 .char 17 [(.int x61100), (.int x61101), (.int x61102), (.int x61103), (.int x61104), (.int x61105), (.int x61106), (.int x61107), (.int x61108), (.int x61109), (.int x61110), (.int x61111), (.int x61112), (.int x61113), (.int x61114), (.int x61115), (.int x61116)] (.int 0)) :
    Go p e below (FinP s below Z ELs True n0 room_1.cells room_1.slots (fun v h so => v = some (.int 1))) (T.setTop (mkF m 122 #[.val (.int x70000), .val (.int x70001), .val (.int x70002), .val (.int x70003), .val (.int x70004), .val (.int x70005), .val (.int x70006), .val (.int x70007), .val (.int x70008), .val (.int x70009), .unset, .val (.ref p0)] [])) := by
  refine G.new H (wd6 V) (wd7 V) (wd8 V) at_122 (pc' := 125) rfl (by decide) (by decide) ?_
  intro T1 h1_ a2 ga2 H1 E3 A4 D5
  have na2 := H.nle ga2
  refine G.dup H1 at_125 (pc' := 126) rfl rfl ?_
  refine G.aload H1 at_126 (pc' := 128) rfl rfl rfl ?_
  have F6 := (Arv.ext fA11 E3)
  have F7 : Fld Z h1_ a2 "java/lang/String" "value" "[B" .null := D5 (Or.inr (wd34 V)) (ty := (.array .byte)) (by decide)
  have F8 : Fld Z h1_ a2 "java/lang/String" "coder" "B" (.int 0) := D5 (Or.inr (wd32 V)) (ty := .byte) (by decide)
  refine G.newStr H1 (strw V) (wd7 V) (wd9 V) (wd10 V) (cs := [x61100, x61101, x61102, x61103, x61104, x61105, x61106, x61107, x61108, x61109, x61110, x61111, x61112, x61113, x61114, x61115, x61116]) (n := 17) na2 A4 F7 F8 F6 (hv24 V) (hv25 V) rfl rfl (by decide) (by decide) (cbS re_x61100 (cbS re_x61101 (cbS re_x61102 (cbS re_x61103 (cbS re_x61104 (cbS re_x61105 (cbS re_x61106 (cbS re_x61107 (cbS re_x61108 (cbS re_x61109 (cbS re_x61110 (cbS re_x61111 (cbS re_x61112 (cbS re_x61113 (cbS re_x61114 (cbS re_x61115 (cbS re_x61116 cb0))))))))))))))))) (Sf.mem (mG (i := 0) rfl)) (rest := [(.ref a2)]) (W := 1) rfl rfl at_128 (pc' := 131) rfl (by decide) (by decide) (by decide) (by decide) ?_
  intro T9 h9_ t10 k11 g14 H9 K12 S13
  have nt10 : n0 ≤ t10 := Nat.le_trans H1.le g14
  refine G.astore H9 (L' := #[.val (.int x70000), .val (.int x70001), .val (.int x70002), .val (.int x70003), .val (.int x70004), .val (.int x70005), .val (.int x70006), .val (.int x70007), .val (.int x70008), .val (.int x70009), .val (.ref a2), .val (.ref p0)]) at_131 (pc' := 133) rfl rfl rfl ?_
  refine G.aload H9 at_133 (pc' := 135) rfl rfl rfl ?_
  refine G.callS H9 (m28_named V a2 t10 k11 x61100 x61101 x61102 x61103 x61104 x61105 x61106 x61107 x61108 x61109 x61110 x61111 x61112 x61113 x61114 x61115 x61116 h9_ H9.old S13) (wd35 V) (wd36 V) (wd37 V) (wd38 V) (by decide) (argsL := [(.ref a2)]) (rest := []) (W := 0) rfl rfl (lenOf (pd_2) rfl) rfl rfl at_135 (pc' := 138) rfl (by decide) (by decide) (by decide) (by decide) all0 ?_
  intro T15 h15_ v16 s17 H15 Q18
  rcases Q18 with ⟨c19, rfl, rfl, K20⟩ | ⟨c21, rfl, rfl, K22⟩
  ·
    show Go p e below _ (T15.setTop (mkF m 138 #[.val (.int x70000), .val (.int x70001), .val (.int x70002), .val (.int x70003), .val (.int x70004), .val (.int x70005), .val (.int x70006), .val (.int x70007), .val (.int x70008), .val (.int x70009), .val (.ref a2), .val (.ref p0)] [(.ref uu3)]))
    refine G.astore H15 (L' := #[.val (.int x70000), .val (.int x70001), .val (.int x70002), .val (.int x70003), .val (.int x70004), .val (.int x70005), .val (.int x70006), .val (.int x70007), .val (.int x70008), .val (.int x70009), .val (.ref a2), .val (.ref uu3)]) at_138 (pc' := 140) rfl rfl rfl ?_
    refine G.aload H15 at_140 (pc' := 142) rfl rfl rfl ?_
    refine G.aload H15 at_142 (pc' := 144) rfl rfl rfl ?_
    have F23 := (Str.keep S13 K20 nin0 nin0)
    refine G.callS H15 (m29_expected V a2 t10 k11 x61100 x61101 x61102 x61103 x61104 x61105 x61106 x61107 x61108 x61109 x61110 x61111 x61112 x61113 x61114 x61115 x61116 h15_ H15.old F23 (Eq.symm c19)) (wd69 V) (wd70 V) (wd3 V) (wd71 V) (by decide) (argsL := [(.ref a2)]) (rest := [(.ref uu3)]) (W := 1) rfl rfl (lenOf (pd_2) rfl) rfl rfl at_144 (pc' := 147) rfl (by decide) (by decide) (by decide) (by decide) (allS (mG (i := 1) rfl) (allS (mG (i := 0) rfl) all0)) ?_
    intro T24 h24_ v25 s26 H24 Q27
    obtain ⟨c28, rfl, rfl, K29⟩ := Q27
    show Go p e below _ (T24.setTop (mkF m 147 #[.val (.int x70000), .val (.int x70001), .val (.int x70002), .val (.int x70003), .val (.int x70004), .val (.int x70005), .val (.int x70006), .val (.int x70007), .val (.int x70008), .val (.int x70009), .val (.ref a2), .val (.ref uu3)] [(.ref uu3), (.ref uu3)]))
    refine G.acmpNo H24 at_147 (pc' := 150) rfl rfl rfl (XT.aa_ne_f rfl) ?_
    refine G.iconst H24 at_150 (pc' := 151) rfl (v := 1) rfl ?_
    refine G.goto H24 at_151 (by decide) (pc' := 155) rfl ?_
    exact G.retN H24 (t := .boolean) rfl (by decide) at_155 (so := []) all0 (by decide) (by decide) rfl
  ·
    show Go p e below _ (T15.setTop (mkF m 138 #[.val (.int x70000), .val (.int x70001), .val (.int x70002), .val (.int x70003), .val (.int x70004), .val (.int x70005), .val (.int x70006), .val (.int x70007), .val (.int x70008), .val (.int x70009), .val (.ref a2), .val (.ref p0)] [.null]))
    refine G.astore H15 (L' := #[.val (.int x70000), .val (.int x70001), .val (.int x70002), .val (.int x70003), .val (.int x70004), .val (.int x70005), .val (.int x70006), .val (.int x70007), .val (.int x70008), .val (.int x70009), .val (.ref a2), .val .null]) at_138 (pc' := 140) rfl rfl rfl ?_
    refine G.aload H15 at_140 (pc' := 142) rfl rfl rfl ?_
    refine G.aload H15 at_142 (pc' := 144) rfl rfl rfl ?_
    have F30 := (Str.keep S13 K22 nin0 nin0)
    refine G.callS H15 (m30_expected V a2 t10 k11 x61100 x61101 x61102 x61103 x61104 x61105 x61106 x61107 x61108 x61109 x61110 x61111 x61112 x61113 x61114 x61115 x61116 h15_ H15.old F30 (fun qq => c21 (Eq.symm qq))) (wd69 V) (wd70 V) (wd3 V) (wd71 V) (by decide) (argsL := [(.ref a2)]) (rest := [.null]) (W := 1) rfl rfl (lenOf (pd_2) rfl) rfl rfl at_144 (pc' := 147) rfl (by decide) (by decide) (by decide) (by decide) (allS (mG (i := 1) rfl) (allS (mG (i := 0) rfl) all0)) ?_
    intro T31 h31_ v32 s33 H31 Q34
    obtain ⟨c35, rfl, rfl, K36⟩ := Q34
    show Go p e below _ (T31.setTop (mkF m 147 #[.val (.int x70000), .val (.int x70001), .val (.int x70002), .val (.int x70003), .val (.int x70004), .val (.int x70005), .val (.int x70006), .val (.int x70007), .val (.int x70008), .val (.int x70009), .val (.ref a2), .val .null] [.null, .null]))
    refine G.acmpNo H31 at_147 (pc' := 150) rfl rfl rfl (XT.aa_ne_f rfl) ?_
    refine G.iconst H31 at_150 (pc' := 151) rfl (v := 1) rfl ?_
    refine G.goto H31 at_151 (by decide) (pc' := 155) rfl ?_
    exact G.retN H31 (t := .boolean) rfl (by decide) at_155 (so := []) all0 (by decide) (by decide) rfl
set_option maxRecDepth 65536 in
set_option maxHeartbeats 40000000 in
theorem m32_base (V : Env1 Z a0 n0 uu0 uu1 uu2 uu3 uu4 uu5 uu6 uu7 uu8 uu9 uu10 uu11 uu12 uu13 uu14 uu15) (x0 : Int32) (h0 : Heap) (hO : Old Z n0 h0) (r0 : ¬ x0 < 0 ∧ ¬ 65535 < x0) :
    Met Z a0 ELs True n0 l (⟨"bindery/server/stomp/AckModeNamedPinLaw", "base", "(IIC)[C"⟩ : MethodName) method_5_code 3 (Option.some (FieldType.array FieldType.char)) ({ frames := 0, cells := 1, slots := 18, locals := 0 } : Room) #[(.int 2), (.int 1), (.int x0)] h0 [] (fun v h so => (∃ a2 : Addr, ∃ k5 : ClassId, v = some (.ref a2) ∧ so = [] ∧ Keep h0 h [] ∧ h0.size ≤ a2 ∧ Arv Z h a2 k5 .char 18 [(.int 99), (.int 108), (.int 105), (.int 101), (.int 110), (.int 116), (.int 45), (.int 105), (.int 110), (.int 100), (.int 105), (.int 118), (.int 105), (.int 100), (.int 117), (.int 97), (.int 108), (.int x0)] (.int 0) ∧ Exa Z h a2 "[C")) := by
  refine Met.of (EWl V) (by first | decide +kernel | rfl) hO (L0 := #[.val (.int 2), .val (.int 1), .val (.int x0)]) rfl ?_
  intro p e s m below meth c T H
  show Go p e below _ (T.setTop (mkF m 0 #[.val (.int 2), .val (.int 1), .val (.int x0)] []))
  refine G.iloadN H D5_0 (pc' := 1) rfl rfl ?_
  refine G.ifYes H D5_1 (by decide) (by decide) (pc' := 84) rfl ?_
  refine G.iloadN H D5_84 (pc' := 85) rfl rfl ?_
  refine G.iconst H D5_85 (pc' := 86) rfl (v := 1) rfl ?_
  refine G.icmpYes H D5_86 (by decide) (by decide) (pc' := 202) rfl ?_
  refine G.iloadN H D5_202 (pc' := 203) rfl rfl ?_
  refine G.ifYes H D5_203 (by decide) (by decide) (pc' := 307) rfl ?_
  refine G.iloadN H D5_307 (pc' := 308) rfl rfl ?_
  refine G.iconst H D5_308 (pc' := 309) rfl (v := 1) rfl ?_
  refine G.icmpNo H D5_309 (pc' := 312) rfl (by decide) ?_
  refine G.bipush H D5_312 (pc' := 314) rfl (v := 18) rfl ?_
  refine G.newP H (aty := .char) (wd5 V) D5_314 (pc' := 316) rfl (by decide) (cap := 18) (by decide) (by decide) (by decide) (by decide) (vs := [(.int 0), (.int 0), (.int 0), (.int 0), (.int 0), (.int 0), (.int 0), (.int 0), (.int 0), (.int 0), (.int 0), (.int 0), (.int 0), (.int 0), (.int 0), (.int 0), (.int 0), (.int 0)]) rfl (ad := "[C") rfl ?_
  intro T1 h1_ a2 k5 ga2 H1 E3 A4 X6
  have na2 := H.nle ga2
  replace A4 : Arv Z h1_ a2 k5 .char 18 [(.int 0), (.int 0), (.int 0), (.int 0), (.int 0), (.int 0), (.int 0), (.int 0), (.int 0), (.int 0), (.int 0), (.int 0), (.int 0), (.int 0), (.int 0), (.int 0), (.int 0), (.int 0)] (.int 0) := A4
  refine G.dup H1 D5_316 (pc' := 317) rfl rfl ?_
  refine G.iconst H1 D5_317 (pc' := 318) rfl (v := 0) rfl ?_
  refine G.bipush H1 D5_318 (pc' := 320) rfl (v := 99) rfl ?_
  refine G.stC H1 A4 (by decide) (i := 0) rfl lB na2 (y := 99) rfl D5_320 (pc' := 321) rfl ?_
  intro T7 h7_ H7 W8 A9
  replace A9 : Arv Z h7_ a2 k5 .char 18 [(.int 99), (.int 0), (.int 0), (.int 0), (.int 0), (.int 0), (.int 0), (.int 0), (.int 0), (.int 0), (.int 0), (.int 0), (.int 0), (.int 0), (.int 0), (.int 0), (.int 0), (.int 0)] (.int 0) := A9
  refine G.dup H7 D5_321 (pc' := 322) rfl rfl ?_
  refine G.iconst H7 D5_322 (pc' := 323) rfl (v := 1) rfl ?_
  refine G.bipush H7 D5_323 (pc' := 325) rfl (v := 108) rfl ?_
  refine G.stC H7 A9 (by decide) (i := 1) rfl lB na2 (y := 108) rfl D5_325 (pc' := 326) rfl ?_
  intro T10 h10_ H10 W11 A12
  replace A12 : Arv Z h10_ a2 k5 .char 18 [(.int 99), (.int 108), (.int 0), (.int 0), (.int 0), (.int 0), (.int 0), (.int 0), (.int 0), (.int 0), (.int 0), (.int 0), (.int 0), (.int 0), (.int 0), (.int 0), (.int 0), (.int 0)] (.int 0) := A12
  refine G.dup H10 D5_326 (pc' := 327) rfl rfl ?_
  refine G.iconst H10 D5_327 (pc' := 328) rfl (v := 2) rfl ?_
  refine G.bipush H10 D5_328 (pc' := 330) rfl (v := 105) rfl ?_
  refine G.stC H10 A12 (by decide) (i := 2) rfl lB na2 (y := 105) rfl D5_330 (pc' := 331) rfl ?_
  intro T13 h13_ H13 W14 A15
  replace A15 : Arv Z h13_ a2 k5 .char 18 [(.int 99), (.int 108), (.int 105), (.int 0), (.int 0), (.int 0), (.int 0), (.int 0), (.int 0), (.int 0), (.int 0), (.int 0), (.int 0), (.int 0), (.int 0), (.int 0), (.int 0), (.int 0)] (.int 0) := A15
  refine G.dup H13 D5_331 (pc' := 332) rfl rfl ?_
  refine G.iconst H13 D5_332 (pc' := 333) rfl (v := 3) rfl ?_
  refine G.bipush H13 D5_333 (pc' := 335) rfl (v := 101) rfl ?_
  refine G.stC H13 A15 (by decide) (i := 3) rfl lB na2 (y := 101) rfl D5_335 (pc' := 336) rfl ?_
  intro T16 h16_ H16 W17 A18
  replace A18 : Arv Z h16_ a2 k5 .char 18 [(.int 99), (.int 108), (.int 105), (.int 101), (.int 0), (.int 0), (.int 0), (.int 0), (.int 0), (.int 0), (.int 0), (.int 0), (.int 0), (.int 0), (.int 0), (.int 0), (.int 0), (.int 0)] (.int 0) := A18
  refine G.dup H16 D5_336 (pc' := 337) rfl rfl ?_
  refine G.iconst H16 D5_337 (pc' := 338) rfl (v := 4) rfl ?_
  refine G.bipush H16 D5_338 (pc' := 340) rfl (v := 110) rfl ?_
  refine G.stC H16 A18 (by decide) (i := 4) rfl lB na2 (y := 110) rfl D5_340 (pc' := 341) rfl ?_
  intro T19 h19_ H19 W20 A21
  replace A21 : Arv Z h19_ a2 k5 .char 18 [(.int 99), (.int 108), (.int 105), (.int 101), (.int 110), (.int 0), (.int 0), (.int 0), (.int 0), (.int 0), (.int 0), (.int 0), (.int 0), (.int 0), (.int 0), (.int 0), (.int 0), (.int 0)] (.int 0) := A21
  refine G.dup H19 D5_341 (pc' := 342) rfl rfl ?_
  refine G.iconst H19 D5_342 (pc' := 343) rfl (v := 5) rfl ?_
  refine G.bipush H19 D5_343 (pc' := 345) rfl (v := 116) rfl ?_
  refine G.stC H19 A21 (by decide) (i := 5) rfl lB na2 (y := 116) rfl D5_345 (pc' := 346) rfl ?_
  intro T22 h22_ H22 W23 A24
  replace A24 : Arv Z h22_ a2 k5 .char 18 [(.int 99), (.int 108), (.int 105), (.int 101), (.int 110), (.int 116), (.int 0), (.int 0), (.int 0), (.int 0), (.int 0), (.int 0), (.int 0), (.int 0), (.int 0), (.int 0), (.int 0), (.int 0)] (.int 0) := A24
  refine G.dup H22 D5_346 (pc' := 347) rfl rfl ?_
  refine G.bipush H22 D5_347 (pc' := 349) rfl (v := 6) rfl ?_
  refine G.bipush H22 D5_349 (pc' := 351) rfl (v := 45) rfl ?_
  refine G.stC H22 A24 (by decide) (i := 6) rfl lB na2 (y := 45) rfl D5_351 (pc' := 352) rfl ?_
  intro T25 h25_ H25 W26 A27
  replace A27 : Arv Z h25_ a2 k5 .char 18 [(.int 99), (.int 108), (.int 105), (.int 101), (.int 110), (.int 116), (.int 45), (.int 0), (.int 0), (.int 0), (.int 0), (.int 0), (.int 0), (.int 0), (.int 0), (.int 0), (.int 0), (.int 0)] (.int 0) := A27
  refine G.dup H25 D5_352 (pc' := 353) rfl rfl ?_
  refine G.bipush H25 D5_353 (pc' := 355) rfl (v := 7) rfl ?_
  refine G.bipush H25 D5_355 (pc' := 357) rfl (v := 105) rfl ?_
  refine G.stC H25 A27 (by decide) (i := 7) rfl lB na2 (y := 105) rfl D5_357 (pc' := 358) rfl ?_
  intro T28 h28_ H28 W29 A30
  replace A30 : Arv Z h28_ a2 k5 .char 18 [(.int 99), (.int 108), (.int 105), (.int 101), (.int 110), (.int 116), (.int 45), (.int 105), (.int 0), (.int 0), (.int 0), (.int 0), (.int 0), (.int 0), (.int 0), (.int 0), (.int 0), (.int 0)] (.int 0) := A30
  refine G.dup H28 D5_358 (pc' := 359) rfl rfl ?_
  refine G.bipush H28 D5_359 (pc' := 361) rfl (v := 8) rfl ?_
  refine G.bipush H28 D5_361 (pc' := 363) rfl (v := 110) rfl ?_
  refine G.stC H28 A30 (by decide) (i := 8) rfl lB na2 (y := 110) rfl D5_363 (pc' := 364) rfl ?_
  intro T31 h31_ H31 W32 A33
  replace A33 : Arv Z h31_ a2 k5 .char 18 [(.int 99), (.int 108), (.int 105), (.int 101), (.int 110), (.int 116), (.int 45), (.int 105), (.int 110), (.int 0), (.int 0), (.int 0), (.int 0), (.int 0), (.int 0), (.int 0), (.int 0), (.int 0)] (.int 0) := A33
  refine G.dup H31 D5_364 (pc' := 365) rfl rfl ?_
  refine G.bipush H31 D5_365 (pc' := 367) rfl (v := 9) rfl ?_
  refine G.bipush H31 D5_367 (pc' := 369) rfl (v := 100) rfl ?_
  refine G.stC H31 A33 (by decide) (i := 9) rfl lB na2 (y := 100) rfl D5_369 (pc' := 370) rfl ?_
  intro T34 h34_ H34 W35 A36
  replace A36 : Arv Z h34_ a2 k5 .char 18 [(.int 99), (.int 108), (.int 105), (.int 101), (.int 110), (.int 116), (.int 45), (.int 105), (.int 110), (.int 100), (.int 0), (.int 0), (.int 0), (.int 0), (.int 0), (.int 0), (.int 0), (.int 0)] (.int 0) := A36
  refine G.dup H34 D5_370 (pc' := 371) rfl rfl ?_
  refine G.bipush H34 D5_371 (pc' := 373) rfl (v := 10) rfl ?_
  refine G.bipush H34 D5_373 (pc' := 375) rfl (v := 105) rfl ?_
  refine G.stC H34 A36 (by decide) (i := 10) rfl lB na2 (y := 105) rfl D5_375 (pc' := 376) rfl ?_
  intro T37 h37_ H37 W38 A39
  replace A39 : Arv Z h37_ a2 k5 .char 18 [(.int 99), (.int 108), (.int 105), (.int 101), (.int 110), (.int 116), (.int 45), (.int 105), (.int 110), (.int 100), (.int 105), (.int 0), (.int 0), (.int 0), (.int 0), (.int 0), (.int 0), (.int 0)] (.int 0) := A39
  refine G.dup H37 D5_376 (pc' := 377) rfl rfl ?_
  refine G.bipush H37 D5_377 (pc' := 379) rfl (v := 11) rfl ?_
  refine G.bipush H37 D5_379 (pc' := 381) rfl (v := 118) rfl ?_
  refine G.stC H37 A39 (by decide) (i := 11) rfl lB na2 (y := 118) rfl D5_381 (pc' := 382) rfl ?_
  intro T40 h40_ H40 W41 A42
  replace A42 : Arv Z h40_ a2 k5 .char 18 [(.int 99), (.int 108), (.int 105), (.int 101), (.int 110), (.int 116), (.int 45), (.int 105), (.int 110), (.int 100), (.int 105), (.int 118), (.int 0), (.int 0), (.int 0), (.int 0), (.int 0), (.int 0)] (.int 0) := A42
  refine G.dup H40 D5_382 (pc' := 383) rfl rfl ?_
  refine G.bipush H40 D5_383 (pc' := 385) rfl (v := 12) rfl ?_
  refine G.bipush H40 D5_385 (pc' := 387) rfl (v := 105) rfl ?_
  refine G.stC H40 A42 (by decide) (i := 12) rfl lB na2 (y := 105) rfl D5_387 (pc' := 388) rfl ?_
  intro T43 h43_ H43 W44 A45
  replace A45 : Arv Z h43_ a2 k5 .char 18 [(.int 99), (.int 108), (.int 105), (.int 101), (.int 110), (.int 116), (.int 45), (.int 105), (.int 110), (.int 100), (.int 105), (.int 118), (.int 105), (.int 0), (.int 0), (.int 0), (.int 0), (.int 0)] (.int 0) := A45
  refine G.dup H43 D5_388 (pc' := 389) rfl rfl ?_
  refine G.bipush H43 D5_389 (pc' := 391) rfl (v := 13) rfl ?_
  refine G.bipush H43 D5_391 (pc' := 393) rfl (v := 100) rfl ?_
  refine G.stC H43 A45 (by decide) (i := 13) rfl lB na2 (y := 100) rfl D5_393 (pc' := 394) rfl ?_
  intro T46 h46_ H46 W47 A48
  replace A48 : Arv Z h46_ a2 k5 .char 18 [(.int 99), (.int 108), (.int 105), (.int 101), (.int 110), (.int 116), (.int 45), (.int 105), (.int 110), (.int 100), (.int 105), (.int 118), (.int 105), (.int 100), (.int 0), (.int 0), (.int 0), (.int 0)] (.int 0) := A48
  refine G.dup H46 D5_394 (pc' := 395) rfl rfl ?_
  refine G.bipush H46 D5_395 (pc' := 397) rfl (v := 14) rfl ?_
  refine G.bipush H46 D5_397 (pc' := 399) rfl (v := 117) rfl ?_
  refine G.stC H46 A48 (by decide) (i := 14) rfl lB na2 (y := 117) rfl D5_399 (pc' := 400) rfl ?_
  intro T49 h49_ H49 W50 A51
  replace A51 : Arv Z h49_ a2 k5 .char 18 [(.int 99), (.int 108), (.int 105), (.int 101), (.int 110), (.int 116), (.int 45), (.int 105), (.int 110), (.int 100), (.int 105), (.int 118), (.int 105), (.int 100), (.int 117), (.int 0), (.int 0), (.int 0)] (.int 0) := A51
  refine G.dup H49 D5_400 (pc' := 401) rfl rfl ?_
  refine G.bipush H49 D5_401 (pc' := 403) rfl (v := 15) rfl ?_
  refine G.bipush H49 D5_403 (pc' := 405) rfl (v := 97) rfl ?_
  refine G.stC H49 A51 (by decide) (i := 15) rfl lB na2 (y := 97) rfl D5_405 (pc' := 406) rfl ?_
  intro T52 h52_ H52 W53 A54
  replace A54 : Arv Z h52_ a2 k5 .char 18 [(.int 99), (.int 108), (.int 105), (.int 101), (.int 110), (.int 116), (.int 45), (.int 105), (.int 110), (.int 100), (.int 105), (.int 118), (.int 105), (.int 100), (.int 117), (.int 97), (.int 0), (.int 0)] (.int 0) := A54
  refine G.dup H52 D5_406 (pc' := 407) rfl rfl ?_
  refine G.bipush H52 D5_407 (pc' := 409) rfl (v := 16) rfl ?_
  refine G.bipush H52 D5_409 (pc' := 411) rfl (v := 108) rfl ?_
  refine G.stC H52 A54 (by decide) (i := 16) rfl lB na2 (y := 108) rfl D5_411 (pc' := 412) rfl ?_
  intro T55 h55_ H55 W56 A57
  replace A57 : Arv Z h55_ a2 k5 .char 18 [(.int 99), (.int 108), (.int 105), (.int 101), (.int 110), (.int 116), (.int 45), (.int 105), (.int 110), (.int 100), (.int 105), (.int 118), (.int 105), (.int 100), (.int 117), (.int 97), (.int 108), (.int 0)] (.int 0) := A57
  refine G.dup H55 D5_412 (pc' := 413) rfl rfl ?_
  refine G.bipush H55 D5_413 (pc' := 415) rfl (v := 17) rfl ?_
  refine G.iloadN H55 D5_415 (pc' := 416) rfl rfl ?_
  refine G.stC H55 A57 (by decide) (i := 17) rfl lB na2 (y := x0) (own_narC r0) D5_416 (pc' := 417) rfl ?_
  intro T58 h58_ H58 W59 A60
  replace A60 : Arv Z h58_ a2 k5 .char 18 [(.int 99), (.int 108), (.int 105), (.int 101), (.int 110), (.int 116), (.int 45), (.int 105), (.int 110), (.int 100), (.int 105), (.int 118), (.int 105), (.int 100), (.int 117), (.int 97), (.int 108), (.int x0)] (.int 0) := A60
  have K61 : Keep h1_ h58_ [a2] := (Keep.wr (Keep.wr (Keep.wr (Keep.wr (Keep.wr (Keep.wr (Keep.wr (Keep.wr (Keep.wr (Keep.wr (Keep.wr (Keep.wr (Keep.wr (Keep.wr (Keep.wr (Keep.wr (Keep.wr (Keep.wr (Keep.refl h1_ [a2]) W8 (Or.inl (mG (i := 0) rfl))) W11 (Or.inl (mG (i := 0) rfl))) W14 (Or.inl (mG (i := 0) rfl))) W17 (Or.inl (mG (i := 0) rfl))) W20 (Or.inl (mG (i := 0) rfl))) W23 (Or.inl (mG (i := 0) rfl))) W26 (Or.inl (mG (i := 0) rfl))) W29 (Or.inl (mG (i := 0) rfl))) W32 (Or.inl (mG (i := 0) rfl))) W35 (Or.inl (mG (i := 0) rfl))) W38 (Or.inl (mG (i := 0) rfl))) W41 (Or.inl (mG (i := 0) rfl))) W44 (Or.inl (mG (i := 0) rfl))) W47 (Or.inl (mG (i := 0) rfl))) W50 (Or.inl (mG (i := 0) rfl))) W53 (Or.inl (mG (i := 0) rfl))) W56 (Or.inl (mG (i := 0) rfl))) W59 (Or.inl (mG (i := 0) rfl)))
  have F62 := (Exa.keep X6 K61)
  have K63 : Keep h0 h58_ [] := (Keep.wr (Keep.wr (Keep.wr (Keep.wr (Keep.wr (Keep.wr (Keep.wr (Keep.wr (Keep.wr (Keep.wr (Keep.wr (Keep.wr (Keep.wr (Keep.wr (Keep.wr (Keep.wr (Keep.wr (Keep.wr (Keep.ext (Keep.refl h0 []) E3) W8 (Or.inr (Nat.le_of_eq ga2.symm))) W11 (Or.inr (Nat.le_of_eq ga2.symm))) W14 (Or.inr (Nat.le_of_eq ga2.symm))) W17 (Or.inr (Nat.le_of_eq ga2.symm))) W20 (Or.inr (Nat.le_of_eq ga2.symm))) W23 (Or.inr (Nat.le_of_eq ga2.symm))) W26 (Or.inr (Nat.le_of_eq ga2.symm))) W29 (Or.inr (Nat.le_of_eq ga2.symm))) W32 (Or.inr (Nat.le_of_eq ga2.symm))) W35 (Or.inr (Nat.le_of_eq ga2.symm))) W38 (Or.inr (Nat.le_of_eq ga2.symm))) W41 (Or.inr (Nat.le_of_eq ga2.symm))) W44 (Or.inr (Nat.le_of_eq ga2.symm))) W47 (Or.inr (Nat.le_of_eq ga2.symm))) W50 (Or.inr (Nat.le_of_eq ga2.symm))) W53 (Or.inr (Nat.le_of_eq ga2.symm))) W56 (Or.inr (Nat.le_of_eq ga2.symm))) W59 (Or.inr (Nat.le_of_eq ga2.symm)))
  exact G.retA H58 (t := (.array .char)) rfl rfl rfl D5_417 (so := []) all0 (by decide) (by decide) ⟨a2, k5, rfl, rfl, K63, (Nat.le_of_eq ga2.symm), A60, F62⟩
set_option maxRecDepth 65536 in
set_option maxHeartbeats 40000000 in
theorem m33_named (V : Env1 Z a0 n0 uu0 uu1 uu2 uu3 uu4 uu5 uu6 uu7 uu8 uu9 uu10 uu11 uu12 uu13 uu14 uu15) (p0 : Addr) (p1 : Addr) (c0 : ClassId) (x0 : Int32) (x1 : Int32) (x2 : Int32) (x3 : Int32) (x4 : Int32) (x5 : Int32) (x6 : Int32) (x7 : Int32) (x8 : Int32) (x9 : Int32) (x10 : Int32) (x11 : Int32) (x12 : Int32) (x13 : Int32) (x14 : Int32) (x15 : Int32) (x16 : Int32) (x17 : Int32) (h0 : Heap) (hO : Old Z n0 h0) (f0 : Str Z h0 p0 p1 c0 [x0, x1, x2, x3, x4, x5, x6, x7, x8, x9, x10, x11, x12, x13, x14, x15, x16, x17]) :
    Met Z a0 ELs True n0 l (⟨"bindery/server/stomp/StompConnection$AckMode", "named", "(Ljava/lang/String;)Lbindery/server/stomp/StompConnection$AckMode;"⟩ : MethodName) prog_93_method_4_code 5 (Option.some (FieldType.object "bindery/server/stomp/StompConnection$AckMode")) ({ frames := 2, cells := 1, slots := 3, locals := 28 } : Room) #[(.ref p0)] h0 [] (fun v h so => (v = some .null ∧ so = [] ∧ Keep h0 h [])) := by
  refine Met.of (EWl V) (by first | decide +kernel | rfl) hO (L0 := #[.val (.ref p0), .unset, .unset, .unset, .unset]) rfl ?_
  intro p e s m below meth c T H
  show Go p e below _ (T.setTop (mkF m 0 #[.val (.ref p0), .unset, .unset, .unset, .unset] []))
  refine G.callS H (m2_values V h0 H.old) (wd39 V) (wd40 V) (wd37 V) (wd41 V) (by decide) (argsL := []) (rest := []) (W := 0) rfl rfl (lenOf (pd_1) rfl) rfl rfl D7_0 (pc' := 3) rfl (by decide) (by decide) (by decide) (by decide) all0 ?_
  intro T1 h1_ v2 s3 H1 Q4
  obtain ⟨a5, k6, rfl, rfl, K7, g8, F9, F10⟩ := Q4
  have na5 : n0 ≤ a5 := Nat.le_trans H.le g8
  show Go p e below _ (T1.setTop (mkF m 3 #[.val (.ref p0), .unset, .unset, .unset, .unset] [(.ref a5)]))
  refine G.astoreN H1 (L' := #[.val (.ref p0), .val (.ref a5), .unset, .unset, .unset]) D7_3 (pc' := 4) rfl rfl rfl ?_
  refine G.aloadN H1 D7_4 (pc' := 5) rfl rfl rfl ?_
  refine G.arrlen H1 F9 D7_5 (pc' := 6) rfl ?_
  refine G.istoreN H1 (L' := #[.val (.ref p0), .val (.ref a5), .val (.int 3), .unset, .unset]) D7_6 (pc' := 7) rfl rfl ?_
  refine G.iconst H1 D7_7 (pc' := 8) rfl (v := 0) rfl ?_
  refine G.istoreN H1 (L' := #[.val (.ref p0), .val (.ref a5), .val (.int 3), .val (.int 0), .unset]) D7_8 (pc' := 9) rfl rfl ?_
  refine G.iloadN H1 D7_9 (pc' := 10) rfl rfl ?_
  refine G.iloadN H1 D7_10 (pc' := 11) rfl rfl ?_
  refine G.icmpNo H1 D7_11 (pc' := 14) rfl (by decide) ?_
  refine G.aloadN H1 D7_14 (pc' := 15) rfl rfl rfl ?_
  refine G.iloadN H1 D7_15 (pc' := 16) rfl rfl ?_
  refine G.aaloadG H1 F9 rfl (j := 0) (v := (.ref uu1)) (by decide) rfl D7_16 (pc' := 17) rfl ?_
  refine G.astore H1 (L' := #[.val (.ref p0), .val (.ref a5), .val (.int 3), .val (.int 0), .val (.ref uu1)]) D7_17 (pc' := 19) rfl rfl rfl ?_
  refine G.aload H1 D7_19 (pc' := 21) rfl rfl rfl ?_
  have B11 := Fld.ext H1.old.2 (hv12 V)
  refine G.getF H1 (wd57 V) Via.refl B11 D7_21 (pc' := 24) rfl ?_
  intro T12 H13
  refine G.aloadN H13 D7_24 (pc' := 25) rfl rfl rfl ?_
  have B14 := Str.ext H13.old.2 (hv30 V)
  have F15 := (Str.keep f0 K7 nin0 nin0)
  refine G.strEq H13 (strwEq V) (wd7 V) (wd59 V) (wd60 V) (wd62 V) (wd61 V) B14 F15 (hv24 V) (hv25 V) (rest := []) (W := 0) rfl rfl D7_25 (pc' := 28) rfl (by decide) (by decide) (by decide) (by decide) ?_ ?_
  ·
    intro T16 H17 c18
    exact absurd c18 (by intro qq; simp at qq)
  ·
    intro T19 H20 c21
    refine G.ifYes H20 D7_28 (by decide) (by decide) (pc' := 34) rfl ?_
    refine G.iinc H20 (v := 1) (L' := #[.val (.ref p0), .val (.ref a5), .val (.int 3), .val (.int 1), .val (.ref uu1)]) D7_34 (pc' := 37) rfl rfl rfl rfl ?_
    refine G.goto H20 D7_37 (by decide) (pc' := 9) rfl ?_
    show Go p e below _ (T19.setTop (mkF m 9 #[.val (.ref p0), .val (.ref a5), .val (.int 3), .val (.int 1), .val (.ref uu1)] []))
    refine G.iloadN H20 D7_9 (pc' := 10) rfl rfl ?_
    refine G.iloadN H20 D7_10 (pc' := 11) rfl rfl ?_
    refine G.icmpNo H20 D7_11 (pc' := 14) rfl (by decide) ?_
    refine G.aloadN H20 D7_14 (pc' := 15) rfl rfl rfl ?_
    refine G.iloadN H20 D7_15 (pc' := 16) rfl rfl ?_
    refine G.aaloadG H20 F9 rfl (j := 1) (v := (.ref uu2)) (by decide) rfl D7_16 (pc' := 17) rfl ?_
    refine G.astore H20 (L' := #[.val (.ref p0), .val (.ref a5), .val (.int 3), .val (.int 1), .val (.ref uu2)]) D7_17 (pc' := 19) rfl rfl rfl ?_
    refine G.aload H20 D7_19 (pc' := 21) rfl rfl rfl ?_
    have B22 := Fld.ext H20.old.2 (hv10 V)
    refine G.getF H20 (wd57 V) Via.refl B22 D7_21 (pc' := 24) rfl ?_
    intro T23 H24
    refine G.aloadN H24 D7_24 (pc' := 25) rfl rfl rfl ?_
    have B25 := Str.ext H24.old.2 (hv29 V)
    refine G.strEq H24 (strwEq V) (wd7 V) (wd59 V) (wd60 V) (wd62 V) (wd61 V) B25 F15 (hv24 V) (hv25 V) (rest := []) (W := 0) rfl rfl D7_25 (pc' := 28) rfl (by decide) (by decide) (by decide) (by decide) ?_ ?_
    ·
      intro T26 H27 c28
      exact absurd c28 (by intro qq; simp at qq)
    ·
      intro T29 H30 c31
      refine G.ifYes H30 D7_28 (by decide) (by decide) (pc' := 34) rfl ?_
      refine G.iinc H30 (v := 2) (L' := #[.val (.ref p0), .val (.ref a5), .val (.int 3), .val (.int 2), .val (.ref uu2)]) D7_34 (pc' := 37) rfl rfl rfl rfl ?_
      refine G.goto H30 D7_37 (by decide) (pc' := 9) rfl ?_
      show Go p e below _ (T29.setTop (mkF m 9 #[.val (.ref p0), .val (.ref a5), .val (.int 3), .val (.int 2), .val (.ref uu2)] []))
      refine G.iloadN H30 D7_9 (pc' := 10) rfl rfl ?_
      refine G.iloadN H30 D7_10 (pc' := 11) rfl rfl ?_
      refine G.icmpNo H30 D7_11 (pc' := 14) rfl (by decide) ?_
      refine G.aloadN H30 D7_14 (pc' := 15) rfl rfl rfl ?_
      refine G.iloadN H30 D7_15 (pc' := 16) rfl rfl ?_
      refine G.aaloadG H30 F9 rfl (j := 2) (v := (.ref uu3)) (by decide) rfl D7_16 (pc' := 17) rfl ?_
      refine G.astore H30 (L' := #[.val (.ref p0), .val (.ref a5), .val (.int 3), .val (.int 2), .val (.ref uu3)]) D7_17 (pc' := 19) rfl rfl rfl ?_
      refine G.aload H30 D7_19 (pc' := 21) rfl rfl rfl ?_
      have B32 := Fld.ext H30.old.2 (hv8 V)
      refine G.getF H30 (wd57 V) Via.refl B32 D7_21 (pc' := 24) rfl ?_
      intro T33 H34
      refine G.aloadN H34 D7_24 (pc' := 25) rfl rfl rfl ?_
      have B35 := Str.ext H34.old.2 (hv28 V)
      refine G.strEq H34 (strwEq V) (wd7 V) (wd59 V) (wd60 V) (wd62 V) (wd61 V) B35 F15 (hv24 V) (hv25 V) (rest := []) (W := 0) rfl rfl D7_25 (pc' := 28) rfl (by decide) (by decide) (by decide) (by decide) ?_ ?_
      ·
        intro T36 H37 c38
        exact absurd c38 (by intro qq; simp at qq)
      ·
        intro T39 H40 c41
        refine G.ifYes H40 D7_28 (by decide) (by decide) (pc' := 34) rfl ?_
        refine G.iinc H40 (v := 3) (L' := #[.val (.ref p0), .val (.ref a5), .val (.int 3), .val (.int 3), .val (.ref uu3)]) D7_34 (pc' := 37) rfl rfl rfl rfl ?_
        refine G.goto H40 D7_37 (by decide) (pc' := 9) rfl ?_
        show Go p e below _ (T39.setTop (mkF m 9 #[.val (.ref p0), .val (.ref a5), .val (.int 3), .val (.int 3), .val (.ref uu3)] []))
        refine G.iloadN H40 D7_9 (pc' := 10) rfl rfl ?_
        refine G.iloadN H40 D7_10 (pc' := 11) rfl rfl ?_
        refine G.icmpYes H40 D7_11 (by decide) (by decide) (pc' := 40) rfl ?_
        refine G.aconstNull H40 D7_40 (pc' := 41) rfl ?_
        have K42 : Keep h0 h1_ [] := (Keep.trans (Keep.refl h0 []) K7 all0)
        exact G.retA H40 (t := (.object "bindery/server/stomp/StompConnection$AckMode")) rfl rfl rfl D7_41 (so := []) all0 (by decide) (by decide) ⟨rfl, rfl, K42⟩
set_option maxRecDepth 65536 in
set_option maxHeartbeats 40000000 in
theorem m34_expected (V : Env1 Z a0 n0 uu0 uu1 uu2 uu3 uu4 uu5 uu6 uu7 uu8 uu9 uu10 uu11 uu12 uu13 uu14 uu15) (p0 : Addr) (p1 : Addr) (c0 : ClassId) (x0 : Int32) (x1 : Int32) (x2 : Int32) (x3 : Int32) (x4 : Int32) (x5 : Int32) (x6 : Int32) (x7 : Int32) (x8 : Int32) (x9 : Int32) (x10 : Int32) (x11 : Int32) (x12 : Int32) (x13 : Int32) (x14 : Int32) (x15 : Int32) (x16 : Int32) (x17 : Int32) (h0 : Heap) (hO : Old Z n0 h0) (f0 : Str Z h0 p0 p1 c0 [x0, x1, x2, x3, x4, x5, x6, x7, x8, x9, x10, x11, x12, x13, x14, x15, x16, x17]) :
    Met Z a0 ELs True n0 l (⟨"bindery/server/stomp/AckModeNamedPinLaw", "expected", "(Ljava/lang/String;)Lbindery/server/stomp/StompConnection$AckMode;"⟩ : MethodName) method_3_code 1 (Option.some (FieldType.object "bindery/server/stomp/StompConnection$AckMode")) ({ frames := 2, cells := 6, slots := 120, locals := 28 } : Room) #[(.ref p0)] h0 [p0, p1] (fun v h so => (v = some .null ∧ so = [] ∧ Keep h0 h [])) := by
  refine Met.of (EWl V) (by first | decide +kernel | rfl) hO (L0 := #[.val (.ref p0)]) rfl ?_
  intro p e s m below meth c T H
  show Go p e below _ (T.setTop (mkF m 0 #[.val (.ref p0)] []))
  refine G.aloadN H D3_0 (pc' := 1) rfl rfl rfl ?_
  refine G.ifnonnullYes H D3_1 (by decide) (pc' := 6) rfl ?_
  refine G.aloadN H D3_6 (pc' := 7) rfl rfl rfl ?_
  refine G.ldcS H trivial (wS V) (wd72 V) (by decide) (vs := [(.int 97), (.int 117), (.int 116), (.int 111)]) (z := 4) (by decide) (by decide) rfl (n := 16) (by decide) (by decide) (by decide) (by decide) D3_7 (pc' := 9) rfl ?_
  intro T1 h1_ a2 b4 k5 H1 E3 X6 F7 F8 A9 Q10
  have S11 : Str Z h1_ a2 b4 k5 [97, 117, 116, 111] := ⟨X6, F7, F8, A9, by decide, by decide⟩
  have F12 := (Str.ext E3 f0)
  refine G.strEq H1 (strwEq V) (wd7 V) (wd75 V) (wd60 V) (wd62 V) (wd61 V) F12 S11 (hv24 V) (hv25 V) (rest := []) (W := 0) rfl rfl D3_9 (pc' := 12) rfl (by decide) (by decide) (by decide) (by decide) ?_ ?_
  ·
    intro T13 H14 c15
    exact absurd c15 (by intro qq; simp at qq)
  ·
    intro T16 H17 c18
    refine G.ifYes H17 D3_12 (by decide) (by decide) (pc' := 19) rfl ?_
    refine G.aloadN H17 D3_19 (pc' := 20) rfl rfl rfl ?_
    refine G.ldcS H17 trivial (wS V) (wd80 V) (by decide) (vs := [(.int 99), (.int 108), (.int 105), (.int 101), (.int 110), (.int 116)]) (z := 6) (by decide) (by decide) rfl (n := 24) (by decide) (by decide) (by decide) (by decide) D3_20 (pc' := 22) rfl ?_
    intro T19 h19_ a20 b22 k23 H19 E21 X24 F25 F26 A27 Q28
    have S29 : Str Z h19_ a20 b22 k23 [99, 108, 105, 101, 110, 116] := ⟨X24, F25, F26, A27, by decide, by decide⟩
    have F30 := (Str.ext E21 F12)
    refine G.strEq H19 (strwEq V) (wd7 V) (wd75 V) (wd60 V) (wd62 V) (wd61 V) F30 S29 (hv24 V) (hv25 V) (rest := []) (W := 0) rfl rfl D3_22 (pc' := 25) rfl (by decide) (by decide) (by decide) (by decide) ?_ ?_
    ·
      intro T31 H32 c33
      exact absurd c33 (by intro qq; simp at qq)
    ·
      intro T34 H35 c36
      refine G.ifYes H35 D3_25 (by decide) (by decide) (pc' := 32) rfl ?_
      refine G.aloadN H35 D3_32 (pc' := 33) rfl rfl rfl ?_
      refine G.ldcS H35 trivial (wS V) (wd81 V) (by decide) (vs := [(.int 99), (.int 108), (.int 105), (.int 101), (.int 110), (.int 116), (.int 45), (.int 105), (.int 110), (.int 100), (.int 105), (.int 118), (.int 105), (.int 100), (.int 117), (.int 97), (.int 108)]) (z := 17) (by decide) (by decide) rfl (n := 68) (by decide) (by decide) (by decide) (by decide) D3_33 (pc' := 35) rfl ?_
      intro T37 h37_ a38 b40 k41 H37 E39 X42 F43 F44 A45 Q46
      have S47 : Str Z h37_ a38 b40 k41 [99, 108, 105, 101, 110, 116, 45, 105, 110, 100, 105, 118, 105, 100, 117, 97, 108] := ⟨X42, F43, F44, A45, by decide, by decide⟩
      have F48 := (Str.ext E39 F30)
      refine G.strEq H37 (strwEq V) (wd7 V) (wd75 V) (wd60 V) (wd62 V) (wd61 V) F48 S47 (hv24 V) (hv25 V) (rest := []) (W := 0) rfl rfl D3_35 (pc' := 38) rfl (by decide) (by decide) (by decide) (by decide) ?_ ?_
      ·
        intro T49 H50 c51
        exact absurd c51 (by intro qq; simp at qq)
      ·
        intro T52 H53 c54
        refine G.ifYes H53 D3_38 (by decide) (by decide) (pc' := 45) rfl ?_
        refine G.aconstNull H53 D3_45 (pc' := 46) rfl ?_
        have K55 : Keep h0 h37_ [] := (Keep.ext (Keep.ext (Keep.ext (Keep.refl h0 []) E3) E21) E39)
        exact G.retA H53 (t := (.object "bindery/server/stomp/StompConnection$AckMode")) rfl rfl rfl D3_46 (so := []) all0 (by decide) (by decide) ⟨rfl, rfl, K55⟩
set_option maxRecDepth 65536 in
set_option maxHeartbeats 40000000 in
theorem cut35_122 (V : Env1 Z a0 n0 uu0 uu1 uu2 uu3 uu4 uu5 uu6 uu7 uu8 uu9 uu10 uu11 uu12 uu13 uu14 uu15) (x70000 : Int32) (x70001 : Int32) (x70002 : Int32) (x70003 : Int32) (x70004 : Int32) (x70005 : Int32) (x70006 : Int32) (x70007 : Int32) (x70008 : Int32) (x70009 : Int32) (p0 : Addr) (c0 : ClassId) (x61100 : Int32) (x61101 : Int32) (x61102 : Int32) (x61103 : Int32) (x61104 : Int32) (x61105 : Int32) (x61106 : Int32) (x61107 : Int32) (x61108 : Int32) (x61109 : Int32) (x61110 : Int32) (x61111 : Int32) (x61112 : Int32) (x61113 : Int32) (x61114 : Int32) (x61115 : Int32) (x61116 : Int32) (x61117 : Int32) (H : Hs p l e room_1 s m as' below meth c Z a0 ELs True x.cls n0 code maxLocals ret x.name T h0 1 18 []) (re_x61100 : ¬ x61100 < 0 ∧ ¬ 255 < x61100) (re_x61101 : ¬ x61101 < 0 ∧ ¬ 255 < x61101) (re_x61102 : ¬ x61102 < 0 ∧ ¬ 255 < x61102) (re_x61103 : ¬ x61103 < 0 ∧ ¬ 255 < x61103) (re_x61104 : ¬ x61104 < 0 ∧ ¬ 255 < x61104) (re_x61105 : ¬ x61105 < 0 ∧ ¬ 255 < x61105) (re_x61106 : ¬ x61106 < 0 ∧ ¬ 255 < x61106) (re_x61107 : ¬ x61107 < 0 ∧ ¬ 255 < x61107) (re_x61108 : ¬ x61108 < 0 ∧ ¬ 255 < x61108) (re_x61109 : ¬ x61109 < 0 ∧ ¬ 255 < x61109) (re_x61110 : ¬ x61110 < 0 ∧ ¬ 255 < x61110) (re_x61111 : ¬ x61111 < 0 ∧ ¬ 255 < x61111) (re_x61112 : ¬ x61112 < 0 ∧ ¬ 255 < x61112) (re_x61113 : ¬ x61113 < 0 ∧ ¬ 255 < x61113) (re_x61114 : ¬ x61114 < 0 ∧ ¬ 255 < x61114) (re_x61115 : ¬ x61115 < 0 ∧ ¬ 255 < x61115) (re_x61116 : ¬ x61116 < 0 ∧ ¬ 255 < x61116) (re_x61117 : ¬ x61117 < 0 ∧ ¬ 255 < x61117) (fA11 : Arv Z h0 p0 c0 .char 18 [(.int x61100), (.int x61101), (.int x61102), (.int x61103), (.int x61104), (.int x61105), (.int x61106), (.int x61107), (.int x61108), (.int x61109), (.int x61110), (.int x61111), (.int x61112), (.int x61113), (.int x61114), (.int x61115), (.int x61116), (.int x61117)] (.int 0)) :
    Go p e below (FinP s below Z ELs True n0 room_1.cells room_1.slots (fun v h so => v = some (.int 1))) (T.setTop (mkF m 122 #[.val (.int x70000), .val (.int x70001), .val (.int x70002), .val (.int x70003), .val (.int x70004), .val (.int x70005), .val (.int x70006), .val (.int x70007), .val (.int x70008), .val (.int x70009), .unset, .val (.ref p0)] [])) := by
  refine G.new H (wd6 V) (wd7 V) (wd8 V) at_122 (pc' := 125) rfl (by decide) (by decide) ?_
  intro T1 h1_ a2 ga2 H1 E3 A4 D5
  have na2 := H.nle ga2
  refine G.dup H1 at_125 (pc' := 126) rfl rfl ?_
  refine G.aload H1 at_126 (pc' := 128) rfl rfl rfl ?_
  have F6 := (Arv.ext fA11 E3)
  have F7 : Fld Z h1_ a2 "java/lang/String" "value" "[B" .null := D5 (Or.inr (wd34 V)) (ty := (.array .byte)) (by decide)
  have F8 : Fld Z h1_ a2 "java/lang/String" "coder" "B" (.int 0) := D5 (Or.inr (wd32 V)) (ty := .byte) (by decide)
  refine G.newStr H1 (strw V) (wd7 V) (wd9 V) (wd10 V) (cs := [x61100, x61101, x61102, x61103, x61104, x61105, x61106, x61107, x61108, x61109, x61110, x61111, x61112, x61113, x61114, x61115, x61116, x61117]) (n := 18) na2 A4 F7 F8 F6 (hv24 V) (hv25 V) rfl rfl (by decide) (by decide) (cbS re_x61100 (cbS re_x61101 (cbS re_x61102 (cbS re_x61103 (cbS re_x61104 (cbS re_x61105 (cbS re_x61106 (cbS re_x61107 (cbS re_x61108 (cbS re_x61109 (cbS re_x61110 (cbS re_x61111 (cbS re_x61112 (cbS re_x61113 (cbS re_x61114 (cbS re_x61115 (cbS re_x61116 (cbS re_x61117 cb0)))))))))))))))))) (Sf.mem (mG (i := 0) rfl)) (rest := [(.ref a2)]) (W := 1) rfl rfl at_128 (pc' := 131) rfl (by decide) (by decide) (by decide) (by decide) ?_
  intro T9 h9_ t10 k11 g14 H9 K12 S13
  have nt10 : n0 ≤ t10 := Nat.le_trans H1.le g14
  refine G.astore H9 (L' := #[.val (.int x70000), .val (.int x70001), .val (.int x70002), .val (.int x70003), .val (.int x70004), .val (.int x70005), .val (.int x70006), .val (.int x70007), .val (.int x70008), .val (.int x70009), .val (.ref a2), .val (.ref p0)]) at_131 (pc' := 133) rfl rfl rfl ?_
  refine G.aload H9 at_133 (pc' := 135) rfl rfl rfl ?_
  refine G.callS H9 (m33_named V a2 t10 k11 x61100 x61101 x61102 x61103 x61104 x61105 x61106 x61107 x61108 x61109 x61110 x61111 x61112 x61113 x61114 x61115 x61116 x61117 h9_ H9.old S13) (wd35 V) (wd36 V) (wd37 V) (wd38 V) (by decide) (argsL := [(.ref a2)]) (rest := []) (W := 0) rfl rfl (lenOf (pd_2) rfl) rfl rfl at_135 (pc' := 138) rfl (by decide) (by decide) (by decide) (by decide) all0 ?_
  intro T15 h15_ v16 s17 H15 Q18
  obtain ⟨rfl, rfl, K19⟩ := Q18
  show Go p e below _ (T15.setTop (mkF m 138 #[.val (.int x70000), .val (.int x70001), .val (.int x70002), .val (.int x70003), .val (.int x70004), .val (.int x70005), .val (.int x70006), .val (.int x70007), .val (.int x70008), .val (.int x70009), .val (.ref a2), .val (.ref p0)] [.null]))
  refine G.astore H15 (L' := #[.val (.int x70000), .val (.int x70001), .val (.int x70002), .val (.int x70003), .val (.int x70004), .val (.int x70005), .val (.int x70006), .val (.int x70007), .val (.int x70008), .val (.int x70009), .val (.ref a2), .val .null]) at_138 (pc' := 140) rfl rfl rfl ?_
  refine G.aload H15 at_140 (pc' := 142) rfl rfl rfl ?_
  refine G.aload H15 at_142 (pc' := 144) rfl rfl rfl ?_
  have F20 := (Str.keep S13 K19 nin0 nin0)
  refine G.callS H15 (m34_expected V a2 t10 k11 x61100 x61101 x61102 x61103 x61104 x61105 x61106 x61107 x61108 x61109 x61110 x61111 x61112 x61113 x61114 x61115 x61116 x61117 h15_ H15.old F20) (wd69 V) (wd70 V) (wd3 V) (wd71 V) (by decide) (argsL := [(.ref a2)]) (rest := [.null]) (W := 1) rfl rfl (lenOf (pd_2) rfl) rfl rfl at_144 (pc' := 147) rfl (by decide) (by decide) (by decide) (by decide) (allS (mG (i := 1) rfl) (allS (mG (i := 0) rfl) all0)) ?_
  intro T21 h21_ v22 s23 H21 Q24
  obtain ⟨rfl, rfl, K25⟩ := Q24
  show Go p e below _ (T21.setTop (mkF m 147 #[.val (.int x70000), .val (.int x70001), .val (.int x70002), .val (.int x70003), .val (.int x70004), .val (.int x70005), .val (.int x70006), .val (.int x70007), .val (.int x70008), .val (.int x70009), .val (.ref a2), .val .null] [.null, .null]))
  refine G.acmpNo H21 at_147 (pc' := 150) rfl rfl rfl (XT.aa_ne_f rfl) ?_
  refine G.iconst H21 at_150 (pc' := 151) rfl (v := 1) rfl ?_
  refine G.goto H21 at_151 (by decide) (pc' := 155) rfl ?_
  exact G.retN H21 (t := .boolean) rfl (by decide) at_155 (so := []) all0 (by decide) (by decide) rfl
set_option maxRecDepth 65536 in
set_option maxHeartbeats 40000000 in
theorem m36_base (V : Env1 Z a0 n0 uu0 uu1 uu2 uu3 uu4 uu5 uu6 uu7 uu8 uu9 uu10 uu11 uu12 uu13 uu14 uu15) (x0 : Int32) (h0 : Heap) (hO : Old Z n0 h0)  :
    Met Z a0 ELs True n0 l (⟨"bindery/server/stomp/AckModeNamedPinLaw", "base", "(IIC)[C"⟩ : MethodName) method_5_code 3 (Option.some (FieldType.array FieldType.char)) ({ frames := 0, cells := 1, slots := 16, locals := 0 } : Room) #[(.int 2), (.int 2), (.int x0)] h0 [] (fun v h so => (∃ a2 : Addr, ∃ k5 : ClassId, v = some (.ref a2) ∧ so = [] ∧ Keep h0 h [] ∧ h0.size ≤ a2 ∧ Arv Z h a2 k5 .char 16 [(.int 99), (.int 108), (.int 105), (.int 101), (.int 110), (.int 116), (.int 45), (.int 105), (.int 110), (.int 100), (.int 105), (.int 118), (.int 105), (.int 100), (.int 117), (.int 97)] (.int 0) ∧ Exa Z h a2 "[C")) := by
  refine Met.of (EWl V) (by first | decide +kernel | rfl) hO (L0 := #[.val (.int 2), .val (.int 2), .val (.int x0)]) rfl ?_
  intro p e s m below meth c T H
  show Go p e below _ (T.setTop (mkF m 0 #[.val (.int 2), .val (.int 2), .val (.int x0)] []))
  refine G.iloadN H D5_0 (pc' := 1) rfl rfl ?_
  refine G.ifYes H D5_1 (by decide) (by decide) (pc' := 84) rfl ?_
  refine G.iloadN H D5_84 (pc' := 85) rfl rfl ?_
  refine G.iconst H D5_85 (pc' := 86) rfl (v := 1) rfl ?_
  refine G.icmpYes H D5_86 (by decide) (by decide) (pc' := 202) rfl ?_
  refine G.iloadN H D5_202 (pc' := 203) rfl rfl ?_
  refine G.ifYes H D5_203 (by decide) (by decide) (pc' := 307) rfl ?_
  refine G.iloadN H D5_307 (pc' := 308) rfl rfl ?_
  refine G.iconst H D5_308 (pc' := 309) rfl (v := 1) rfl ?_
  refine G.icmpYes H D5_309 (by decide) (by decide) (pc' := 418) rfl ?_
  refine G.bipush H D5_418 (pc' := 420) rfl (v := 16) rfl ?_
  refine G.newP H (aty := .char) (wd5 V) D5_420 (pc' := 422) rfl (by decide) (cap := 16) (by decide) (by decide) (by decide) (by decide) (vs := [(.int 0), (.int 0), (.int 0), (.int 0), (.int 0), (.int 0), (.int 0), (.int 0), (.int 0), (.int 0), (.int 0), (.int 0), (.int 0), (.int 0), (.int 0), (.int 0)]) rfl (ad := "[C") rfl ?_
  intro T1 h1_ a2 k5 ga2 H1 E3 A4 X6
  have na2 := H.nle ga2
  replace A4 : Arv Z h1_ a2 k5 .char 16 [(.int 0), (.int 0), (.int 0), (.int 0), (.int 0), (.int 0), (.int 0), (.int 0), (.int 0), (.int 0), (.int 0), (.int 0), (.int 0), (.int 0), (.int 0), (.int 0)] (.int 0) := A4
  refine G.dup H1 D5_422 (pc' := 423) rfl rfl ?_
  refine G.iconst H1 D5_423 (pc' := 424) rfl (v := 0) rfl ?_
  refine G.bipush H1 D5_424 (pc' := 426) rfl (v := 99) rfl ?_
  refine G.stC H1 A4 (by decide) (i := 0) rfl lB na2 (y := 99) rfl D5_426 (pc' := 427) rfl ?_
  intro T7 h7_ H7 W8 A9
  replace A9 : Arv Z h7_ a2 k5 .char 16 [(.int 99), (.int 0), (.int 0), (.int 0), (.int 0), (.int 0), (.int 0), (.int 0), (.int 0), (.int 0), (.int 0), (.int 0), (.int 0), (.int 0), (.int 0), (.int 0)] (.int 0) := A9
  refine G.dup H7 D5_427 (pc' := 428) rfl rfl ?_
  refine G.iconst H7 D5_428 (pc' := 429) rfl (v := 1) rfl ?_
  refine G.bipush H7 D5_429 (pc' := 431) rfl (v := 108) rfl ?_
  refine G.stC H7 A9 (by decide) (i := 1) rfl lB na2 (y := 108) rfl D5_431 (pc' := 432) rfl ?_
  intro T10 h10_ H10 W11 A12
  replace A12 : Arv Z h10_ a2 k5 .char 16 [(.int 99), (.int 108), (.int 0), (.int 0), (.int 0), (.int 0), (.int 0), (.int 0), (.int 0), (.int 0), (.int 0), (.int 0), (.int 0), (.int 0), (.int 0), (.int 0)] (.int 0) := A12
  refine G.dup H10 D5_432 (pc' := 433) rfl rfl ?_
  refine G.iconst H10 D5_433 (pc' := 434) rfl (v := 2) rfl ?_
  refine G.bipush H10 D5_434 (pc' := 436) rfl (v := 105) rfl ?_
  refine G.stC H10 A12 (by decide) (i := 2) rfl lB na2 (y := 105) rfl D5_436 (pc' := 437) rfl ?_
  intro T13 h13_ H13 W14 A15
  replace A15 : Arv Z h13_ a2 k5 .char 16 [(.int 99), (.int 108), (.int 105), (.int 0), (.int 0), (.int 0), (.int 0), (.int 0), (.int 0), (.int 0), (.int 0), (.int 0), (.int 0), (.int 0), (.int 0), (.int 0)] (.int 0) := A15
  refine G.dup H13 D5_437 (pc' := 438) rfl rfl ?_
  refine G.iconst H13 D5_438 (pc' := 439) rfl (v := 3) rfl ?_
  refine G.bipush H13 D5_439 (pc' := 441) rfl (v := 101) rfl ?_
  refine G.stC H13 A15 (by decide) (i := 3) rfl lB na2 (y := 101) rfl D5_441 (pc' := 442) rfl ?_
  intro T16 h16_ H16 W17 A18
  replace A18 : Arv Z h16_ a2 k5 .char 16 [(.int 99), (.int 108), (.int 105), (.int 101), (.int 0), (.int 0), (.int 0), (.int 0), (.int 0), (.int 0), (.int 0), (.int 0), (.int 0), (.int 0), (.int 0), (.int 0)] (.int 0) := A18
  refine G.dup H16 D5_442 (pc' := 443) rfl rfl ?_
  refine G.iconst H16 D5_443 (pc' := 444) rfl (v := 4) rfl ?_
  refine G.bipush H16 D5_444 (pc' := 446) rfl (v := 110) rfl ?_
  refine G.stC H16 A18 (by decide) (i := 4) rfl lB na2 (y := 110) rfl D5_446 (pc' := 447) rfl ?_
  intro T19 h19_ H19 W20 A21
  replace A21 : Arv Z h19_ a2 k5 .char 16 [(.int 99), (.int 108), (.int 105), (.int 101), (.int 110), (.int 0), (.int 0), (.int 0), (.int 0), (.int 0), (.int 0), (.int 0), (.int 0), (.int 0), (.int 0), (.int 0)] (.int 0) := A21
  refine G.dup H19 D5_447 (pc' := 448) rfl rfl ?_
  refine G.iconst H19 D5_448 (pc' := 449) rfl (v := 5) rfl ?_
  refine G.bipush H19 D5_449 (pc' := 451) rfl (v := 116) rfl ?_
  refine G.stC H19 A21 (by decide) (i := 5) rfl lB na2 (y := 116) rfl D5_451 (pc' := 452) rfl ?_
  intro T22 h22_ H22 W23 A24
  replace A24 : Arv Z h22_ a2 k5 .char 16 [(.int 99), (.int 108), (.int 105), (.int 101), (.int 110), (.int 116), (.int 0), (.int 0), (.int 0), (.int 0), (.int 0), (.int 0), (.int 0), (.int 0), (.int 0), (.int 0)] (.int 0) := A24
  refine G.dup H22 D5_452 (pc' := 453) rfl rfl ?_
  refine G.bipush H22 D5_453 (pc' := 455) rfl (v := 6) rfl ?_
  refine G.bipush H22 D5_455 (pc' := 457) rfl (v := 45) rfl ?_
  refine G.stC H22 A24 (by decide) (i := 6) rfl lB na2 (y := 45) rfl D5_457 (pc' := 458) rfl ?_
  intro T25 h25_ H25 W26 A27
  replace A27 : Arv Z h25_ a2 k5 .char 16 [(.int 99), (.int 108), (.int 105), (.int 101), (.int 110), (.int 116), (.int 45), (.int 0), (.int 0), (.int 0), (.int 0), (.int 0), (.int 0), (.int 0), (.int 0), (.int 0)] (.int 0) := A27
  refine G.dup H25 D5_458 (pc' := 459) rfl rfl ?_
  refine G.bipush H25 D5_459 (pc' := 461) rfl (v := 7) rfl ?_
  refine G.bipush H25 D5_461 (pc' := 463) rfl (v := 105) rfl ?_
  refine G.stC H25 A27 (by decide) (i := 7) rfl lB na2 (y := 105) rfl D5_463 (pc' := 464) rfl ?_
  intro T28 h28_ H28 W29 A30
  replace A30 : Arv Z h28_ a2 k5 .char 16 [(.int 99), (.int 108), (.int 105), (.int 101), (.int 110), (.int 116), (.int 45), (.int 105), (.int 0), (.int 0), (.int 0), (.int 0), (.int 0), (.int 0), (.int 0), (.int 0)] (.int 0) := A30
  refine G.dup H28 D5_464 (pc' := 465) rfl rfl ?_
  refine G.bipush H28 D5_465 (pc' := 467) rfl (v := 8) rfl ?_
  refine G.bipush H28 D5_467 (pc' := 469) rfl (v := 110) rfl ?_
  refine G.stC H28 A30 (by decide) (i := 8) rfl lB na2 (y := 110) rfl D5_469 (pc' := 470) rfl ?_
  intro T31 h31_ H31 W32 A33
  replace A33 : Arv Z h31_ a2 k5 .char 16 [(.int 99), (.int 108), (.int 105), (.int 101), (.int 110), (.int 116), (.int 45), (.int 105), (.int 110), (.int 0), (.int 0), (.int 0), (.int 0), (.int 0), (.int 0), (.int 0)] (.int 0) := A33
  refine G.dup H31 D5_470 (pc' := 471) rfl rfl ?_
  refine G.bipush H31 D5_471 (pc' := 473) rfl (v := 9) rfl ?_
  refine G.bipush H31 D5_473 (pc' := 475) rfl (v := 100) rfl ?_
  refine G.stC H31 A33 (by decide) (i := 9) rfl lB na2 (y := 100) rfl D5_475 (pc' := 476) rfl ?_
  intro T34 h34_ H34 W35 A36
  replace A36 : Arv Z h34_ a2 k5 .char 16 [(.int 99), (.int 108), (.int 105), (.int 101), (.int 110), (.int 116), (.int 45), (.int 105), (.int 110), (.int 100), (.int 0), (.int 0), (.int 0), (.int 0), (.int 0), (.int 0)] (.int 0) := A36
  refine G.dup H34 D5_476 (pc' := 477) rfl rfl ?_
  refine G.bipush H34 D5_477 (pc' := 479) rfl (v := 10) rfl ?_
  refine G.bipush H34 D5_479 (pc' := 481) rfl (v := 105) rfl ?_
  refine G.stC H34 A36 (by decide) (i := 10) rfl lB na2 (y := 105) rfl D5_481 (pc' := 482) rfl ?_
  intro T37 h37_ H37 W38 A39
  replace A39 : Arv Z h37_ a2 k5 .char 16 [(.int 99), (.int 108), (.int 105), (.int 101), (.int 110), (.int 116), (.int 45), (.int 105), (.int 110), (.int 100), (.int 105), (.int 0), (.int 0), (.int 0), (.int 0), (.int 0)] (.int 0) := A39
  refine G.dup H37 D5_482 (pc' := 483) rfl rfl ?_
  refine G.bipush H37 D5_483 (pc' := 485) rfl (v := 11) rfl ?_
  refine G.bipush H37 D5_485 (pc' := 487) rfl (v := 118) rfl ?_
  refine G.stC H37 A39 (by decide) (i := 11) rfl lB na2 (y := 118) rfl D5_487 (pc' := 488) rfl ?_
  intro T40 h40_ H40 W41 A42
  replace A42 : Arv Z h40_ a2 k5 .char 16 [(.int 99), (.int 108), (.int 105), (.int 101), (.int 110), (.int 116), (.int 45), (.int 105), (.int 110), (.int 100), (.int 105), (.int 118), (.int 0), (.int 0), (.int 0), (.int 0)] (.int 0) := A42
  refine G.dup H40 D5_488 (pc' := 489) rfl rfl ?_
  refine G.bipush H40 D5_489 (pc' := 491) rfl (v := 12) rfl ?_
  refine G.bipush H40 D5_491 (pc' := 493) rfl (v := 105) rfl ?_
  refine G.stC H40 A42 (by decide) (i := 12) rfl lB na2 (y := 105) rfl D5_493 (pc' := 494) rfl ?_
  intro T43 h43_ H43 W44 A45
  replace A45 : Arv Z h43_ a2 k5 .char 16 [(.int 99), (.int 108), (.int 105), (.int 101), (.int 110), (.int 116), (.int 45), (.int 105), (.int 110), (.int 100), (.int 105), (.int 118), (.int 105), (.int 0), (.int 0), (.int 0)] (.int 0) := A45
  refine G.dup H43 D5_494 (pc' := 495) rfl rfl ?_
  refine G.bipush H43 D5_495 (pc' := 497) rfl (v := 13) rfl ?_
  refine G.bipush H43 D5_497 (pc' := 499) rfl (v := 100) rfl ?_
  refine G.stC H43 A45 (by decide) (i := 13) rfl lB na2 (y := 100) rfl D5_499 (pc' := 500) rfl ?_
  intro T46 h46_ H46 W47 A48
  replace A48 : Arv Z h46_ a2 k5 .char 16 [(.int 99), (.int 108), (.int 105), (.int 101), (.int 110), (.int 116), (.int 45), (.int 105), (.int 110), (.int 100), (.int 105), (.int 118), (.int 105), (.int 100), (.int 0), (.int 0)] (.int 0) := A48
  refine G.dup H46 D5_500 (pc' := 501) rfl rfl ?_
  refine G.bipush H46 D5_501 (pc' := 503) rfl (v := 14) rfl ?_
  refine G.bipush H46 D5_503 (pc' := 505) rfl (v := 117) rfl ?_
  refine G.stC H46 A48 (by decide) (i := 14) rfl lB na2 (y := 117) rfl D5_505 (pc' := 506) rfl ?_
  intro T49 h49_ H49 W50 A51
  replace A51 : Arv Z h49_ a2 k5 .char 16 [(.int 99), (.int 108), (.int 105), (.int 101), (.int 110), (.int 116), (.int 45), (.int 105), (.int 110), (.int 100), (.int 105), (.int 118), (.int 105), (.int 100), (.int 117), (.int 0)] (.int 0) := A51
  refine G.dup H49 D5_506 (pc' := 507) rfl rfl ?_
  refine G.bipush H49 D5_507 (pc' := 509) rfl (v := 15) rfl ?_
  refine G.bipush H49 D5_509 (pc' := 511) rfl (v := 97) rfl ?_
  refine G.stC H49 A51 (by decide) (i := 15) rfl lB na2 (y := 97) rfl D5_511 (pc' := 512) rfl ?_
  intro T52 h52_ H52 W53 A54
  replace A54 : Arv Z h52_ a2 k5 .char 16 [(.int 99), (.int 108), (.int 105), (.int 101), (.int 110), (.int 116), (.int 45), (.int 105), (.int 110), (.int 100), (.int 105), (.int 118), (.int 105), (.int 100), (.int 117), (.int 97)] (.int 0) := A54
  have K55 : Keep h1_ h52_ [a2] := (Keep.wr (Keep.wr (Keep.wr (Keep.wr (Keep.wr (Keep.wr (Keep.wr (Keep.wr (Keep.wr (Keep.wr (Keep.wr (Keep.wr (Keep.wr (Keep.wr (Keep.wr (Keep.wr (Keep.refl h1_ [a2]) W8 (Or.inl (mG (i := 0) rfl))) W11 (Or.inl (mG (i := 0) rfl))) W14 (Or.inl (mG (i := 0) rfl))) W17 (Or.inl (mG (i := 0) rfl))) W20 (Or.inl (mG (i := 0) rfl))) W23 (Or.inl (mG (i := 0) rfl))) W26 (Or.inl (mG (i := 0) rfl))) W29 (Or.inl (mG (i := 0) rfl))) W32 (Or.inl (mG (i := 0) rfl))) W35 (Or.inl (mG (i := 0) rfl))) W38 (Or.inl (mG (i := 0) rfl))) W41 (Or.inl (mG (i := 0) rfl))) W44 (Or.inl (mG (i := 0) rfl))) W47 (Or.inl (mG (i := 0) rfl))) W50 (Or.inl (mG (i := 0) rfl))) W53 (Or.inl (mG (i := 0) rfl)))
  have F56 := (Exa.keep X6 K55)
  have K57 : Keep h0 h52_ [] := (Keep.wr (Keep.wr (Keep.wr (Keep.wr (Keep.wr (Keep.wr (Keep.wr (Keep.wr (Keep.wr (Keep.wr (Keep.wr (Keep.wr (Keep.wr (Keep.wr (Keep.wr (Keep.wr (Keep.ext (Keep.refl h0 []) E3) W8 (Or.inr (Nat.le_of_eq ga2.symm))) W11 (Or.inr (Nat.le_of_eq ga2.symm))) W14 (Or.inr (Nat.le_of_eq ga2.symm))) W17 (Or.inr (Nat.le_of_eq ga2.symm))) W20 (Or.inr (Nat.le_of_eq ga2.symm))) W23 (Or.inr (Nat.le_of_eq ga2.symm))) W26 (Or.inr (Nat.le_of_eq ga2.symm))) W29 (Or.inr (Nat.le_of_eq ga2.symm))) W32 (Or.inr (Nat.le_of_eq ga2.symm))) W35 (Or.inr (Nat.le_of_eq ga2.symm))) W38 (Or.inr (Nat.le_of_eq ga2.symm))) W41 (Or.inr (Nat.le_of_eq ga2.symm))) W44 (Or.inr (Nat.le_of_eq ga2.symm))) W47 (Or.inr (Nat.le_of_eq ga2.symm))) W50 (Or.inr (Nat.le_of_eq ga2.symm))) W53 (Or.inr (Nat.le_of_eq ga2.symm)))
  exact G.retA H52 (t := (.array .char)) rfl rfl rfl D5_512 (so := []) all0 (by decide) (by decide) ⟨a2, k5, rfl, rfl, K57, (Nat.le_of_eq ga2.symm), A54, F56⟩
set_option maxRecDepth 65536 in
set_option maxHeartbeats 40000000 in
theorem m37_named (V : Env1 Z a0 n0 uu0 uu1 uu2 uu3 uu4 uu5 uu6 uu7 uu8 uu9 uu10 uu11 uu12 uu13 uu14 uu15) (p0 : Addr) (p1 : Addr) (c0 : ClassId) (x0 : Int32) (x1 : Int32) (x2 : Int32) (x3 : Int32) (x4 : Int32) (x5 : Int32) (x6 : Int32) (x7 : Int32) (x8 : Int32) (x9 : Int32) (x10 : Int32) (x11 : Int32) (x12 : Int32) (x13 : Int32) (x14 : Int32) (x15 : Int32) (h0 : Heap) (hO : Old Z n0 h0) (f0 : Str Z h0 p0 p1 c0 [x0, x1, x2, x3, x4, x5, x6, x7, x8, x9, x10, x11, x12, x13, x14, x15]) :
    Met Z a0 ELs True n0 l (⟨"bindery/server/stomp/StompConnection$AckMode", "named", "(Ljava/lang/String;)Lbindery/server/stomp/StompConnection$AckMode;"⟩ : MethodName) prog_93_method_4_code 5 (Option.some (FieldType.object "bindery/server/stomp/StompConnection$AckMode")) ({ frames := 2, cells := 1, slots := 3, locals := 28 } : Room) #[(.ref p0)] h0 [] (fun v h so => (v = some .null ∧ so = [] ∧ Keep h0 h [])) := by
  refine Met.of (EWl V) (by first | decide +kernel | rfl) hO (L0 := #[.val (.ref p0), .unset, .unset, .unset, .unset]) rfl ?_
  intro p e s m below meth c T H
  show Go p e below _ (T.setTop (mkF m 0 #[.val (.ref p0), .unset, .unset, .unset, .unset] []))
  refine G.callS H (m2_values V h0 H.old) (wd39 V) (wd40 V) (wd37 V) (wd41 V) (by decide) (argsL := []) (rest := []) (W := 0) rfl rfl (lenOf (pd_1) rfl) rfl rfl D7_0 (pc' := 3) rfl (by decide) (by decide) (by decide) (by decide) all0 ?_
  intro T1 h1_ v2 s3 H1 Q4
  obtain ⟨a5, k6, rfl, rfl, K7, g8, F9, F10⟩ := Q4
  have na5 : n0 ≤ a5 := Nat.le_trans H.le g8
  show Go p e below _ (T1.setTop (mkF m 3 #[.val (.ref p0), .unset, .unset, .unset, .unset] [(.ref a5)]))
  refine G.astoreN H1 (L' := #[.val (.ref p0), .val (.ref a5), .unset, .unset, .unset]) D7_3 (pc' := 4) rfl rfl rfl ?_
  refine G.aloadN H1 D7_4 (pc' := 5) rfl rfl rfl ?_
  refine G.arrlen H1 F9 D7_5 (pc' := 6) rfl ?_
  refine G.istoreN H1 (L' := #[.val (.ref p0), .val (.ref a5), .val (.int 3), .unset, .unset]) D7_6 (pc' := 7) rfl rfl ?_
  refine G.iconst H1 D7_7 (pc' := 8) rfl (v := 0) rfl ?_
  refine G.istoreN H1 (L' := #[.val (.ref p0), .val (.ref a5), .val (.int 3), .val (.int 0), .unset]) D7_8 (pc' := 9) rfl rfl ?_
  refine G.iloadN H1 D7_9 (pc' := 10) rfl rfl ?_
  refine G.iloadN H1 D7_10 (pc' := 11) rfl rfl ?_
  refine G.icmpNo H1 D7_11 (pc' := 14) rfl (by decide) ?_
  refine G.aloadN H1 D7_14 (pc' := 15) rfl rfl rfl ?_
  refine G.iloadN H1 D7_15 (pc' := 16) rfl rfl ?_
  refine G.aaloadG H1 F9 rfl (j := 0) (v := (.ref uu1)) (by decide) rfl D7_16 (pc' := 17) rfl ?_
  refine G.astore H1 (L' := #[.val (.ref p0), .val (.ref a5), .val (.int 3), .val (.int 0), .val (.ref uu1)]) D7_17 (pc' := 19) rfl rfl rfl ?_
  refine G.aload H1 D7_19 (pc' := 21) rfl rfl rfl ?_
  have B11 := Fld.ext H1.old.2 (hv12 V)
  refine G.getF H1 (wd57 V) Via.refl B11 D7_21 (pc' := 24) rfl ?_
  intro T12 H13
  refine G.aloadN H13 D7_24 (pc' := 25) rfl rfl rfl ?_
  have B14 := Str.ext H13.old.2 (hv30 V)
  have F15 := (Str.keep f0 K7 nin0 nin0)
  refine G.strEq H13 (strwEq V) (wd7 V) (wd59 V) (wd60 V) (wd62 V) (wd61 V) B14 F15 (hv24 V) (hv25 V) (rest := []) (W := 0) rfl rfl D7_25 (pc' := 28) rfl (by decide) (by decide) (by decide) (by decide) ?_ ?_
  ·
    intro T16 H17 c18
    exact absurd c18 (by intro qq; simp at qq)
  ·
    intro T19 H20 c21
    refine G.ifYes H20 D7_28 (by decide) (by decide) (pc' := 34) rfl ?_
    refine G.iinc H20 (v := 1) (L' := #[.val (.ref p0), .val (.ref a5), .val (.int 3), .val (.int 1), .val (.ref uu1)]) D7_34 (pc' := 37) rfl rfl rfl rfl ?_
    refine G.goto H20 D7_37 (by decide) (pc' := 9) rfl ?_
    show Go p e below _ (T19.setTop (mkF m 9 #[.val (.ref p0), .val (.ref a5), .val (.int 3), .val (.int 1), .val (.ref uu1)] []))
    refine G.iloadN H20 D7_9 (pc' := 10) rfl rfl ?_
    refine G.iloadN H20 D7_10 (pc' := 11) rfl rfl ?_
    refine G.icmpNo H20 D7_11 (pc' := 14) rfl (by decide) ?_
    refine G.aloadN H20 D7_14 (pc' := 15) rfl rfl rfl ?_
    refine G.iloadN H20 D7_15 (pc' := 16) rfl rfl ?_
    refine G.aaloadG H20 F9 rfl (j := 1) (v := (.ref uu2)) (by decide) rfl D7_16 (pc' := 17) rfl ?_
    refine G.astore H20 (L' := #[.val (.ref p0), .val (.ref a5), .val (.int 3), .val (.int 1), .val (.ref uu2)]) D7_17 (pc' := 19) rfl rfl rfl ?_
    refine G.aload H20 D7_19 (pc' := 21) rfl rfl rfl ?_
    have B22 := Fld.ext H20.old.2 (hv10 V)
    refine G.getF H20 (wd57 V) Via.refl B22 D7_21 (pc' := 24) rfl ?_
    intro T23 H24
    refine G.aloadN H24 D7_24 (pc' := 25) rfl rfl rfl ?_
    have B25 := Str.ext H24.old.2 (hv29 V)
    refine G.strEq H24 (strwEq V) (wd7 V) (wd59 V) (wd60 V) (wd62 V) (wd61 V) B25 F15 (hv24 V) (hv25 V) (rest := []) (W := 0) rfl rfl D7_25 (pc' := 28) rfl (by decide) (by decide) (by decide) (by decide) ?_ ?_
    ·
      intro T26 H27 c28
      exact absurd c28 (by intro qq; simp at qq)
    ·
      intro T29 H30 c31
      refine G.ifYes H30 D7_28 (by decide) (by decide) (pc' := 34) rfl ?_
      refine G.iinc H30 (v := 2) (L' := #[.val (.ref p0), .val (.ref a5), .val (.int 3), .val (.int 2), .val (.ref uu2)]) D7_34 (pc' := 37) rfl rfl rfl rfl ?_
      refine G.goto H30 D7_37 (by decide) (pc' := 9) rfl ?_
      show Go p e below _ (T29.setTop (mkF m 9 #[.val (.ref p0), .val (.ref a5), .val (.int 3), .val (.int 2), .val (.ref uu2)] []))
      refine G.iloadN H30 D7_9 (pc' := 10) rfl rfl ?_
      refine G.iloadN H30 D7_10 (pc' := 11) rfl rfl ?_
      refine G.icmpNo H30 D7_11 (pc' := 14) rfl (by decide) ?_
      refine G.aloadN H30 D7_14 (pc' := 15) rfl rfl rfl ?_
      refine G.iloadN H30 D7_15 (pc' := 16) rfl rfl ?_
      refine G.aaloadG H30 F9 rfl (j := 2) (v := (.ref uu3)) (by decide) rfl D7_16 (pc' := 17) rfl ?_
      refine G.astore H30 (L' := #[.val (.ref p0), .val (.ref a5), .val (.int 3), .val (.int 2), .val (.ref uu3)]) D7_17 (pc' := 19) rfl rfl rfl ?_
      refine G.aload H30 D7_19 (pc' := 21) rfl rfl rfl ?_
      have B32 := Fld.ext H30.old.2 (hv8 V)
      refine G.getF H30 (wd57 V) Via.refl B32 D7_21 (pc' := 24) rfl ?_
      intro T33 H34
      refine G.aloadN H34 D7_24 (pc' := 25) rfl rfl rfl ?_
      have B35 := Str.ext H34.old.2 (hv28 V)
      refine G.strEq H34 (strwEq V) (wd7 V) (wd59 V) (wd60 V) (wd62 V) (wd61 V) B35 F15 (hv24 V) (hv25 V) (rest := []) (W := 0) rfl rfl D7_25 (pc' := 28) rfl (by decide) (by decide) (by decide) (by decide) ?_ ?_
      ·
        intro T36 H37 c38
        exact absurd c38 (by intro qq; simp at qq)
      ·
        intro T39 H40 c41
        refine G.ifYes H40 D7_28 (by decide) (by decide) (pc' := 34) rfl ?_
        refine G.iinc H40 (v := 3) (L' := #[.val (.ref p0), .val (.ref a5), .val (.int 3), .val (.int 3), .val (.ref uu3)]) D7_34 (pc' := 37) rfl rfl rfl rfl ?_
        refine G.goto H40 D7_37 (by decide) (pc' := 9) rfl ?_
        show Go p e below _ (T39.setTop (mkF m 9 #[.val (.ref p0), .val (.ref a5), .val (.int 3), .val (.int 3), .val (.ref uu3)] []))
        refine G.iloadN H40 D7_9 (pc' := 10) rfl rfl ?_
        refine G.iloadN H40 D7_10 (pc' := 11) rfl rfl ?_
        refine G.icmpYes H40 D7_11 (by decide) (by decide) (pc' := 40) rfl ?_
        refine G.aconstNull H40 D7_40 (pc' := 41) rfl ?_
        have K42 : Keep h0 h1_ [] := (Keep.trans (Keep.refl h0 []) K7 all0)
        exact G.retA H40 (t := (.object "bindery/server/stomp/StompConnection$AckMode")) rfl rfl rfl D7_41 (so := []) all0 (by decide) (by decide) ⟨rfl, rfl, K42⟩
set_option maxRecDepth 65536 in
set_option maxHeartbeats 40000000 in
theorem m38_expected (V : Env1 Z a0 n0 uu0 uu1 uu2 uu3 uu4 uu5 uu6 uu7 uu8 uu9 uu10 uu11 uu12 uu13 uu14 uu15) (p0 : Addr) (p1 : Addr) (c0 : ClassId) (x0 : Int32) (x1 : Int32) (x2 : Int32) (x3 : Int32) (x4 : Int32) (x5 : Int32) (x6 : Int32) (x7 : Int32) (x8 : Int32) (x9 : Int32) (x10 : Int32) (x11 : Int32) (x12 : Int32) (x13 : Int32) (x14 : Int32) (x15 : Int32) (h0 : Heap) (hO : Old Z n0 h0) (f0 : Str Z h0 p0 p1 c0 [x0, x1, x2, x3, x4, x5, x6, x7, x8, x9, x10, x11, x12, x13, x14, x15]) :
    Met Z a0 ELs True n0 l (⟨"bindery/server/stomp/AckModeNamedPinLaw", "expected", "(Ljava/lang/String;)Lbindery/server/stomp/StompConnection$AckMode;"⟩ : MethodName) method_3_code 1 (Option.some (FieldType.object "bindery/server/stomp/StompConnection$AckMode")) ({ frames := 2, cells := 6, slots := 120, locals := 28 } : Room) #[(.ref p0)] h0 [p0, p1] (fun v h so => (v = some .null ∧ so = [] ∧ Keep h0 h [])) := by
  refine Met.of (EWl V) (by first | decide +kernel | rfl) hO (L0 := #[.val (.ref p0)]) rfl ?_
  intro p e s m below meth c T H
  show Go p e below _ (T.setTop (mkF m 0 #[.val (.ref p0)] []))
  refine G.aloadN H D3_0 (pc' := 1) rfl rfl rfl ?_
  refine G.ifnonnullYes H D3_1 (by decide) (pc' := 6) rfl ?_
  refine G.aloadN H D3_6 (pc' := 7) rfl rfl rfl ?_
  refine G.ldcS H trivial (wS V) (wd72 V) (by decide) (vs := [(.int 97), (.int 117), (.int 116), (.int 111)]) (z := 4) (by decide) (by decide) rfl (n := 16) (by decide) (by decide) (by decide) (by decide) D3_7 (pc' := 9) rfl ?_
  intro T1 h1_ a2 b4 k5 H1 E3 X6 F7 F8 A9 Q10
  have S11 : Str Z h1_ a2 b4 k5 [97, 117, 116, 111] := ⟨X6, F7, F8, A9, by decide, by decide⟩
  have F12 := (Str.ext E3 f0)
  refine G.strEq H1 (strwEq V) (wd7 V) (wd75 V) (wd60 V) (wd62 V) (wd61 V) F12 S11 (hv24 V) (hv25 V) (rest := []) (W := 0) rfl rfl D3_9 (pc' := 12) rfl (by decide) (by decide) (by decide) (by decide) ?_ ?_
  ·
    intro T13 H14 c15
    exact absurd c15 (by intro qq; simp at qq)
  ·
    intro T16 H17 c18
    refine G.ifYes H17 D3_12 (by decide) (by decide) (pc' := 19) rfl ?_
    refine G.aloadN H17 D3_19 (pc' := 20) rfl rfl rfl ?_
    refine G.ldcS H17 trivial (wS V) (wd80 V) (by decide) (vs := [(.int 99), (.int 108), (.int 105), (.int 101), (.int 110), (.int 116)]) (z := 6) (by decide) (by decide) rfl (n := 24) (by decide) (by decide) (by decide) (by decide) D3_20 (pc' := 22) rfl ?_
    intro T19 h19_ a20 b22 k23 H19 E21 X24 F25 F26 A27 Q28
    have S29 : Str Z h19_ a20 b22 k23 [99, 108, 105, 101, 110, 116] := ⟨X24, F25, F26, A27, by decide, by decide⟩
    have F30 := (Str.ext E21 F12)
    refine G.strEq H19 (strwEq V) (wd7 V) (wd75 V) (wd60 V) (wd62 V) (wd61 V) F30 S29 (hv24 V) (hv25 V) (rest := []) (W := 0) rfl rfl D3_22 (pc' := 25) rfl (by decide) (by decide) (by decide) (by decide) ?_ ?_
    ·
      intro T31 H32 c33
      exact absurd c33 (by intro qq; simp at qq)
    ·
      intro T34 H35 c36
      refine G.ifYes H35 D3_25 (by decide) (by decide) (pc' := 32) rfl ?_
      refine G.aloadN H35 D3_32 (pc' := 33) rfl rfl rfl ?_
      refine G.ldcS H35 trivial (wS V) (wd81 V) (by decide) (vs := [(.int 99), (.int 108), (.int 105), (.int 101), (.int 110), (.int 116), (.int 45), (.int 105), (.int 110), (.int 100), (.int 105), (.int 118), (.int 105), (.int 100), (.int 117), (.int 97), (.int 108)]) (z := 17) (by decide) (by decide) rfl (n := 68) (by decide) (by decide) (by decide) (by decide) D3_33 (pc' := 35) rfl ?_
      intro T37 h37_ a38 b40 k41 H37 E39 X42 F43 F44 A45 Q46
      have S47 : Str Z h37_ a38 b40 k41 [99, 108, 105, 101, 110, 116, 45, 105, 110, 100, 105, 118, 105, 100, 117, 97, 108] := ⟨X42, F43, F44, A45, by decide, by decide⟩
      have F48 := (Str.ext E39 F30)
      refine G.strEq H37 (strwEq V) (wd7 V) (wd75 V) (wd60 V) (wd62 V) (wd61 V) F48 S47 (hv24 V) (hv25 V) (rest := []) (W := 0) rfl rfl D3_35 (pc' := 38) rfl (by decide) (by decide) (by decide) (by decide) ?_ ?_
      ·
        intro T49 H50 c51
        exact absurd c51 (by intro qq; simp at qq)
      ·
        intro T52 H53 c54
        refine G.ifYes H53 D3_38 (by decide) (by decide) (pc' := 45) rfl ?_
        refine G.aconstNull H53 D3_45 (pc' := 46) rfl ?_
        have K55 : Keep h0 h37_ [] := (Keep.ext (Keep.ext (Keep.ext (Keep.refl h0 []) E3) E21) E39)
        exact G.retA H53 (t := (.object "bindery/server/stomp/StompConnection$AckMode")) rfl rfl rfl D3_46 (so := []) all0 (by decide) (by decide) ⟨rfl, rfl, K55⟩
set_option maxRecDepth 65536 in
set_option maxHeartbeats 40000000 in
theorem cut39_122 (V : Env1 Z a0 n0 uu0 uu1 uu2 uu3 uu4 uu5 uu6 uu7 uu8 uu9 uu10 uu11 uu12 uu13 uu14 uu15) (x70000 : Int32) (x70001 : Int32) (x70002 : Int32) (x70003 : Int32) (x70004 : Int32) (x70005 : Int32) (x70006 : Int32) (x70007 : Int32) (x70008 : Int32) (x70009 : Int32) (p0 : Addr) (c0 : ClassId) (x61100 : Int32) (x61101 : Int32) (x61102 : Int32) (x61103 : Int32) (x61104 : Int32) (x61105 : Int32) (x61106 : Int32) (x61107 : Int32) (x61108 : Int32) (x61109 : Int32) (x61110 : Int32) (x61111 : Int32) (x61112 : Int32) (x61113 : Int32) (x61114 : Int32) (x61115 : Int32) (H : Hs p l e room_1 s m as' below meth c Z a0 ELs True x.cls n0 code maxLocals ret x.name T h0 1 16 []) (re_x61100 : ¬ x61100 < 0 ∧ ¬ 255 < x61100) (re_x61101 : ¬ x61101 < 0 ∧ ¬ 255 < x61101) (re_x61102 : ¬ x61102 < 0 ∧ ¬ 255 < x61102) (re_x61103 : ¬ x61103 < 0 ∧ ¬ 255 < x61103) (re_x61104 : ¬ x61104 < 0 ∧ ¬ 255 < x61104) (re_x61105 : ¬ x61105 < 0 ∧ ¬ 255 < x61105) (re_x61106 : ¬ x61106 < 0 ∧ ¬ 255 < x61106) (re_x61107 : ¬ x61107 < 0 ∧ ¬ 255 < x61107) (re_x61108 : ¬ x61108 < 0 ∧ ¬ 255 < x61108) (re_x61109 : ¬ x61109 < 0 ∧ ¬ 255 < x61109) (re_x61110 : ¬ x61110 < 0 ∧ ¬ 255 < x61110) (re_x61111 : ¬ x61111 < 0 ∧ ¬ 255 < x61111) (re_x61112 : ¬ x61112 < 0 ∧ ¬ 255 < x61112) (re_x61113 : ¬ x61113 < 0 ∧ ¬ 255 < x61113) (re_x61114 : ¬ x61114 < 0 ∧ ¬ 255 < x61114) (re_x61115 : ¬ x61115 < 0 ∧ ¬ 255 < x61115) (fA11 : Arv Z h0 p0 c0 .char 16 [(.int x61100), (.int x61101), (.int x61102), (.int x61103), (.int x61104), (.int x61105), (.int x61106), (.int x61107), (.int x61108), (.int x61109), (.int x61110), (.int x61111), (.int x61112), (.int x61113), (.int x61114), (.int x61115)] (.int 0)) :
    Go p e below (FinP s below Z ELs True n0 room_1.cells room_1.slots (fun v h so => v = some (.int 1))) (T.setTop (mkF m 122 #[.val (.int x70000), .val (.int x70001), .val (.int x70002), .val (.int x70003), .val (.int x70004), .val (.int x70005), .val (.int x70006), .val (.int x70007), .val (.int x70008), .val (.int x70009), .unset, .val (.ref p0)] [])) := by
  refine G.new H (wd6 V) (wd7 V) (wd8 V) at_122 (pc' := 125) rfl (by decide) (by decide) ?_
  intro T1 h1_ a2 ga2 H1 E3 A4 D5
  have na2 := H.nle ga2
  refine G.dup H1 at_125 (pc' := 126) rfl rfl ?_
  refine G.aload H1 at_126 (pc' := 128) rfl rfl rfl ?_
  have F6 := (Arv.ext fA11 E3)
  have F7 : Fld Z h1_ a2 "java/lang/String" "value" "[B" .null := D5 (Or.inr (wd34 V)) (ty := (.array .byte)) (by decide)
  have F8 : Fld Z h1_ a2 "java/lang/String" "coder" "B" (.int 0) := D5 (Or.inr (wd32 V)) (ty := .byte) (by decide)
  refine G.newStr H1 (strw V) (wd7 V) (wd9 V) (wd10 V) (cs := [x61100, x61101, x61102, x61103, x61104, x61105, x61106, x61107, x61108, x61109, x61110, x61111, x61112, x61113, x61114, x61115]) (n := 16) na2 A4 F7 F8 F6 (hv24 V) (hv25 V) rfl rfl (by decide) (by decide) (cbS re_x61100 (cbS re_x61101 (cbS re_x61102 (cbS re_x61103 (cbS re_x61104 (cbS re_x61105 (cbS re_x61106 (cbS re_x61107 (cbS re_x61108 (cbS re_x61109 (cbS re_x61110 (cbS re_x61111 (cbS re_x61112 (cbS re_x61113 (cbS re_x61114 (cbS re_x61115 cb0)))))))))))))))) (Sf.mem (mG (i := 0) rfl)) (rest := [(.ref a2)]) (W := 1) rfl rfl at_128 (pc' := 131) rfl (by decide) (by decide) (by decide) (by decide) ?_
  intro T9 h9_ t10 k11 g14 H9 K12 S13
  have nt10 : n0 ≤ t10 := Nat.le_trans H1.le g14
  refine G.astore H9 (L' := #[.val (.int x70000), .val (.int x70001), .val (.int x70002), .val (.int x70003), .val (.int x70004), .val (.int x70005), .val (.int x70006), .val (.int x70007), .val (.int x70008), .val (.int x70009), .val (.ref a2), .val (.ref p0)]) at_131 (pc' := 133) rfl rfl rfl ?_
  refine G.aload H9 at_133 (pc' := 135) rfl rfl rfl ?_
  refine G.callS H9 (m37_named V a2 t10 k11 x61100 x61101 x61102 x61103 x61104 x61105 x61106 x61107 x61108 x61109 x61110 x61111 x61112 x61113 x61114 x61115 h9_ H9.old S13) (wd35 V) (wd36 V) (wd37 V) (wd38 V) (by decide) (argsL := [(.ref a2)]) (rest := []) (W := 0) rfl rfl (lenOf (pd_2) rfl) rfl rfl at_135 (pc' := 138) rfl (by decide) (by decide) (by decide) (by decide) all0 ?_
  intro T15 h15_ v16 s17 H15 Q18
  obtain ⟨rfl, rfl, K19⟩ := Q18
  show Go p e below _ (T15.setTop (mkF m 138 #[.val (.int x70000), .val (.int x70001), .val (.int x70002), .val (.int x70003), .val (.int x70004), .val (.int x70005), .val (.int x70006), .val (.int x70007), .val (.int x70008), .val (.int x70009), .val (.ref a2), .val (.ref p0)] [.null]))
  refine G.astore H15 (L' := #[.val (.int x70000), .val (.int x70001), .val (.int x70002), .val (.int x70003), .val (.int x70004), .val (.int x70005), .val (.int x70006), .val (.int x70007), .val (.int x70008), .val (.int x70009), .val (.ref a2), .val .null]) at_138 (pc' := 140) rfl rfl rfl ?_
  refine G.aload H15 at_140 (pc' := 142) rfl rfl rfl ?_
  refine G.aload H15 at_142 (pc' := 144) rfl rfl rfl ?_
  have F20 := (Str.keep S13 K19 nin0 nin0)
  refine G.callS H15 (m38_expected V a2 t10 k11 x61100 x61101 x61102 x61103 x61104 x61105 x61106 x61107 x61108 x61109 x61110 x61111 x61112 x61113 x61114 x61115 h15_ H15.old F20) (wd69 V) (wd70 V) (wd3 V) (wd71 V) (by decide) (argsL := [(.ref a2)]) (rest := [.null]) (W := 1) rfl rfl (lenOf (pd_2) rfl) rfl rfl at_144 (pc' := 147) rfl (by decide) (by decide) (by decide) (by decide) (allS (mG (i := 1) rfl) (allS (mG (i := 0) rfl) all0)) ?_
  intro T21 h21_ v22 s23 H21 Q24
  obtain ⟨rfl, rfl, K25⟩ := Q24
  show Go p e below _ (T21.setTop (mkF m 147 #[.val (.int x70000), .val (.int x70001), .val (.int x70002), .val (.int x70003), .val (.int x70004), .val (.int x70005), .val (.int x70006), .val (.int x70007), .val (.int x70008), .val (.int x70009), .val (.ref a2), .val .null] [.null, .null]))
  refine G.acmpNo H21 at_147 (pc' := 150) rfl rfl rfl (XT.aa_ne_f rfl) ?_
  refine G.iconst H21 at_150 (pc' := 151) rfl (v := 1) rfl ?_
  refine G.goto H21 at_151 (by decide) (pc' := 155) rfl ?_
  exact G.retN H21 (t := .boolean) rfl (by decide) at_155 (so := []) all0 (by decide) (by decide) rfl
set_option maxRecDepth 65536 in
set_option maxHeartbeats 40000000 in
theorem cut40_87 (V : Env1 Z a0 n0 uu0 uu1 uu2 uu3 uu4 uu5 uu6 uu7 uu8 uu9 uu10 uu11 uu12 uu13 uu14 uu15) (x90087 : Int32) (x0 : Int32) (x1 : Int32) (x2 : Int32) (x3 : Int32) (x4 : Int32) (x800340 : Int32) (H : Hs p l e room_1 s m as' below meth c Z a0 ELs True x.cls n0 code maxLocals ret x.name T h0 0 0 []) (sp : x90087 = 0 ∨ x90087 = 1 ∨ x90087 = 2) (cc1 : x800340 = 0) :
    Go p e below (FinP s below Z ELs True n0 room_1.cells room_1.slots (fun v h so => v = some (.int 1))) (T.setTop (mkF m 87 #[.val (.int x0), .val (.int x1), .val (.int x2), .val (.int x3), .val (.int x4), .val (.int 2), .val (.int x90087), .val (.int x800340), .val (.int (x2 &&& 255)), .val (.int ((XT.ushr x2 8) &&& 255)), .unset, .unset] [])) := by
  rcases sp with rfl | rfl | rfl
  ·
    refine G.iload H at_87 (pc' := 89) rfl rfl ?_
    refine G.iload H at_89 (pc' := 91) rfl rfl ?_
    refine G.iload H at_91 (pc' := 93) rfl rfl ?_
    refine G.callS H (m27_base V ((XT.ushr x2 8) &&& 255) h0 H.old) (wd1 V) (wd2 V) (wd3 V) (wd4 V) (by decide) (argsL := [(.int 2), (.int 0), (.int ((XT.ushr x2 8) &&& 255))]) (rest := []) (W := 0) rfl rfl (lenOf (pd_0) rfl) rfl rfl at_93 (pc' := 96) rfl (by decide) (by decide) (by decide) (by decide) all0 ?_
    intro T1 h1_ v2 s3 H1 Q4
    obtain ⟨a5, k6, rfl, rfl, K7, g8, F9, F10⟩ := Q4
    have na5 : n0 ≤ a5 := Nat.le_trans H.le g8
    show Go p e below _ (T1.setTop (mkF m 96 #[.val (.int x0), .val (.int x1), .val (.int x2), .val (.int x3), .val (.int x4), .val (.int 2), .val (.int 0), .val (.int x800340), .val (.int (x2 &&& 255)), .val (.int ((XT.ushr x2 8) &&& 255)), .unset, .unset] [(.ref a5)]))
    refine G.astore H1 (L' := #[.val (.int x0), .val (.int x1), .val (.int x2), .val (.int x3), .val (.int x4), .val (.int 2), .val (.int 0), .val (.int x800340), .val (.int (x2 &&& 255)), .val (.int ((XT.ushr x2 8) &&& 255)), .unset, .val (.ref a5)]) at_96 (pc' := 98) rfl rfl rfl ?_
    refine G.iload H1 at_98 (pc' := 100) rfl rfl ?_
    refine G.ifYes H1 at_100 (XT.i0_eq_t cc1) (by decide) (pc' := 122) rfl ?_
    exact cut31_122 V x0 x1 x2 x3 x4 2 0 x800340 (x2 &&& 255) ((XT.ushr x2 8) &&& 255) a5 k6 99 108 105 101 110 116 45 105 110 100 105 118 105 100 117 97 108 ((H1.less all0).mono (C' := 1) (S' := 17) (by decide) (by decide)) (by decide) (by decide) (by decide) (by decide) (by decide) (by decide) (by decide) (by decide) (by decide) (by decide) (by decide) (by decide) (by decide) (by decide) (by decide) (by decide) (by decide) F9
  ·
    refine G.iload H at_87 (pc' := 89) rfl rfl ?_
    refine G.iload H at_89 (pc' := 91) rfl rfl ?_
    refine G.iload H at_91 (pc' := 93) rfl rfl ?_
    refine G.callS H (m32_base V ((XT.ushr x2 8) &&& 255) h0 H.old (own_u16 (own_and255 _))) (wd1 V) (wd2 V) (wd3 V) (wd4 V) (by decide) (argsL := [(.int 2), (.int 1), (.int ((XT.ushr x2 8) &&& 255))]) (rest := []) (W := 0) rfl rfl (lenOf (pd_0) rfl) rfl rfl at_93 (pc' := 96) rfl (by decide) (by decide) (by decide) (by decide) all0 ?_
    intro T11 h11_ v12 s13 H11 Q14
    obtain ⟨a15, k16, rfl, rfl, K17, g18, F19, F20⟩ := Q14
    have na15 : n0 ≤ a15 := Nat.le_trans H.le g18
    show Go p e below _ (T11.setTop (mkF m 96 #[.val (.int x0), .val (.int x1), .val (.int x2), .val (.int x3), .val (.int x4), .val (.int 2), .val (.int 1), .val (.int x800340), .val (.int (x2 &&& 255)), .val (.int ((XT.ushr x2 8) &&& 255)), .unset, .unset] [(.ref a15)]))
    refine G.astore H11 (L' := #[.val (.int x0), .val (.int x1), .val (.int x2), .val (.int x3), .val (.int x4), .val (.int 2), .val (.int 1), .val (.int x800340), .val (.int (x2 &&& 255)), .val (.int ((XT.ushr x2 8) &&& 255)), .unset, .val (.ref a15)]) at_96 (pc' := 98) rfl rfl rfl ?_
    refine G.iload H11 at_98 (pc' := 100) rfl rfl ?_
    refine G.ifYes H11 at_100 (XT.i0_eq_t cc1) (by decide) (pc' := 122) rfl ?_
    exact cut35_122 V x0 x1 x2 x3 x4 2 1 x800340 (x2 &&& 255) ((XT.ushr x2 8) &&& 255) a15 k16 99 108 105 101 110 116 45 105 110 100 105 118 105 100 117 97 108 ((XT.ushr x2 8) &&& 255) ((H11.less all0).mono (C' := 1) (S' := 18) (by decide) (by decide)) (by decide) (by decide) (by decide) (by decide) (by decide) (by decide) (by decide) (by decide) (by decide) (by decide) (by decide) (by decide) (by decide) (by decide) (by decide) (by decide) (by decide) (own_and255 _) F19
  ·
    refine G.iload H at_87 (pc' := 89) rfl rfl ?_
    refine G.iload H at_89 (pc' := 91) rfl rfl ?_
    refine G.iload H at_91 (pc' := 93) rfl rfl ?_
    refine G.callS H (m36_base V ((XT.ushr x2 8) &&& 255) h0 H.old) (wd1 V) (wd2 V) (wd3 V) (wd4 V) (by decide) (argsL := [(.int 2), (.int 2), (.int ((XT.ushr x2 8) &&& 255))]) (rest := []) (W := 0) rfl rfl (lenOf (pd_0) rfl) rfl rfl at_93 (pc' := 96) rfl (by decide) (by decide) (by decide) (by decide) all0 ?_
    intro T21 h21_ v22 s23 H21 Q24
    obtain ⟨a25, k26, rfl, rfl, K27, g28, F29, F30⟩ := Q24
    have na25 : n0 ≤ a25 := Nat.le_trans H.le g28
    show Go p e below _ (T21.setTop (mkF m 96 #[.val (.int x0), .val (.int x1), .val (.int x2), .val (.int x3), .val (.int x4), .val (.int 2), .val (.int 2), .val (.int x800340), .val (.int (x2 &&& 255)), .val (.int ((XT.ushr x2 8) &&& 255)), .unset, .unset] [(.ref a25)]))
    refine G.astore H21 (L' := #[.val (.int x0), .val (.int x1), .val (.int x2), .val (.int x3), .val (.int x4), .val (.int 2), .val (.int 2), .val (.int x800340), .val (.int (x2 &&& 255)), .val (.int ((XT.ushr x2 8) &&& 255)), .unset, .val (.ref a25)]) at_96 (pc' := 98) rfl rfl rfl ?_
    refine G.iload H21 at_98 (pc' := 100) rfl rfl ?_
    refine G.ifYes H21 at_100 (XT.i0_eq_t cc1) (by decide) (pc' := 122) rfl ?_
    exact cut39_122 V x0 x1 x2 x3 x4 2 2 x800340 (x2 &&& 255) ((XT.ushr x2 8) &&& 255) a25 k26 99 108 105 101 110 116 45 105 110 100 105 118 105 100 117 97 ((H21.less all0).mono (C' := 1) (S' := 16) (by decide) (by decide)) (by decide) (by decide) (by decide) (by decide) (by decide) (by decide) (by decide) (by decide) (by decide) (by decide) (by decide) (by decide) (by decide) (by decide) (by decide) (by decide) F29
set_option maxRecDepth 65536 in
set_option maxHeartbeats 40000000 in
theorem m41_drawn (V : Env1 Z a0 n0 uu0 uu1 uu2 uu3 uu4 uu5 uu6 uu7 uu8 uu9 uu10 uu11 uu12 uu13 uu14 uu15) (x0 : Int32) (h0 : Heap) (hO : Old Z n0 h0)  :
    Met Z a0 ELs True n0 l (⟨"bindery/server/stomp/AckModeNamedPinLaw", "drawn", "(II)[C"⟩ : MethodName) method_4_code 3 (Option.some (FieldType.array FieldType.char)) ({ frames := 0, cells := 1, slots := 0, locals := 0 } : Room) #[(.int 0), (.int x0)] h0 [] (fun v h so => (∃ a2 : Addr, ∃ k5 : ClassId, v = some (.ref a2) ∧ so = [] ∧ Keep h0 h [] ∧ h0.size ≤ a2 ∧ Arv Z h a2 k5 .char 0 [] (.int 0) ∧ Exa Z h a2 "[C")) := by
  refine Met.of (EWl V) (by first | decide +kernel | rfl) hO (L0 := #[.val (.int 0), .val (.int x0), .unset]) rfl ?_
  intro p e s m below meth c T H
  show Go p e below _ (T.setTop (mkF m 0 #[.val (.int 0), .val (.int x0), .unset] []))
  refine G.iloadN H D4_0 (pc' := 1) rfl rfl ?_
  refine G.newP H (aty := .char) (wd5 V) D4_1 (pc' := 3) rfl (by decide) (cap := 0) (by decide) (by decide) (by decide) (by decide) (vs := []) rfl (ad := "[C") rfl ?_
  intro T1 h1_ a2 k5 ga2 H1 E3 A4 X6
  have na2 := H.nle ga2
  replace A4 : Arv Z h1_ a2 k5 .char 0 [] (.int 0) := A4
  refine G.astoreN H1 (L' := #[.val (.int 0), .val (.int x0), .val (.ref a2)]) D4_3 (pc' := 4) rfl rfl rfl ?_
  refine G.iloadN H1 D4_4 (pc' := 5) rfl rfl ?_
  refine G.ifYes H1 D4_5 (by decide) (by decide) (pc' := 17) rfl ?_
  refine G.iloadN H1 D4_17 (pc' := 18) rfl rfl ?_
  refine G.iconst H1 D4_18 (pc' := 19) rfl (v := 1) rfl ?_
  refine G.icmpYes H1 D4_19 (by decide) (by decide) (pc' := 34) rfl ?_
  refine G.iloadN H1 D4_34 (pc' := 35) rfl rfl ?_
  refine G.iconst H1 D4_35 (pc' := 36) rfl (v := 2) rfl ?_
  refine G.icmpYes H1 D4_36 (by decide) (by decide) (pc' := 51) rfl ?_
  refine G.iloadN H1 D4_51 (pc' := 52) rfl rfl ?_
  refine G.iconst H1 D4_52 (pc' := 53) rfl (v := 3) rfl ?_
  refine G.icmpYes H1 D4_53 (by decide) (by decide) (pc' := 68) rfl ?_
  refine G.aloadN H1 D4_68 (pc' := 69) rfl rfl rfl ?_
  have K7 : Keep h0 h1_ [] := (Keep.ext (Keep.refl h0 []) E3)
  exact G.retA H1 (t := (.array .char)) rfl rfl rfl D4_69 (so := []) all0 (by decide) (by decide) ⟨a2, k5, rfl, rfl, K7, (Nat.le_of_eq ga2.symm), A4, X6⟩
set_option maxRecDepth 65536 in
set_option maxHeartbeats 40000000 in
theorem m42_init (V : Env1 Z a0 n0 uu0 uu1 uu2 uu3 uu4 uu5 uu6 uu7 uu8 uu9 uu10 uu11 uu12 uu13 uu14 uu15) (p0 : Addr) (p1 : Addr) (h0 : Heap) (hO : Old Z n0 h0) (f0 : Exa Z h0 p0 "java/lang/String") (f1 : Fld Z h0 p0 "java/lang/String" "value" "[B" .null) (g2 : n0 ≤ p0) (f3 : Fld Z h0 p0 "java/lang/String" "coder" "B" (.int 0)) :
    Met Z a0 ELs True n0 l (⟨"java/lang/String", "<init>", "([CIILjava/lang/Void;)V"⟩ : MethodName) jdk_42_method_149_code 6 (Option.none : Option FieldType) ({ frames := 1, cells := 4, slots := 8, locals := 12 } : Room) #[(.ref p0), (.ref p1), (.int 0), (.int 0), .null] h0 [p0] (fun v h so => (∃ b6 : Addr, ∃ k7 : ClassId, v = none ∧ so = [] ∧ Keep h0 h [p0] ∧ (∀ (O n d : String) (w : Value), Fld Z h0 p0 O n d w → RoadKit.slotOf Z O n d ≠ RoadKit.slotOf Z "java/lang/String" "value" "[B" → RoadKit.slotOf Z O n d ≠ RoadKit.slotOf Z "java/lang/String" "coder" "B" → Fld Z h p0 O n d w) ∧ Exa Z h p0 "java/lang/String" ∧ Fld Z h p0 "java/lang/String" "value" "[B" (.ref b6) ∧ Fld Z h p0 "java/lang/String" "coder" "B" (.int 0) ∧ Arv Z h b6 k7 .byte 0 [] (.int 0))) := by
  refine Met.of (EWl V) (by first | decide +kernel | rfl) hO (L0 := #[.val (.ref p0), .val (.ref p1), .val (.int 0), .val (.int 0), .val .null, .unset]) rfl ?_
  intro p e s m below meth c T H
  show Go p e below _ (T.setTop (mkF m 0 #[.val (.ref p0), .val (.ref p1), .val (.int 0), .val (.int 0), .val .null, .unset] []))
  refine G.aloadN H D0_0 (pc' := 1) rfl rfl rfl ?_
  refine G.initO H (wd16 V) (wd17 V) (wd18 V) rfl D0_1 (pc' := 4) rfl (by decide) (W := 0) rfl (by decide) ?_
  intro T1 H2
  refine G.iloadN H2 D0_4 (pc' := 5) rfl rfl ?_
  refine G.ifNo H2 D0_5 (pc' := 8) rfl (by decide) ?_
  refine G.aloadN H2 D0_8 (pc' := 9) rfl rfl rfl ?_
  refine G.ldcS H2 trivial (wS V) (wd84 V) (by decide) (vs := []) (z := 0) (by decide) (by decide) rfl (n := 0) (by decide) (by decide) (by decide) (by decide) D0_9 (pc' := 11) rfl ?_
  intro T3 h3_ a4 b6 k7 H3 E5 X8 F9 F10 A11 Q12
  have S13 : Str Z h3_ a4 b6 k7 [] := ⟨X8, F9, F10, A11, by decide, by decide⟩
  refine G.getF H3 (wd33 V) Via.refl F10 D0_11 (pc' := 14) rfl ?_
  intro T14 H15
  have F16 := (Exa.ext E5 f0)
  have F17 := (Fld.ext E5 f1)
  refine G.putF H15 (wd33 V) Via.refl F17 F16 (Or.inr ⟨(wd34 V), rfl, rfl⟩) (wd7 V) (ty := (.array .byte)) (by decide) rfl rfl g2 (Sf.mem (mG (i := 0) rfl)) D0_14 (pc' := 17) rfl ?_
  intro T18 h18_ H18 W19
  have F20 : Fld Z h18_ p0 "java/lang/String" "value" "[B" (.ref b6) := Fld.same W19 F17
  refine G.aloadN H18 D0_17 (pc' := 18) rfl rfl rfl ?_
  refine G.ldcS H18 trivial (wS V) (wd84 V) (by decide) (vs := []) (z := 0) (by decide) (by decide) rfl (n := 0) (by decide) (by decide) (by decide) (by decide) D0_18 (pc' := 20) rfl ?_
  intro T21 h21_ a22 b24 k25 H21 E23 X26 F27 F28 A29 Q30
  have S31 : Str Z h21_ a22 b24 k25 [] := ⟨X26, F27, F28, A29, by decide, by decide⟩
  refine G.getF H21 (wd31 V) Via.refl F27 D0_20 (pc' := 23) rfl ?_
  intro T32 H33
  have K34 : Keep h3_ h21_ [p0] := (Keep.ext (Keep.wr (Keep.refl h3_ [p0]) W19 (Or.inl (mG (i := 0) rfl))) E23)
  have F35 := (Exa.keep F16 K34)
  have F36 := (Fld.ext E23 (Fld.other W19 (Fld.ext E5 f3) (Or.inr (slot_ne (Or.inr (wd32 V)) (Or.inr (wd34 V)) (by decide) (t := .byte) (t' := (.array .byte)) (by decide) (by decide)))))
  refine G.putF H33 (wd31 V) Via.refl F36 F35 (Or.inr ⟨(wd32 V), rfl, rfl⟩) (wd7 V) (ty := .byte) (by decide) rfl rfl g2 (Sf.mem (mG (i := 0) rfl)) D0_23 (pc' := 26) rfl ?_
  intro T37 h37_ H37 W38
  have F39 : Fld Z h37_ p0 "java/lang/String" "coder" "B" (.int 0) := Fld.same W38 F36
  have F40 := (Exa.wr W38 F35)
  have F41 := (Fld.other W38 (Fld.ext E23 F20) (Or.inr (slot_ne (Or.inr (wd34 V)) (Or.inr (wd32 V)) (by decide) (t := (.array .byte)) (t' := .byte) (by decide) (by decide))))
  have K42 : Keep h3_ h37_ [p0] := (Keep.wr (Keep.ext (Keep.wr (Keep.refl h3_ [p0]) W19 (Or.inl (mG (i := 0) rfl))) E23) W38 (Or.inl (mG (i := 0) rfl)))
  have F43 := (Arv.keep A11 K42 (ninS (Ne.symm (Q12 _ (mG (i := 0) rfl)).2) nin0))
  have K44 : Keep h0 h37_ [p0] := (Keep.wr (Keep.ext (Keep.wr (Keep.ext (Keep.refl h0 [p0]) E5) W19 (Or.inl (mG (i := 0) rfl))) E23) W38 (Or.inl (mG (i := 0) rfl)))
  exact G.retV H37 rfl D0_26 (so := []) all0 (by decide) (by decide) ⟨b6, k7, rfl, rfl, K44, (fun O n d w F hn0 hn1 => (Fld.other W38 (Fld.ext E23 (Fld.other W19 (Fld.ext E5 F) (Or.inr hn0))) (Or.inr hn1))), F40, F41, F39, F43⟩
set_option maxRecDepth 65536 in
set_option maxHeartbeats 40000000 in
theorem m43_init (V : Env1 Z a0 n0 uu0 uu1 uu2 uu3 uu4 uu5 uu6 uu7 uu8 uu9 uu10 uu11 uu12 uu13 uu14 uu15) (p0 : Addr) (p1 : Addr) (c0 : ClassId) (h0 : Heap) (hO : Old Z n0 h0) (f0 : Arv Z h0 p1 c0 .char 0 [] (.int 0)) (f1 : Exa Z h0 p0 "java/lang/String") (f2 : Fld Z h0 p0 "java/lang/String" "value" "[B" .null) (g3 : n0 ≤ p0) (f4 : Fld Z h0 p0 "java/lang/String" "coder" "B" (.int 0)) :
    Met Z a0 ELs True n0 l (⟨"java/lang/String", "<init>", "([C)V"⟩ : MethodName) jdk_42_method_3_code 2 (Option.none : Option FieldType) ({ frames := 2, cells := 4, slots := 8, locals := 29 } : Room) #[(.ref p0), (.ref p1)] h0 [p0] (fun v h so => (∃ a5 : Addr, ∃ k6 : ClassId, v = none ∧ so = [] ∧ Keep h0 h [p0] ∧ (∀ (O n d : String) (w : Value), Fld Z h0 p0 O n d w → RoadKit.slotOf Z O n d ≠ RoadKit.slotOf Z "java/lang/String" "value" "[B" → RoadKit.slotOf Z O n d ≠ RoadKit.slotOf Z "java/lang/String" "coder" "B" → Fld Z h p0 O n d w) ∧ Exa Z h p0 "java/lang/String" ∧ Fld Z h p0 "java/lang/String" "value" "[B" (.ref a5) ∧ Fld Z h p0 "java/lang/String" "coder" "B" (.int 0) ∧ Arv Z h a5 k6 .byte 0 [] (.int 0))) := by
  refine Met.of (EWl V) (by first | decide +kernel | rfl) hO (L0 := #[.val (.ref p0), .val (.ref p1)]) rfl ?_
  intro p e s m below meth c T H
  show Go p e below _ (T.setTop (mkF m 0 #[.val (.ref p0), .val (.ref p1)] []))
  refine G.aloadN H D1_0 (pc' := 1) rfl rfl rfl ?_
  refine G.aloadN H D1_1 (pc' := 2) rfl rfl rfl ?_
  refine G.iconst H D1_2 (pc' := 3) rfl (v := 0) rfl ?_
  refine G.aloadN H D1_3 (pc' := 4) rfl rfl rfl ?_
  refine G.arrlen H f0 D1_4 (pc' := 5) rfl ?_
  refine G.aconstNull H D1_5 (pc' := 6) rfl ?_
  refine G.callI H (m42_init V p0 p1 h0 H.old f1 f2 g3 f4) rfl (wd12 V) (wd13 V) (wd8 V) (wd15 V) (by decide) (a := p0) (argsL := [(.ref p1), (.int 0), (.int 0), .null]) (rest := []) (W := 0) rfl rfl (lenOf (pd_4) rfl) rfl rfl D1_6 (pc' := 9) rfl (by decide) (by decide) (by decide) (by decide) (allS (mG (i := 0) rfl) all0) ?_
  intro T1 h1_ v2 s3 H1 Q4
  obtain ⟨a5, k6, rfl, rfl, K7, U8, F9, F10, F11, F12⟩ := Q4
  show Go p e below _ (T1.setTop (mkF m 9 #[.val (.ref p0), .val (.ref p1)] []))
  have K13 : Keep h0 h1_ [p0] := (Keep.trans (Keep.refl h0 [p0]) K7 (allS (Or.inl (mG (i := 0) rfl)) all0))
  exact G.retV H1 rfl D1_9 (so := []) all0 (by decide) (by decide) ⟨a5, k6, rfl, rfl, K13, (fun O n d w F hn0 hn1 => (U8 O n d w F hn0 hn1)), F9, F10, F11, F12⟩
set_option maxRecDepth 65536 in
set_option maxHeartbeats 40000000 in
theorem m44_named (V : Env1 Z a0 n0 uu0 uu1 uu2 uu3 uu4 uu5 uu6 uu7 uu8 uu9 uu10 uu11 uu12 uu13 uu14 uu15) (p0 : Addr) (p1 : Addr) (c0 : ClassId) (h0 : Heap) (hO : Old Z n0 h0) (f0 : Str Z h0 p0 p1 c0 []) :
    Met Z a0 ELs True n0 l (⟨"bindery/server/stomp/StompConnection$AckMode", "named", "(Ljava/lang/String;)Lbindery/server/stomp/StompConnection$AckMode;"⟩ : MethodName) prog_93_method_4_code 5 (Option.some (FieldType.object "bindery/server/stomp/StompConnection$AckMode")) ({ frames := 2, cells := 1, slots := 3, locals := 28 } : Room) #[(.ref p0)] h0 [] (fun v h so => (v = some .null ∧ so = [] ∧ Keep h0 h [])) := by
  refine Met.of (EWl V) (by first | decide +kernel | rfl) hO (L0 := #[.val (.ref p0), .unset, .unset, .unset, .unset]) rfl ?_
  intro p e s m below meth c T H
  show Go p e below _ (T.setTop (mkF m 0 #[.val (.ref p0), .unset, .unset, .unset, .unset] []))
  refine G.callS H (m2_values V h0 H.old) (wd39 V) (wd40 V) (wd37 V) (wd41 V) (by decide) (argsL := []) (rest := []) (W := 0) rfl rfl (lenOf (pd_1) rfl) rfl rfl D7_0 (pc' := 3) rfl (by decide) (by decide) (by decide) (by decide) all0 ?_
  intro T1 h1_ v2 s3 H1 Q4
  obtain ⟨a5, k6, rfl, rfl, K7, g8, F9, F10⟩ := Q4
  have na5 : n0 ≤ a5 := Nat.le_trans H.le g8
  show Go p e below _ (T1.setTop (mkF m 3 #[.val (.ref p0), .unset, .unset, .unset, .unset] [(.ref a5)]))
  refine G.astoreN H1 (L' := #[.val (.ref p0), .val (.ref a5), .unset, .unset, .unset]) D7_3 (pc' := 4) rfl rfl rfl ?_
  refine G.aloadN H1 D7_4 (pc' := 5) rfl rfl rfl ?_
  refine G.arrlen H1 F9 D7_5 (pc' := 6) rfl ?_
  refine G.istoreN H1 (L' := #[.val (.ref p0), .val (.ref a5), .val (.int 3), .unset, .unset]) D7_6 (pc' := 7) rfl rfl ?_
  refine G.iconst H1 D7_7 (pc' := 8) rfl (v := 0) rfl ?_
  refine G.istoreN H1 (L' := #[.val (.ref p0), .val (.ref a5), .val (.int 3), .val (.int 0), .unset]) D7_8 (pc' := 9) rfl rfl ?_
  refine G.iloadN H1 D7_9 (pc' := 10) rfl rfl ?_
  refine G.iloadN H1 D7_10 (pc' := 11) rfl rfl ?_
  refine G.icmpNo H1 D7_11 (pc' := 14) rfl (by decide) ?_
  refine G.aloadN H1 D7_14 (pc' := 15) rfl rfl rfl ?_
  refine G.iloadN H1 D7_15 (pc' := 16) rfl rfl ?_
  refine G.aaloadG H1 F9 rfl (j := 0) (v := (.ref uu1)) (by decide) rfl D7_16 (pc' := 17) rfl ?_
  refine G.astore H1 (L' := #[.val (.ref p0), .val (.ref a5), .val (.int 3), .val (.int 0), .val (.ref uu1)]) D7_17 (pc' := 19) rfl rfl rfl ?_
  refine G.aload H1 D7_19 (pc' := 21) rfl rfl rfl ?_
  have B11 := Fld.ext H1.old.2 (hv12 V)
  refine G.getF H1 (wd57 V) Via.refl B11 D7_21 (pc' := 24) rfl ?_
  intro T12 H13
  refine G.aloadN H13 D7_24 (pc' := 25) rfl rfl rfl ?_
  have B14 := Str.ext H13.old.2 (hv30 V)
  have F15 := (Str.keep f0 K7 nin0 nin0)
  refine G.strEq H13 (strwEq V) (wd7 V) (wd59 V) (wd60 V) (wd62 V) (wd61 V) B14 F15 (hv24 V) (hv25 V) (rest := []) (W := 0) rfl rfl D7_25 (pc' := 28) rfl (by decide) (by decide) (by decide) (by decide) ?_ ?_
  ·
    intro T16 H17 c18
    exact absurd c18 (by intro qq; simp at qq)
  ·
    intro T19 H20 c21
    refine G.ifYes H20 D7_28 (by decide) (by decide) (pc' := 34) rfl ?_
    refine G.iinc H20 (v := 1) (L' := #[.val (.ref p0), .val (.ref a5), .val (.int 3), .val (.int 1), .val (.ref uu1)]) D7_34 (pc' := 37) rfl rfl rfl rfl ?_
    refine G.goto H20 D7_37 (by decide) (pc' := 9) rfl ?_
    show Go p e below _ (T19.setTop (mkF m 9 #[.val (.ref p0), .val (.ref a5), .val (.int 3), .val (.int 1), .val (.ref uu1)] []))
    refine G.iloadN H20 D7_9 (pc' := 10) rfl rfl ?_
    refine G.iloadN H20 D7_10 (pc' := 11) rfl rfl ?_
    refine G.icmpNo H20 D7_11 (pc' := 14) rfl (by decide) ?_
    refine G.aloadN H20 D7_14 (pc' := 15) rfl rfl rfl ?_
    refine G.iloadN H20 D7_15 (pc' := 16) rfl rfl ?_
    refine G.aaloadG H20 F9 rfl (j := 1) (v := (.ref uu2)) (by decide) rfl D7_16 (pc' := 17) rfl ?_
    refine G.astore H20 (L' := #[.val (.ref p0), .val (.ref a5), .val (.int 3), .val (.int 1), .val (.ref uu2)]) D7_17 (pc' := 19) rfl rfl rfl ?_
    refine G.aload H20 D7_19 (pc' := 21) rfl rfl rfl ?_
    have B22 := Fld.ext H20.old.2 (hv10 V)
    refine G.getF H20 (wd57 V) Via.refl B22 D7_21 (pc' := 24) rfl ?_
    intro T23 H24
    refine G.aloadN H24 D7_24 (pc' := 25) rfl rfl rfl ?_
    have B25 := Str.ext H24.old.2 (hv29 V)
    refine G.strEq H24 (strwEq V) (wd7 V) (wd59 V) (wd60 V) (wd62 V) (wd61 V) B25 F15 (hv24 V) (hv25 V) (rest := []) (W := 0) rfl rfl D7_25 (pc' := 28) rfl (by decide) (by decide) (by decide) (by decide) ?_ ?_
    ·
      intro T26 H27 c28
      exact absurd c28 (by intro qq; simp at qq)
    ·
      intro T29 H30 c31
      refine G.ifYes H30 D7_28 (by decide) (by decide) (pc' := 34) rfl ?_
      refine G.iinc H30 (v := 2) (L' := #[.val (.ref p0), .val (.ref a5), .val (.int 3), .val (.int 2), .val (.ref uu2)]) D7_34 (pc' := 37) rfl rfl rfl rfl ?_
      refine G.goto H30 D7_37 (by decide) (pc' := 9) rfl ?_
      show Go p e below _ (T29.setTop (mkF m 9 #[.val (.ref p0), .val (.ref a5), .val (.int 3), .val (.int 2), .val (.ref uu2)] []))
      refine G.iloadN H30 D7_9 (pc' := 10) rfl rfl ?_
      refine G.iloadN H30 D7_10 (pc' := 11) rfl rfl ?_
      refine G.icmpNo H30 D7_11 (pc' := 14) rfl (by decide) ?_
      refine G.aloadN H30 D7_14 (pc' := 15) rfl rfl rfl ?_
      refine G.iloadN H30 D7_15 (pc' := 16) rfl rfl ?_
      refine G.aaloadG H30 F9 rfl (j := 2) (v := (.ref uu3)) (by decide) rfl D7_16 (pc' := 17) rfl ?_
      refine G.astore H30 (L' := #[.val (.ref p0), .val (.ref a5), .val (.int 3), .val (.int 2), .val (.ref uu3)]) D7_17 (pc' := 19) rfl rfl rfl ?_
      refine G.aload H30 D7_19 (pc' := 21) rfl rfl rfl ?_
      have B32 := Fld.ext H30.old.2 (hv8 V)
      refine G.getF H30 (wd57 V) Via.refl B32 D7_21 (pc' := 24) rfl ?_
      intro T33 H34
      refine G.aloadN H34 D7_24 (pc' := 25) rfl rfl rfl ?_
      have B35 := Str.ext H34.old.2 (hv28 V)
      refine G.strEq H34 (strwEq V) (wd7 V) (wd59 V) (wd60 V) (wd62 V) (wd61 V) B35 F15 (hv24 V) (hv25 V) (rest := []) (W := 0) rfl rfl D7_25 (pc' := 28) rfl (by decide) (by decide) (by decide) (by decide) ?_ ?_
      ·
        intro T36 H37 c38
        exact absurd c38 (by intro qq; simp at qq)
      ·
        intro T39 H40 c41
        refine G.ifYes H40 D7_28 (by decide) (by decide) (pc' := 34) rfl ?_
        refine G.iinc H40 (v := 3) (L' := #[.val (.ref p0), .val (.ref a5), .val (.int 3), .val (.int 3), .val (.ref uu3)]) D7_34 (pc' := 37) rfl rfl rfl rfl ?_
        refine G.goto H40 D7_37 (by decide) (pc' := 9) rfl ?_
        show Go p e below _ (T39.setTop (mkF m 9 #[.val (.ref p0), .val (.ref a5), .val (.int 3), .val (.int 3), .val (.ref uu3)] []))
        refine G.iloadN H40 D7_9 (pc' := 10) rfl rfl ?_
        refine G.iloadN H40 D7_10 (pc' := 11) rfl rfl ?_
        refine G.icmpYes H40 D7_11 (by decide) (by decide) (pc' := 40) rfl ?_
        refine G.aconstNull H40 D7_40 (pc' := 41) rfl ?_
        have K42 : Keep h0 h1_ [] := (Keep.trans (Keep.refl h0 []) K7 all0)
        exact G.retA H40 (t := (.object "bindery/server/stomp/StompConnection$AckMode")) rfl rfl rfl D7_41 (so := []) all0 (by decide) (by decide) ⟨rfl, rfl, K42⟩
set_option maxRecDepth 65536 in
set_option maxHeartbeats 40000000 in
theorem m45_expected (V : Env1 Z a0 n0 uu0 uu1 uu2 uu3 uu4 uu5 uu6 uu7 uu8 uu9 uu10 uu11 uu12 uu13 uu14 uu15) (p0 : Addr) (p1 : Addr) (c0 : ClassId) (h0 : Heap) (hO : Old Z n0 h0) (f0 : Str Z h0 p0 p1 c0 []) :
    Met Z a0 ELs True n0 l (⟨"bindery/server/stomp/AckModeNamedPinLaw", "expected", "(Ljava/lang/String;)Lbindery/server/stomp/StompConnection$AckMode;"⟩ : MethodName) method_3_code 1 (Option.some (FieldType.object "bindery/server/stomp/StompConnection$AckMode")) ({ frames := 2, cells := 6, slots := 120, locals := 28 } : Room) #[(.ref p0)] h0 [p0] (fun v h so => (v = some .null ∧ so = [] ∧ Keep h0 h [])) := by
  refine Met.of (EWl V) (by first | decide +kernel | rfl) hO (L0 := #[.val (.ref p0)]) rfl ?_
  intro p e s m below meth c T H
  show Go p e below _ (T.setTop (mkF m 0 #[.val (.ref p0)] []))
  refine G.aloadN H D3_0 (pc' := 1) rfl rfl rfl ?_
  refine G.ifnonnullYes H D3_1 (by decide) (pc' := 6) rfl ?_
  refine G.aloadN H D3_6 (pc' := 7) rfl rfl rfl ?_
  refine G.ldcS H trivial (wS V) (wd72 V) (by decide) (vs := [(.int 97), (.int 117), (.int 116), (.int 111)]) (z := 4) (by decide) (by decide) rfl (n := 16) (by decide) (by decide) (by decide) (by decide) D3_7 (pc' := 9) rfl ?_
  intro T1 h1_ a2 b4 k5 H1 E3 X6 F7 F8 A9 Q10
  have S11 : Str Z h1_ a2 b4 k5 [97, 117, 116, 111] := ⟨X6, F7, F8, A9, by decide, by decide⟩
  have F12 := (Str.ext E3 f0)
  refine G.strEq H1 (strwEq V) (wd7 V) (wd75 V) (wd60 V) (wd62 V) (wd61 V) F12 S11 (hv24 V) (hv25 V) (rest := []) (W := 0) rfl rfl D3_9 (pc' := 12) rfl (by decide) (by decide) (by decide) (by decide) ?_ ?_
  ·
    intro T13 H14 c15
    exact absurd c15 (by intro qq; simp at qq)
  ·
    intro T16 H17 c18
    refine G.ifYes H17 D3_12 (by decide) (by decide) (pc' := 19) rfl ?_
    refine G.aloadN H17 D3_19 (pc' := 20) rfl rfl rfl ?_
    refine G.ldcS H17 trivial (wS V) (wd80 V) (by decide) (vs := [(.int 99), (.int 108), (.int 105), (.int 101), (.int 110), (.int 116)]) (z := 6) (by decide) (by decide) rfl (n := 24) (by decide) (by decide) (by decide) (by decide) D3_20 (pc' := 22) rfl ?_
    intro T19 h19_ a20 b22 k23 H19 E21 X24 F25 F26 A27 Q28
    have S29 : Str Z h19_ a20 b22 k23 [99, 108, 105, 101, 110, 116] := ⟨X24, F25, F26, A27, by decide, by decide⟩
    have F30 := (Str.ext E21 F12)
    refine G.strEq H19 (strwEq V) (wd7 V) (wd75 V) (wd60 V) (wd62 V) (wd61 V) F30 S29 (hv24 V) (hv25 V) (rest := []) (W := 0) rfl rfl D3_22 (pc' := 25) rfl (by decide) (by decide) (by decide) (by decide) ?_ ?_
    ·
      intro T31 H32 c33
      exact absurd c33 (by intro qq; simp at qq)
    ·
      intro T34 H35 c36
      refine G.ifYes H35 D3_25 (by decide) (by decide) (pc' := 32) rfl ?_
      refine G.aloadN H35 D3_32 (pc' := 33) rfl rfl rfl ?_
      refine G.ldcS H35 trivial (wS V) (wd81 V) (by decide) (vs := [(.int 99), (.int 108), (.int 105), (.int 101), (.int 110), (.int 116), (.int 45), (.int 105), (.int 110), (.int 100), (.int 105), (.int 118), (.int 105), (.int 100), (.int 117), (.int 97), (.int 108)]) (z := 17) (by decide) (by decide) rfl (n := 68) (by decide) (by decide) (by decide) (by decide) D3_33 (pc' := 35) rfl ?_
      intro T37 h37_ a38 b40 k41 H37 E39 X42 F43 F44 A45 Q46
      have S47 : Str Z h37_ a38 b40 k41 [99, 108, 105, 101, 110, 116, 45, 105, 110, 100, 105, 118, 105, 100, 117, 97, 108] := ⟨X42, F43, F44, A45, by decide, by decide⟩
      have F48 := (Str.ext E39 F30)
      refine G.strEq H37 (strwEq V) (wd7 V) (wd75 V) (wd60 V) (wd62 V) (wd61 V) F48 S47 (hv24 V) (hv25 V) (rest := []) (W := 0) rfl rfl D3_35 (pc' := 38) rfl (by decide) (by decide) (by decide) (by decide) ?_ ?_
      ·
        intro T49 H50 c51
        exact absurd c51 (by intro qq; simp at qq)
      ·
        intro T52 H53 c54
        refine G.ifYes H53 D3_38 (by decide) (by decide) (pc' := 45) rfl ?_
        refine G.aconstNull H53 D3_45 (pc' := 46) rfl ?_
        have K55 : Keep h0 h37_ [] := (Keep.ext (Keep.ext (Keep.ext (Keep.refl h0 []) E3) E21) E39)
        exact G.retA H53 (t := (.object "bindery/server/stomp/StompConnection$AckMode")) rfl rfl rfl D3_46 (so := []) all0 (by decide) (by decide) ⟨rfl, rfl, K55⟩
set_option maxRecDepth 65536 in
set_option maxHeartbeats 40000000 in
theorem cut46_122 (V : Env1 Z a0 n0 uu0 uu1 uu2 uu3 uu4 uu5 uu6 uu7 uu8 uu9 uu10 uu11 uu12 uu13 uu14 uu15) (x70000 : Int32) (x70001 : Int32) (x70002 : Int32) (x70003 : Int32) (x70004 : Int32) (x70005 : Int32) (x70006 : Int32) (x70007 : Int32) (x70008 : Int32) (x70009 : Int32) (p0 : Addr) (c0 : ClassId) (H : Hs p l e room_1 s m as' below meth c Z a0 ELs True x.cls n0 code maxLocals ret x.name T h0 1 0 []) (fA11 : Arv Z h0 p0 c0 .char 0 [] (.int 0)) :
    Go p e below (FinP s below Z ELs True n0 room_1.cells room_1.slots (fun v h so => v = some (.int 1))) (T.setTop (mkF m 122 #[.val (.int x70000), .val (.int x70001), .val (.int x70002), .val (.int x70003), .val (.int x70004), .val (.int x70005), .val (.int x70006), .val (.int x70007), .val (.int x70008), .val (.int x70009), .unset, .val (.ref p0)] [])) := by
  refine G.new H (wd6 V) (wd7 V) (wd8 V) at_122 (pc' := 125) rfl (by decide) (by decide) ?_
  intro T1 h1_ a2 ga2 H1 E3 A4 D5
  have na2 := H.nle ga2
  refine G.dup H1 at_125 (pc' := 126) rfl rfl ?_
  refine G.aload H1 at_126 (pc' := 128) rfl rfl rfl ?_
  have F6 := (Arv.ext fA11 E3)
  have F7 : Fld Z h1_ a2 "java/lang/String" "value" "[B" .null := D5 (Or.inr (wd34 V)) (ty := (.array .byte)) (by decide)
  have F8 : Fld Z h1_ a2 "java/lang/String" "coder" "B" (.int 0) := D5 (Or.inr (wd32 V)) (ty := .byte) (by decide)
  refine G.callI H1 (m43_init V a2 p0 c0 h1_ H1.old F6 A4 F7 na2 F8) rfl (wd9 V) (wd10 V) (wd8 V) (wd11 V) (by decide) (a := a2) (argsL := [(.ref p0)]) (rest := [(.ref a2)]) (W := 1) rfl rfl (lenOf (pd_5) rfl) rfl rfl at_128 (pc' := 131) rfl (by decide) (by decide) (by decide) (by decide) (allS (mG (i := 0) rfl) all0) ?_
  intro T9 h9_ v10 s11 H9 Q12
  obtain ⟨a13, k14, rfl, rfl, K15, U16, F17, F18, F19, F20⟩ := Q12
  show Go p e below _ (T9.setTop (mkF m 131 #[.val (.int x70000), .val (.int x70001), .val (.int x70002), .val (.int x70003), .val (.int x70004), .val (.int x70005), .val (.int x70006), .val (.int x70007), .val (.int x70008), .val (.int x70009), .unset, .val (.ref p0)] [(.ref a2)]))
  refine G.astore H9 (L' := #[.val (.int x70000), .val (.int x70001), .val (.int x70002), .val (.int x70003), .val (.int x70004), .val (.int x70005), .val (.int x70006), .val (.int x70007), .val (.int x70008), .val (.int x70009), .val (.ref a2), .val (.ref p0)]) at_131 (pc' := 133) rfl rfl rfl ?_
  refine G.aload H9 at_133 (pc' := 135) rfl rfl rfl ?_
  have S21 : Str Z h9_ a2 a13 k14 [] := ⟨F17, F19, F18, F20, cb0, Nat.le_of_ble_eq_true rfl⟩
  refine G.callS H9 (m44_named V a2 a13 k14 h9_ H9.old S21) (wd35 V) (wd36 V) (wd37 V) (wd38 V) (by decide) (argsL := [(.ref a2)]) (rest := []) (W := 0) rfl rfl (lenOf (pd_2) rfl) rfl rfl at_135 (pc' := 138) rfl (by decide) (by decide) (by decide) (by decide) all0 ?_
  intro T22 h22_ v23 s24 H22 Q25
  obtain ⟨rfl, rfl, K26⟩ := Q25
  show Go p e below _ (T22.setTop (mkF m 138 #[.val (.int x70000), .val (.int x70001), .val (.int x70002), .val (.int x70003), .val (.int x70004), .val (.int x70005), .val (.int x70006), .val (.int x70007), .val (.int x70008), .val (.int x70009), .val (.ref a2), .val (.ref p0)] [.null]))
  refine G.astore H22 (L' := #[.val (.int x70000), .val (.int x70001), .val (.int x70002), .val (.int x70003), .val (.int x70004), .val (.int x70005), .val (.int x70006), .val (.int x70007), .val (.int x70008), .val (.int x70009), .val (.ref a2), .val .null]) at_138 (pc' := 140) rfl rfl rfl ?_
  refine G.aload H22 at_140 (pc' := 142) rfl rfl rfl ?_
  refine G.aload H22 at_142 (pc' := 144) rfl rfl rfl ?_
  have F27 := (Str.keep S21 K26 nin0 nin0)
  refine G.callS H22 (m45_expected V a2 a13 k14 h22_ H22.old F27) (wd69 V) (wd70 V) (wd3 V) (wd71 V) (by decide) (argsL := [(.ref a2)]) (rest := [.null]) (W := 1) rfl rfl (lenOf (pd_2) rfl) rfl rfl at_144 (pc' := 147) rfl (by decide) (by decide) (by decide) (by decide) (allS (mG (i := 0) rfl) all0) ?_
  intro T28 h28_ v29 s30 H28 Q31
  obtain ⟨rfl, rfl, K32⟩ := Q31
  show Go p e below _ (T28.setTop (mkF m 147 #[.val (.int x70000), .val (.int x70001), .val (.int x70002), .val (.int x70003), .val (.int x70004), .val (.int x70005), .val (.int x70006), .val (.int x70007), .val (.int x70008), .val (.int x70009), .val (.ref a2), .val .null] [.null, .null]))
  refine G.acmpNo H28 at_147 (pc' := 150) rfl rfl rfl (XT.aa_ne_f rfl) ?_
  refine G.iconst H28 at_150 (pc' := 151) rfl (v := 1) rfl ?_
  refine G.goto H28 at_151 (by decide) (pc' := 155) rfl ?_
  exact G.retN H28 (t := .boolean) rfl (by decide) at_155 (so := []) all0 (by decide) (by decide) rfl
set_option maxRecDepth 65536 in
set_option maxHeartbeats 40000000 in
theorem m47_drawn (V : Env1 Z a0 n0 uu0 uu1 uu2 uu3 uu4 uu5 uu6 uu7 uu8 uu9 uu10 uu11 uu12 uu13 uu14 uu15) (x0 : Int32) (h0 : Heap) (hO : Old Z n0 h0)  :
    Met Z a0 ELs True n0 l (⟨"bindery/server/stomp/AckModeNamedPinLaw", "drawn", "(II)[C"⟩ : MethodName) method_4_code 3 (Option.some (FieldType.array FieldType.char)) ({ frames := 0, cells := 1, slots := 1, locals := 0 } : Room) #[(.int 1), (.int x0)] h0 [] (fun v h so => (∃ a2 : Addr, ∃ k5 : ClassId, v = some (.ref a2) ∧ so = [] ∧ Keep h0 h [] ∧ h0.size ≤ a2 ∧ Arv Z h a2 k5 .char 1 [(.int (x0 &&& 255))] (.int 0) ∧ Exa Z h a2 "[C")) := by
  refine Met.of (EWl V) (by first | decide +kernel | rfl) hO (L0 := #[.val (.int 1), .val (.int x0), .unset]) rfl ?_
  intro p e s m below meth c T H
  show Go p e below _ (T.setTop (mkF m 0 #[.val (.int 1), .val (.int x0), .unset] []))
  refine G.iloadN H D4_0 (pc' := 1) rfl rfl ?_
  refine G.newP H (aty := .char) (wd5 V) D4_1 (pc' := 3) rfl (by decide) (cap := 1) (by decide) (by decide) (by decide) (by decide) (vs := [(.int 0)]) rfl (ad := "[C") rfl ?_
  intro T1 h1_ a2 k5 ga2 H1 E3 A4 X6
  have na2 := H.nle ga2
  replace A4 : Arv Z h1_ a2 k5 .char 1 [(.int 0)] (.int 0) := A4
  refine G.astoreN H1 (L' := #[.val (.int 1), .val (.int x0), .val (.ref a2)]) D4_3 (pc' := 4) rfl rfl rfl ?_
  refine G.iloadN H1 D4_4 (pc' := 5) rfl rfl ?_
  refine G.ifNo H1 D4_5 (pc' := 8) rfl (by decide) ?_
  refine G.aloadN H1 D4_8 (pc' := 9) rfl rfl rfl ?_
  refine G.iconst H1 D4_9 (pc' := 10) rfl (v := 0) rfl ?_
  refine G.iloadN H1 D4_10 (pc' := 11) rfl rfl ?_
  refine G.sipush H1 D4_11 (pc' := 14) rfl (v := 255) rfl ?_
  refine G.iand H1 D4_14 (pc' := 15) rfl ?_
  refine G.i2c H1 (y := (x0 &&& 255)) D4_15 (pc' := 16) rfl (own_c16 (own_u16 (own_and255 _))) ?_
  refine G.stC H1 A4 (by decide) (i := 0) rfl lB na2 (y := (x0 &&& 255)) (own_narC (own_u16 (own_and255 _))) D4_16 (pc' := 17) rfl ?_
  intro T7 h7_ H7 W8 A9
  replace A9 : Arv Z h7_ a2 k5 .char 1 [(.int (x0 &&& 255))] (.int 0) := A9
  refine G.iloadN H7 D4_17 (pc' := 18) rfl rfl ?_
  refine G.iconst H7 D4_18 (pc' := 19) rfl (v := 1) rfl ?_
  refine G.icmpYes H7 D4_19 (by decide) (by decide) (pc' := 34) rfl ?_
  refine G.iloadN H7 D4_34 (pc' := 35) rfl rfl ?_
  refine G.iconst H7 D4_35 (pc' := 36) rfl (v := 2) rfl ?_
  refine G.icmpYes H7 D4_36 (by decide) (by decide) (pc' := 51) rfl ?_
  refine G.iloadN H7 D4_51 (pc' := 52) rfl rfl ?_
  refine G.iconst H7 D4_52 (pc' := 53) rfl (v := 3) rfl ?_
  refine G.icmpYes H7 D4_53 (by decide) (by decide) (pc' := 68) rfl ?_
  refine G.aloadN H7 D4_68 (pc' := 69) rfl rfl rfl ?_
  have F10 := (Exa.wr W8 X6)
  have K11 : Keep h0 h7_ [] := (Keep.wr (Keep.ext (Keep.refl h0 []) E3) W8 (Or.inr (Nat.le_of_eq ga2.symm)))
  exact G.retA H7 (t := (.array .char)) rfl rfl rfl D4_69 (so := []) all0 (by decide) (by decide) ⟨a2, k5, rfl, rfl, K11, (Nat.le_of_eq ga2.symm), A9, F10⟩
set_option maxRecDepth 65536 in
set_option maxHeartbeats 40000000 in
theorem m48_named (V : Env1 Z a0 n0 uu0 uu1 uu2 uu3 uu4 uu5 uu6 uu7 uu8 uu9 uu10 uu11 uu12 uu13 uu14 uu15) (p0 : Addr) (p1 : Addr) (c0 : ClassId) (x0 : Int32) (h0 : Heap) (hO : Old Z n0 h0) (f0 : Str Z h0 p0 p1 c0 [x0]) :
    Met Z a0 ELs True n0 l (⟨"bindery/server/stomp/StompConnection$AckMode", "named", "(Ljava/lang/String;)Lbindery/server/stomp/StompConnection$AckMode;"⟩ : MethodName) prog_93_method_4_code 5 (Option.some (FieldType.object "bindery/server/stomp/StompConnection$AckMode")) ({ frames := 2, cells := 1, slots := 3, locals := 28 } : Room) #[(.ref p0)] h0 [] (fun v h so => (v = some .null ∧ so = [] ∧ Keep h0 h [])) := by
  refine Met.of (EWl V) (by first | decide +kernel | rfl) hO (L0 := #[.val (.ref p0), .unset, .unset, .unset, .unset]) rfl ?_
  intro p e s m below meth c T H
  show Go p e below _ (T.setTop (mkF m 0 #[.val (.ref p0), .unset, .unset, .unset, .unset] []))
  refine G.callS H (m2_values V h0 H.old) (wd39 V) (wd40 V) (wd37 V) (wd41 V) (by decide) (argsL := []) (rest := []) (W := 0) rfl rfl (lenOf (pd_1) rfl) rfl rfl D7_0 (pc' := 3) rfl (by decide) (by decide) (by decide) (by decide) all0 ?_
  intro T1 h1_ v2 s3 H1 Q4
  obtain ⟨a5, k6, rfl, rfl, K7, g8, F9, F10⟩ := Q4
  have na5 : n0 ≤ a5 := Nat.le_trans H.le g8
  show Go p e below _ (T1.setTop (mkF m 3 #[.val (.ref p0), .unset, .unset, .unset, .unset] [(.ref a5)]))
  refine G.astoreN H1 (L' := #[.val (.ref p0), .val (.ref a5), .unset, .unset, .unset]) D7_3 (pc' := 4) rfl rfl rfl ?_
  refine G.aloadN H1 D7_4 (pc' := 5) rfl rfl rfl ?_
  refine G.arrlen H1 F9 D7_5 (pc' := 6) rfl ?_
  refine G.istoreN H1 (L' := #[.val (.ref p0), .val (.ref a5), .val (.int 3), .unset, .unset]) D7_6 (pc' := 7) rfl rfl ?_
  refine G.iconst H1 D7_7 (pc' := 8) rfl (v := 0) rfl ?_
  refine G.istoreN H1 (L' := #[.val (.ref p0), .val (.ref a5), .val (.int 3), .val (.int 0), .unset]) D7_8 (pc' := 9) rfl rfl ?_
  refine G.iloadN H1 D7_9 (pc' := 10) rfl rfl ?_
  refine G.iloadN H1 D7_10 (pc' := 11) rfl rfl ?_
  refine G.icmpNo H1 D7_11 (pc' := 14) rfl (by decide) ?_
  refine G.aloadN H1 D7_14 (pc' := 15) rfl rfl rfl ?_
  refine G.iloadN H1 D7_15 (pc' := 16) rfl rfl ?_
  refine G.aaloadG H1 F9 rfl (j := 0) (v := (.ref uu1)) (by decide) rfl D7_16 (pc' := 17) rfl ?_
  refine G.astore H1 (L' := #[.val (.ref p0), .val (.ref a5), .val (.int 3), .val (.int 0), .val (.ref uu1)]) D7_17 (pc' := 19) rfl rfl rfl ?_
  refine G.aload H1 D7_19 (pc' := 21) rfl rfl rfl ?_
  have B11 := Fld.ext H1.old.2 (hv12 V)
  refine G.getF H1 (wd57 V) Via.refl B11 D7_21 (pc' := 24) rfl ?_
  intro T12 H13
  refine G.aloadN H13 D7_24 (pc' := 25) rfl rfl rfl ?_
  have B14 := Str.ext H13.old.2 (hv30 V)
  have F15 := (Str.keep f0 K7 nin0 nin0)
  refine G.strEq H13 (strwEq V) (wd7 V) (wd59 V) (wd60 V) (wd62 V) (wd61 V) B14 F15 (hv24 V) (hv25 V) (rest := []) (W := 0) rfl rfl D7_25 (pc' := 28) rfl (by decide) (by decide) (by decide) (by decide) ?_ ?_
  ·
    intro T16 H17 c18
    exact absurd c18 (by intro qq; simp at qq)
  ·
    intro T19 H20 c21
    refine G.ifYes H20 D7_28 (by decide) (by decide) (pc' := 34) rfl ?_
    refine G.iinc H20 (v := 1) (L' := #[.val (.ref p0), .val (.ref a5), .val (.int 3), .val (.int 1), .val (.ref uu1)]) D7_34 (pc' := 37) rfl rfl rfl rfl ?_
    refine G.goto H20 D7_37 (by decide) (pc' := 9) rfl ?_
    show Go p e below _ (T19.setTop (mkF m 9 #[.val (.ref p0), .val (.ref a5), .val (.int 3), .val (.int 1), .val (.ref uu1)] []))
    refine G.iloadN H20 D7_9 (pc' := 10) rfl rfl ?_
    refine G.iloadN H20 D7_10 (pc' := 11) rfl rfl ?_
    refine G.icmpNo H20 D7_11 (pc' := 14) rfl (by decide) ?_
    refine G.aloadN H20 D7_14 (pc' := 15) rfl rfl rfl ?_
    refine G.iloadN H20 D7_15 (pc' := 16) rfl rfl ?_
    refine G.aaloadG H20 F9 rfl (j := 1) (v := (.ref uu2)) (by decide) rfl D7_16 (pc' := 17) rfl ?_
    refine G.astore H20 (L' := #[.val (.ref p0), .val (.ref a5), .val (.int 3), .val (.int 1), .val (.ref uu2)]) D7_17 (pc' := 19) rfl rfl rfl ?_
    refine G.aload H20 D7_19 (pc' := 21) rfl rfl rfl ?_
    have B22 := Fld.ext H20.old.2 (hv10 V)
    refine G.getF H20 (wd57 V) Via.refl B22 D7_21 (pc' := 24) rfl ?_
    intro T23 H24
    refine G.aloadN H24 D7_24 (pc' := 25) rfl rfl rfl ?_
    have B25 := Str.ext H24.old.2 (hv29 V)
    refine G.strEq H24 (strwEq V) (wd7 V) (wd59 V) (wd60 V) (wd62 V) (wd61 V) B25 F15 (hv24 V) (hv25 V) (rest := []) (W := 0) rfl rfl D7_25 (pc' := 28) rfl (by decide) (by decide) (by decide) (by decide) ?_ ?_
    ·
      intro T26 H27 c28
      exact absurd c28 (by intro qq; simp at qq)
    ·
      intro T29 H30 c31
      refine G.ifYes H30 D7_28 (by decide) (by decide) (pc' := 34) rfl ?_
      refine G.iinc H30 (v := 2) (L' := #[.val (.ref p0), .val (.ref a5), .val (.int 3), .val (.int 2), .val (.ref uu2)]) D7_34 (pc' := 37) rfl rfl rfl rfl ?_
      refine G.goto H30 D7_37 (by decide) (pc' := 9) rfl ?_
      show Go p e below _ (T29.setTop (mkF m 9 #[.val (.ref p0), .val (.ref a5), .val (.int 3), .val (.int 2), .val (.ref uu2)] []))
      refine G.iloadN H30 D7_9 (pc' := 10) rfl rfl ?_
      refine G.iloadN H30 D7_10 (pc' := 11) rfl rfl ?_
      refine G.icmpNo H30 D7_11 (pc' := 14) rfl (by decide) ?_
      refine G.aloadN H30 D7_14 (pc' := 15) rfl rfl rfl ?_
      refine G.iloadN H30 D7_15 (pc' := 16) rfl rfl ?_
      refine G.aaloadG H30 F9 rfl (j := 2) (v := (.ref uu3)) (by decide) rfl D7_16 (pc' := 17) rfl ?_
      refine G.astore H30 (L' := #[.val (.ref p0), .val (.ref a5), .val (.int 3), .val (.int 2), .val (.ref uu3)]) D7_17 (pc' := 19) rfl rfl rfl ?_
      refine G.aload H30 D7_19 (pc' := 21) rfl rfl rfl ?_
      have B32 := Fld.ext H30.old.2 (hv8 V)
      refine G.getF H30 (wd57 V) Via.refl B32 D7_21 (pc' := 24) rfl ?_
      intro T33 H34
      refine G.aloadN H34 D7_24 (pc' := 25) rfl rfl rfl ?_
      have B35 := Str.ext H34.old.2 (hv28 V)
      refine G.strEq H34 (strwEq V) (wd7 V) (wd59 V) (wd60 V) (wd62 V) (wd61 V) B35 F15 (hv24 V) (hv25 V) (rest := []) (W := 0) rfl rfl D7_25 (pc' := 28) rfl (by decide) (by decide) (by decide) (by decide) ?_ ?_
      ·
        intro T36 H37 c38
        exact absurd c38 (by intro qq; simp at qq)
      ·
        intro T39 H40 c41
        refine G.ifYes H40 D7_28 (by decide) (by decide) (pc' := 34) rfl ?_
        refine G.iinc H40 (v := 3) (L' := #[.val (.ref p0), .val (.ref a5), .val (.int 3), .val (.int 3), .val (.ref uu3)]) D7_34 (pc' := 37) rfl rfl rfl rfl ?_
        refine G.goto H40 D7_37 (by decide) (pc' := 9) rfl ?_
        show Go p e below _ (T39.setTop (mkF m 9 #[.val (.ref p0), .val (.ref a5), .val (.int 3), .val (.int 3), .val (.ref uu3)] []))
        refine G.iloadN H40 D7_9 (pc' := 10) rfl rfl ?_
        refine G.iloadN H40 D7_10 (pc' := 11) rfl rfl ?_
        refine G.icmpYes H40 D7_11 (by decide) (by decide) (pc' := 40) rfl ?_
        refine G.aconstNull H40 D7_40 (pc' := 41) rfl ?_
        have K42 : Keep h0 h1_ [] := (Keep.trans (Keep.refl h0 []) K7 all0)
        exact G.retA H40 (t := (.object "bindery/server/stomp/StompConnection$AckMode")) rfl rfl rfl D7_41 (so := []) all0 (by decide) (by decide) ⟨rfl, rfl, K42⟩
set_option maxRecDepth 65536 in
set_option maxHeartbeats 40000000 in
theorem m49_expected (V : Env1 Z a0 n0 uu0 uu1 uu2 uu3 uu4 uu5 uu6 uu7 uu8 uu9 uu10 uu11 uu12 uu13 uu14 uu15) (p0 : Addr) (p1 : Addr) (c0 : ClassId) (x0 : Int32) (h0 : Heap) (hO : Old Z n0 h0) (f0 : Str Z h0 p0 p1 c0 [x0]) :
    Met Z a0 ELs True n0 l (⟨"bindery/server/stomp/AckModeNamedPinLaw", "expected", "(Ljava/lang/String;)Lbindery/server/stomp/StompConnection$AckMode;"⟩ : MethodName) method_3_code 1 (Option.some (FieldType.object "bindery/server/stomp/StompConnection$AckMode")) ({ frames := 2, cells := 6, slots := 120, locals := 28 } : Room) #[(.ref p0)] h0 [p0, p1] (fun v h so => (v = some .null ∧ so = [] ∧ Keep h0 h [])) := by
  refine Met.of (EWl V) (by first | decide +kernel | rfl) hO (L0 := #[.val (.ref p0)]) rfl ?_
  intro p e s m below meth c T H
  show Go p e below _ (T.setTop (mkF m 0 #[.val (.ref p0)] []))
  refine G.aloadN H D3_0 (pc' := 1) rfl rfl rfl ?_
  refine G.ifnonnullYes H D3_1 (by decide) (pc' := 6) rfl ?_
  refine G.aloadN H D3_6 (pc' := 7) rfl rfl rfl ?_
  refine G.ldcS H trivial (wS V) (wd72 V) (by decide) (vs := [(.int 97), (.int 117), (.int 116), (.int 111)]) (z := 4) (by decide) (by decide) rfl (n := 16) (by decide) (by decide) (by decide) (by decide) D3_7 (pc' := 9) rfl ?_
  intro T1 h1_ a2 b4 k5 H1 E3 X6 F7 F8 A9 Q10
  have S11 : Str Z h1_ a2 b4 k5 [97, 117, 116, 111] := ⟨X6, F7, F8, A9, by decide, by decide⟩
  have F12 := (Str.ext E3 f0)
  refine G.strEq H1 (strwEq V) (wd7 V) (wd75 V) (wd60 V) (wd62 V) (wd61 V) F12 S11 (hv24 V) (hv25 V) (rest := []) (W := 0) rfl rfl D3_9 (pc' := 12) rfl (by decide) (by decide) (by decide) (by decide) ?_ ?_
  ·
    intro T13 H14 c15
    exact absurd c15 (by intro qq; simp at qq)
  ·
    intro T16 H17 c18
    refine G.ifYes H17 D3_12 (by decide) (by decide) (pc' := 19) rfl ?_
    refine G.aloadN H17 D3_19 (pc' := 20) rfl rfl rfl ?_
    refine G.ldcS H17 trivial (wS V) (wd80 V) (by decide) (vs := [(.int 99), (.int 108), (.int 105), (.int 101), (.int 110), (.int 116)]) (z := 6) (by decide) (by decide) rfl (n := 24) (by decide) (by decide) (by decide) (by decide) D3_20 (pc' := 22) rfl ?_
    intro T19 h19_ a20 b22 k23 H19 E21 X24 F25 F26 A27 Q28
    have S29 : Str Z h19_ a20 b22 k23 [99, 108, 105, 101, 110, 116] := ⟨X24, F25, F26, A27, by decide, by decide⟩
    have F30 := (Str.ext E21 F12)
    refine G.strEq H19 (strwEq V) (wd7 V) (wd75 V) (wd60 V) (wd62 V) (wd61 V) F30 S29 (hv24 V) (hv25 V) (rest := []) (W := 0) rfl rfl D3_22 (pc' := 25) rfl (by decide) (by decide) (by decide) (by decide) ?_ ?_
    ·
      intro T31 H32 c33
      exact absurd c33 (by intro qq; simp at qq)
    ·
      intro T34 H35 c36
      refine G.ifYes H35 D3_25 (by decide) (by decide) (pc' := 32) rfl ?_
      refine G.aloadN H35 D3_32 (pc' := 33) rfl rfl rfl ?_
      refine G.ldcS H35 trivial (wS V) (wd81 V) (by decide) (vs := [(.int 99), (.int 108), (.int 105), (.int 101), (.int 110), (.int 116), (.int 45), (.int 105), (.int 110), (.int 100), (.int 105), (.int 118), (.int 105), (.int 100), (.int 117), (.int 97), (.int 108)]) (z := 17) (by decide) (by decide) rfl (n := 68) (by decide) (by decide) (by decide) (by decide) D3_33 (pc' := 35) rfl ?_
      intro T37 h37_ a38 b40 k41 H37 E39 X42 F43 F44 A45 Q46
      have S47 : Str Z h37_ a38 b40 k41 [99, 108, 105, 101, 110, 116, 45, 105, 110, 100, 105, 118, 105, 100, 117, 97, 108] := ⟨X42, F43, F44, A45, by decide, by decide⟩
      have F48 := (Str.ext E39 F30)
      refine G.strEq H37 (strwEq V) (wd7 V) (wd75 V) (wd60 V) (wd62 V) (wd61 V) F48 S47 (hv24 V) (hv25 V) (rest := []) (W := 0) rfl rfl D3_35 (pc' := 38) rfl (by decide) (by decide) (by decide) (by decide) ?_ ?_
      ·
        intro T49 H50 c51
        exact absurd c51 (by intro qq; simp at qq)
      ·
        intro T52 H53 c54
        refine G.ifYes H53 D3_38 (by decide) (by decide) (pc' := 45) rfl ?_
        refine G.aconstNull H53 D3_45 (pc' := 46) rfl ?_
        have K55 : Keep h0 h37_ [] := (Keep.ext (Keep.ext (Keep.ext (Keep.refl h0 []) E3) E21) E39)
        exact G.retA H53 (t := (.object "bindery/server/stomp/StompConnection$AckMode")) rfl rfl rfl D3_46 (so := []) all0 (by decide) (by decide) ⟨rfl, rfl, K55⟩
set_option maxRecDepth 65536 in
set_option maxHeartbeats 40000000 in
theorem cut50_122 (V : Env1 Z a0 n0 uu0 uu1 uu2 uu3 uu4 uu5 uu6 uu7 uu8 uu9 uu10 uu11 uu12 uu13 uu14 uu15) (x70000 : Int32) (x70001 : Int32) (x70002 : Int32) (x70003 : Int32) (x70004 : Int32) (x70005 : Int32) (x70006 : Int32) (x70007 : Int32) (x70008 : Int32) (x70009 : Int32) (p0 : Addr) (c0 : ClassId) (x61100 : Int32) (H : Hs p l e room_1 s m as' below meth c Z a0 ELs True x.cls n0 code maxLocals ret x.name T h0 1 1 []) (re_x61100 : ¬ x61100 < 0 ∧ ¬ 255 < x61100) (fA11 : Arv Z h0 p0 c0 .char 1 [(.int x61100)] (.int 0)) :
    Go p e below (FinP s below Z ELs True n0 room_1.cells room_1.slots (fun v h so => v = some (.int 1))) (T.setTop (mkF m 122 #[.val (.int x70000), .val (.int x70001), .val (.int x70002), .val (.int x70003), .val (.int x70004), .val (.int x70005), .val (.int x70006), .val (.int x70007), .val (.int x70008), .val (.int x70009), .unset, .val (.ref p0)] [])) := by
  refine G.new H (wd6 V) (wd7 V) (wd8 V) at_122 (pc' := 125) rfl (by decide) (by decide) ?_
  intro T1 h1_ a2 ga2 H1 E3 A4 D5
  have na2 := H.nle ga2
  refine G.dup H1 at_125 (pc' := 126) rfl rfl ?_
  refine G.aload H1 at_126 (pc' := 128) rfl rfl rfl ?_
  have F6 := (Arv.ext fA11 E3)
  have F7 : Fld Z h1_ a2 "java/lang/String" "value" "[B" .null := D5 (Or.inr (wd34 V)) (ty := (.array .byte)) (by decide)
  have F8 : Fld Z h1_ a2 "java/lang/String" "coder" "B" (.int 0) := D5 (Or.inr (wd32 V)) (ty := .byte) (by decide)
  refine G.newStr H1 (strw V) (wd7 V) (wd9 V) (wd10 V) (cs := [x61100]) (n := 1) na2 A4 F7 F8 F6 (hv24 V) (hv25 V) rfl rfl (by decide) (by decide) (cbS re_x61100 cb0) (Sf.mem (mG (i := 0) rfl)) (rest := [(.ref a2)]) (W := 1) rfl rfl at_128 (pc' := 131) rfl (by decide) (by decide) (by decide) (by decide) ?_
  intro T9 h9_ t10 k11 g14 H9 K12 S13
  have nt10 : n0 ≤ t10 := Nat.le_trans H1.le g14
  refine G.astore H9 (L' := #[.val (.int x70000), .val (.int x70001), .val (.int x70002), .val (.int x70003), .val (.int x70004), .val (.int x70005), .val (.int x70006), .val (.int x70007), .val (.int x70008), .val (.int x70009), .val (.ref a2), .val (.ref p0)]) at_131 (pc' := 133) rfl rfl rfl ?_
  refine G.aload H9 at_133 (pc' := 135) rfl rfl rfl ?_
  refine G.callS H9 (m48_named V a2 t10 k11 x61100 h9_ H9.old S13) (wd35 V) (wd36 V) (wd37 V) (wd38 V) (by decide) (argsL := [(.ref a2)]) (rest := []) (W := 0) rfl rfl (lenOf (pd_2) rfl) rfl rfl at_135 (pc' := 138) rfl (by decide) (by decide) (by decide) (by decide) all0 ?_
  intro T15 h15_ v16 s17 H15 Q18
  obtain ⟨rfl, rfl, K19⟩ := Q18
  show Go p e below _ (T15.setTop (mkF m 138 #[.val (.int x70000), .val (.int x70001), .val (.int x70002), .val (.int x70003), .val (.int x70004), .val (.int x70005), .val (.int x70006), .val (.int x70007), .val (.int x70008), .val (.int x70009), .val (.ref a2), .val (.ref p0)] [.null]))
  refine G.astore H15 (L' := #[.val (.int x70000), .val (.int x70001), .val (.int x70002), .val (.int x70003), .val (.int x70004), .val (.int x70005), .val (.int x70006), .val (.int x70007), .val (.int x70008), .val (.int x70009), .val (.ref a2), .val .null]) at_138 (pc' := 140) rfl rfl rfl ?_
  refine G.aload H15 at_140 (pc' := 142) rfl rfl rfl ?_
  refine G.aload H15 at_142 (pc' := 144) rfl rfl rfl ?_
  have F20 := (Str.keep S13 K19 nin0 nin0)
  refine G.callS H15 (m49_expected V a2 t10 k11 x61100 h15_ H15.old F20) (wd69 V) (wd70 V) (wd3 V) (wd71 V) (by decide) (argsL := [(.ref a2)]) (rest := [.null]) (W := 1) rfl rfl (lenOf (pd_2) rfl) rfl rfl at_144 (pc' := 147) rfl (by decide) (by decide) (by decide) (by decide) (allS (mG (i := 1) rfl) (allS (mG (i := 0) rfl) all0)) ?_
  intro T21 h21_ v22 s23 H21 Q24
  obtain ⟨rfl, rfl, K25⟩ := Q24
  show Go p e below _ (T21.setTop (mkF m 147 #[.val (.int x70000), .val (.int x70001), .val (.int x70002), .val (.int x70003), .val (.int x70004), .val (.int x70005), .val (.int x70006), .val (.int x70007), .val (.int x70008), .val (.int x70009), .val (.ref a2), .val .null] [.null, .null]))
  refine G.acmpNo H21 at_147 (pc' := 150) rfl rfl rfl (XT.aa_ne_f rfl) ?_
  refine G.iconst H21 at_150 (pc' := 151) rfl (v := 1) rfl ?_
  refine G.goto H21 at_151 (by decide) (pc' := 155) rfl ?_
  exact G.retN H21 (t := .boolean) rfl (by decide) at_155 (so := []) all0 (by decide) (by decide) rfl
set_option maxRecDepth 65536 in
set_option maxHeartbeats 40000000 in
theorem m51_drawn (V : Env1 Z a0 n0 uu0 uu1 uu2 uu3 uu4 uu5 uu6 uu7 uu8 uu9 uu10 uu11 uu12 uu13 uu14 uu15) (x0 : Int32) (h0 : Heap) (hO : Old Z n0 h0)  :
    Met Z a0 ELs True n0 l (⟨"bindery/server/stomp/AckModeNamedPinLaw", "drawn", "(II)[C"⟩ : MethodName) method_4_code 3 (Option.some (FieldType.array FieldType.char)) ({ frames := 0, cells := 1, slots := 2, locals := 0 } : Room) #[(.int 2), (.int x0)] h0 [] (fun v h so => (∃ a2 : Addr, ∃ k5 : ClassId, v = some (.ref a2) ∧ so = [] ∧ Keep h0 h [] ∧ h0.size ≤ a2 ∧ Arv Z h a2 k5 .char 2 [(.int (x0 &&& 255)), (.int ((XT.ushr x0 8) &&& 255))] (.int 0) ∧ Exa Z h a2 "[C")) := by
  refine Met.of (EWl V) (by first | decide +kernel | rfl) hO (L0 := #[.val (.int 2), .val (.int x0), .unset]) rfl ?_
  intro p e s m below meth c T H
  show Go p e below _ (T.setTop (mkF m 0 #[.val (.int 2), .val (.int x0), .unset] []))
  refine G.iloadN H D4_0 (pc' := 1) rfl rfl ?_
  refine G.newP H (aty := .char) (wd5 V) D4_1 (pc' := 3) rfl (by decide) (cap := 2) (by decide) (by decide) (by decide) (by decide) (vs := [(.int 0), (.int 0)]) rfl (ad := "[C") rfl ?_
  intro T1 h1_ a2 k5 ga2 H1 E3 A4 X6
  have na2 := H.nle ga2
  replace A4 : Arv Z h1_ a2 k5 .char 2 [(.int 0), (.int 0)] (.int 0) := A4
  refine G.astoreN H1 (L' := #[.val (.int 2), .val (.int x0), .val (.ref a2)]) D4_3 (pc' := 4) rfl rfl rfl ?_
  refine G.iloadN H1 D4_4 (pc' := 5) rfl rfl ?_
  refine G.ifNo H1 D4_5 (pc' := 8) rfl (by decide) ?_
  refine G.aloadN H1 D4_8 (pc' := 9) rfl rfl rfl ?_
  refine G.iconst H1 D4_9 (pc' := 10) rfl (v := 0) rfl ?_
  refine G.iloadN H1 D4_10 (pc' := 11) rfl rfl ?_
  refine G.sipush H1 D4_11 (pc' := 14) rfl (v := 255) rfl ?_
  refine G.iand H1 D4_14 (pc' := 15) rfl ?_
  refine G.i2c H1 (y := (x0 &&& 255)) D4_15 (pc' := 16) rfl (own_c16 (own_u16 (own_and255 _))) ?_
  refine G.stC H1 A4 (by decide) (i := 0) rfl lB na2 (y := (x0 &&& 255)) (own_narC (own_u16 (own_and255 _))) D4_16 (pc' := 17) rfl ?_
  intro T7 h7_ H7 W8 A9
  replace A9 : Arv Z h7_ a2 k5 .char 2 [(.int (x0 &&& 255)), (.int 0)] (.int 0) := A9
  refine G.iloadN H7 D4_17 (pc' := 18) rfl rfl ?_
  refine G.iconst H7 D4_18 (pc' := 19) rfl (v := 1) rfl ?_
  refine G.icmpNo H7 D4_19 (pc' := 22) rfl (by decide) ?_
  refine G.aloadN H7 D4_22 (pc' := 23) rfl rfl rfl ?_
  refine G.iconst H7 D4_23 (pc' := 24) rfl (v := 1) rfl ?_
  refine G.iloadN H7 D4_24 (pc' := 25) rfl rfl ?_
  refine G.bipush H7 D4_25 (pc' := 27) rfl (v := 8) rfl ?_
  refine G.iushr H7 D4_27 (pc' := 28) rfl ?_
  refine G.sipush H7 D4_28 (pc' := 31) rfl (v := 255) rfl ?_
  refine G.iand H7 D4_31 (pc' := 32) rfl ?_
  refine G.i2c H7 (y := ((XT.ushr x0 8) &&& 255)) D4_32 (pc' := 33) rfl (own_c16 (own_u16 (own_and255 _))) ?_
  refine G.stC H7 A9 (by decide) (i := 1) rfl lB na2 (y := ((XT.ushr x0 8) &&& 255)) (own_narC (own_u16 (own_and255 _))) D4_33 (pc' := 34) rfl ?_
  intro T10 h10_ H10 W11 A12
  replace A12 : Arv Z h10_ a2 k5 .char 2 [(.int (x0 &&& 255)), (.int ((XT.ushr x0 8) &&& 255))] (.int 0) := A12
  refine G.iloadN H10 D4_34 (pc' := 35) rfl rfl ?_
  refine G.iconst H10 D4_35 (pc' := 36) rfl (v := 2) rfl ?_
  refine G.icmpYes H10 D4_36 (by decide) (by decide) (pc' := 51) rfl ?_
  refine G.iloadN H10 D4_51 (pc' := 52) rfl rfl ?_
  refine G.iconst H10 D4_52 (pc' := 53) rfl (v := 3) rfl ?_
  refine G.icmpYes H10 D4_53 (by decide) (by decide) (pc' := 68) rfl ?_
  refine G.aloadN H10 D4_68 (pc' := 69) rfl rfl rfl ?_
  have K13 : Keep h1_ h10_ [a2] := (Keep.wr (Keep.wr (Keep.refl h1_ [a2]) W8 (Or.inl (mG (i := 0) rfl))) W11 (Or.inl (mG (i := 0) rfl)))
  have F14 := (Exa.keep X6 K13)
  have K15 : Keep h0 h10_ [] := (Keep.wr (Keep.wr (Keep.ext (Keep.refl h0 []) E3) W8 (Or.inr (Nat.le_of_eq ga2.symm))) W11 (Or.inr (Nat.le_of_eq ga2.symm)))
  exact G.retA H10 (t := (.array .char)) rfl rfl rfl D4_69 (so := []) all0 (by decide) (by decide) ⟨a2, k5, rfl, rfl, K15, (Nat.le_of_eq ga2.symm), A12, F14⟩
set_option maxRecDepth 65536 in
set_option maxHeartbeats 40000000 in
theorem m52_named (V : Env1 Z a0 n0 uu0 uu1 uu2 uu3 uu4 uu5 uu6 uu7 uu8 uu9 uu10 uu11 uu12 uu13 uu14 uu15) (p0 : Addr) (p1 : Addr) (c0 : ClassId) (x0 : Int32) (x1 : Int32) (h0 : Heap) (hO : Old Z n0 h0) (f0 : Str Z h0 p0 p1 c0 [x0, x1]) :
    Met Z a0 ELs True n0 l (⟨"bindery/server/stomp/StompConnection$AckMode", "named", "(Ljava/lang/String;)Lbindery/server/stomp/StompConnection$AckMode;"⟩ : MethodName) prog_93_method_4_code 5 (Option.some (FieldType.object "bindery/server/stomp/StompConnection$AckMode")) ({ frames := 2, cells := 1, slots := 3, locals := 28 } : Room) #[(.ref p0)] h0 [] (fun v h so => (v = some .null ∧ so = [] ∧ Keep h0 h [])) := by
  refine Met.of (EWl V) (by first | decide +kernel | rfl) hO (L0 := #[.val (.ref p0), .unset, .unset, .unset, .unset]) rfl ?_
  intro p e s m below meth c T H
  show Go p e below _ (T.setTop (mkF m 0 #[.val (.ref p0), .unset, .unset, .unset, .unset] []))
  refine G.callS H (m2_values V h0 H.old) (wd39 V) (wd40 V) (wd37 V) (wd41 V) (by decide) (argsL := []) (rest := []) (W := 0) rfl rfl (lenOf (pd_1) rfl) rfl rfl D7_0 (pc' := 3) rfl (by decide) (by decide) (by decide) (by decide) all0 ?_
  intro T1 h1_ v2 s3 H1 Q4
  obtain ⟨a5, k6, rfl, rfl, K7, g8, F9, F10⟩ := Q4
  have na5 : n0 ≤ a5 := Nat.le_trans H.le g8
  show Go p e below _ (T1.setTop (mkF m 3 #[.val (.ref p0), .unset, .unset, .unset, .unset] [(.ref a5)]))
  refine G.astoreN H1 (L' := #[.val (.ref p0), .val (.ref a5), .unset, .unset, .unset]) D7_3 (pc' := 4) rfl rfl rfl ?_
  refine G.aloadN H1 D7_4 (pc' := 5) rfl rfl rfl ?_
  refine G.arrlen H1 F9 D7_5 (pc' := 6) rfl ?_
  refine G.istoreN H1 (L' := #[.val (.ref p0), .val (.ref a5), .val (.int 3), .unset, .unset]) D7_6 (pc' := 7) rfl rfl ?_
  refine G.iconst H1 D7_7 (pc' := 8) rfl (v := 0) rfl ?_
  refine G.istoreN H1 (L' := #[.val (.ref p0), .val (.ref a5), .val (.int 3), .val (.int 0), .unset]) D7_8 (pc' := 9) rfl rfl ?_
  refine G.iloadN H1 D7_9 (pc' := 10) rfl rfl ?_
  refine G.iloadN H1 D7_10 (pc' := 11) rfl rfl ?_
  refine G.icmpNo H1 D7_11 (pc' := 14) rfl (by decide) ?_
  refine G.aloadN H1 D7_14 (pc' := 15) rfl rfl rfl ?_
  refine G.iloadN H1 D7_15 (pc' := 16) rfl rfl ?_
  refine G.aaloadG H1 F9 rfl (j := 0) (v := (.ref uu1)) (by decide) rfl D7_16 (pc' := 17) rfl ?_
  refine G.astore H1 (L' := #[.val (.ref p0), .val (.ref a5), .val (.int 3), .val (.int 0), .val (.ref uu1)]) D7_17 (pc' := 19) rfl rfl rfl ?_
  refine G.aload H1 D7_19 (pc' := 21) rfl rfl rfl ?_
  have B11 := Fld.ext H1.old.2 (hv12 V)
  refine G.getF H1 (wd57 V) Via.refl B11 D7_21 (pc' := 24) rfl ?_
  intro T12 H13
  refine G.aloadN H13 D7_24 (pc' := 25) rfl rfl rfl ?_
  have B14 := Str.ext H13.old.2 (hv30 V)
  have F15 := (Str.keep f0 K7 nin0 nin0)
  refine G.strEq H13 (strwEq V) (wd7 V) (wd59 V) (wd60 V) (wd62 V) (wd61 V) B14 F15 (hv24 V) (hv25 V) (rest := []) (W := 0) rfl rfl D7_25 (pc' := 28) rfl (by decide) (by decide) (by decide) (by decide) ?_ ?_
  ·
    intro T16 H17 c18
    exact absurd c18 (by intro qq; simp at qq)
  ·
    intro T19 H20 c21
    refine G.ifYes H20 D7_28 (by decide) (by decide) (pc' := 34) rfl ?_
    refine G.iinc H20 (v := 1) (L' := #[.val (.ref p0), .val (.ref a5), .val (.int 3), .val (.int 1), .val (.ref uu1)]) D7_34 (pc' := 37) rfl rfl rfl rfl ?_
    refine G.goto H20 D7_37 (by decide) (pc' := 9) rfl ?_
    show Go p e below _ (T19.setTop (mkF m 9 #[.val (.ref p0), .val (.ref a5), .val (.int 3), .val (.int 1), .val (.ref uu1)] []))
    refine G.iloadN H20 D7_9 (pc' := 10) rfl rfl ?_
    refine G.iloadN H20 D7_10 (pc' := 11) rfl rfl ?_
    refine G.icmpNo H20 D7_11 (pc' := 14) rfl (by decide) ?_
    refine G.aloadN H20 D7_14 (pc' := 15) rfl rfl rfl ?_
    refine G.iloadN H20 D7_15 (pc' := 16) rfl rfl ?_
    refine G.aaloadG H20 F9 rfl (j := 1) (v := (.ref uu2)) (by decide) rfl D7_16 (pc' := 17) rfl ?_
    refine G.astore H20 (L' := #[.val (.ref p0), .val (.ref a5), .val (.int 3), .val (.int 1), .val (.ref uu2)]) D7_17 (pc' := 19) rfl rfl rfl ?_
    refine G.aload H20 D7_19 (pc' := 21) rfl rfl rfl ?_
    have B22 := Fld.ext H20.old.2 (hv10 V)
    refine G.getF H20 (wd57 V) Via.refl B22 D7_21 (pc' := 24) rfl ?_
    intro T23 H24
    refine G.aloadN H24 D7_24 (pc' := 25) rfl rfl rfl ?_
    have B25 := Str.ext H24.old.2 (hv29 V)
    refine G.strEq H24 (strwEq V) (wd7 V) (wd59 V) (wd60 V) (wd62 V) (wd61 V) B25 F15 (hv24 V) (hv25 V) (rest := []) (W := 0) rfl rfl D7_25 (pc' := 28) rfl (by decide) (by decide) (by decide) (by decide) ?_ ?_
    ·
      intro T26 H27 c28
      exact absurd c28 (by intro qq; simp at qq)
    ·
      intro T29 H30 c31
      refine G.ifYes H30 D7_28 (by decide) (by decide) (pc' := 34) rfl ?_
      refine G.iinc H30 (v := 2) (L' := #[.val (.ref p0), .val (.ref a5), .val (.int 3), .val (.int 2), .val (.ref uu2)]) D7_34 (pc' := 37) rfl rfl rfl rfl ?_
      refine G.goto H30 D7_37 (by decide) (pc' := 9) rfl ?_
      show Go p e below _ (T29.setTop (mkF m 9 #[.val (.ref p0), .val (.ref a5), .val (.int 3), .val (.int 2), .val (.ref uu2)] []))
      refine G.iloadN H30 D7_9 (pc' := 10) rfl rfl ?_
      refine G.iloadN H30 D7_10 (pc' := 11) rfl rfl ?_
      refine G.icmpNo H30 D7_11 (pc' := 14) rfl (by decide) ?_
      refine G.aloadN H30 D7_14 (pc' := 15) rfl rfl rfl ?_
      refine G.iloadN H30 D7_15 (pc' := 16) rfl rfl ?_
      refine G.aaloadG H30 F9 rfl (j := 2) (v := (.ref uu3)) (by decide) rfl D7_16 (pc' := 17) rfl ?_
      refine G.astore H30 (L' := #[.val (.ref p0), .val (.ref a5), .val (.int 3), .val (.int 2), .val (.ref uu3)]) D7_17 (pc' := 19) rfl rfl rfl ?_
      refine G.aload H30 D7_19 (pc' := 21) rfl rfl rfl ?_
      have B32 := Fld.ext H30.old.2 (hv8 V)
      refine G.getF H30 (wd57 V) Via.refl B32 D7_21 (pc' := 24) rfl ?_
      intro T33 H34
      refine G.aloadN H34 D7_24 (pc' := 25) rfl rfl rfl ?_
      have B35 := Str.ext H34.old.2 (hv28 V)
      refine G.strEq H34 (strwEq V) (wd7 V) (wd59 V) (wd60 V) (wd62 V) (wd61 V) B35 F15 (hv24 V) (hv25 V) (rest := []) (W := 0) rfl rfl D7_25 (pc' := 28) rfl (by decide) (by decide) (by decide) (by decide) ?_ ?_
      ·
        intro T36 H37 c38
        exact absurd c38 (by intro qq; simp at qq)
      ·
        intro T39 H40 c41
        refine G.ifYes H40 D7_28 (by decide) (by decide) (pc' := 34) rfl ?_
        refine G.iinc H40 (v := 3) (L' := #[.val (.ref p0), .val (.ref a5), .val (.int 3), .val (.int 3), .val (.ref uu3)]) D7_34 (pc' := 37) rfl rfl rfl rfl ?_
        refine G.goto H40 D7_37 (by decide) (pc' := 9) rfl ?_
        show Go p e below _ (T39.setTop (mkF m 9 #[.val (.ref p0), .val (.ref a5), .val (.int 3), .val (.int 3), .val (.ref uu3)] []))
        refine G.iloadN H40 D7_9 (pc' := 10) rfl rfl ?_
        refine G.iloadN H40 D7_10 (pc' := 11) rfl rfl ?_
        refine G.icmpYes H40 D7_11 (by decide) (by decide) (pc' := 40) rfl ?_
        refine G.aconstNull H40 D7_40 (pc' := 41) rfl ?_
        have K42 : Keep h0 h1_ [] := (Keep.trans (Keep.refl h0 []) K7 all0)
        exact G.retA H40 (t := (.object "bindery/server/stomp/StompConnection$AckMode")) rfl rfl rfl D7_41 (so := []) all0 (by decide) (by decide) ⟨rfl, rfl, K42⟩
set_option maxRecDepth 65536 in
set_option maxHeartbeats 40000000 in
theorem m53_expected (V : Env1 Z a0 n0 uu0 uu1 uu2 uu3 uu4 uu5 uu6 uu7 uu8 uu9 uu10 uu11 uu12 uu13 uu14 uu15) (p0 : Addr) (p1 : Addr) (c0 : ClassId) (x0 : Int32) (x1 : Int32) (h0 : Heap) (hO : Old Z n0 h0) (f0 : Str Z h0 p0 p1 c0 [x0, x1]) :
    Met Z a0 ELs True n0 l (⟨"bindery/server/stomp/AckModeNamedPinLaw", "expected", "(Ljava/lang/String;)Lbindery/server/stomp/StompConnection$AckMode;"⟩ : MethodName) method_3_code 1 (Option.some (FieldType.object "bindery/server/stomp/StompConnection$AckMode")) ({ frames := 2, cells := 6, slots := 120, locals := 28 } : Room) #[(.ref p0)] h0 [p0, p1] (fun v h so => (v = some .null ∧ so = [] ∧ Keep h0 h [])) := by
  refine Met.of (EWl V) (by first | decide +kernel | rfl) hO (L0 := #[.val (.ref p0)]) rfl ?_
  intro p e s m below meth c T H
  show Go p e below _ (T.setTop (mkF m 0 #[.val (.ref p0)] []))
  refine G.aloadN H D3_0 (pc' := 1) rfl rfl rfl ?_
  refine G.ifnonnullYes H D3_1 (by decide) (pc' := 6) rfl ?_
  refine G.aloadN H D3_6 (pc' := 7) rfl rfl rfl ?_
  refine G.ldcS H trivial (wS V) (wd72 V) (by decide) (vs := [(.int 97), (.int 117), (.int 116), (.int 111)]) (z := 4) (by decide) (by decide) rfl (n := 16) (by decide) (by decide) (by decide) (by decide) D3_7 (pc' := 9) rfl ?_
  intro T1 h1_ a2 b4 k5 H1 E3 X6 F7 F8 A9 Q10
  have S11 : Str Z h1_ a2 b4 k5 [97, 117, 116, 111] := ⟨X6, F7, F8, A9, by decide, by decide⟩
  have F12 := (Str.ext E3 f0)
  refine G.strEq H1 (strwEq V) (wd7 V) (wd75 V) (wd60 V) (wd62 V) (wd61 V) F12 S11 (hv24 V) (hv25 V) (rest := []) (W := 0) rfl rfl D3_9 (pc' := 12) rfl (by decide) (by decide) (by decide) (by decide) ?_ ?_
  ·
    intro T13 H14 c15
    exact absurd c15 (by intro qq; simp at qq)
  ·
    intro T16 H17 c18
    refine G.ifYes H17 D3_12 (by decide) (by decide) (pc' := 19) rfl ?_
    refine G.aloadN H17 D3_19 (pc' := 20) rfl rfl rfl ?_
    refine G.ldcS H17 trivial (wS V) (wd80 V) (by decide) (vs := [(.int 99), (.int 108), (.int 105), (.int 101), (.int 110), (.int 116)]) (z := 6) (by decide) (by decide) rfl (n := 24) (by decide) (by decide) (by decide) (by decide) D3_20 (pc' := 22) rfl ?_
    intro T19 h19_ a20 b22 k23 H19 E21 X24 F25 F26 A27 Q28
    have S29 : Str Z h19_ a20 b22 k23 [99, 108, 105, 101, 110, 116] := ⟨X24, F25, F26, A27, by decide, by decide⟩
    have F30 := (Str.ext E21 F12)
    refine G.strEq H19 (strwEq V) (wd7 V) (wd75 V) (wd60 V) (wd62 V) (wd61 V) F30 S29 (hv24 V) (hv25 V) (rest := []) (W := 0) rfl rfl D3_22 (pc' := 25) rfl (by decide) (by decide) (by decide) (by decide) ?_ ?_
    ·
      intro T31 H32 c33
      exact absurd c33 (by intro qq; simp at qq)
    ·
      intro T34 H35 c36
      refine G.ifYes H35 D3_25 (by decide) (by decide) (pc' := 32) rfl ?_
      refine G.aloadN H35 D3_32 (pc' := 33) rfl rfl rfl ?_
      refine G.ldcS H35 trivial (wS V) (wd81 V) (by decide) (vs := [(.int 99), (.int 108), (.int 105), (.int 101), (.int 110), (.int 116), (.int 45), (.int 105), (.int 110), (.int 100), (.int 105), (.int 118), (.int 105), (.int 100), (.int 117), (.int 97), (.int 108)]) (z := 17) (by decide) (by decide) rfl (n := 68) (by decide) (by decide) (by decide) (by decide) D3_33 (pc' := 35) rfl ?_
      intro T37 h37_ a38 b40 k41 H37 E39 X42 F43 F44 A45 Q46
      have S47 : Str Z h37_ a38 b40 k41 [99, 108, 105, 101, 110, 116, 45, 105, 110, 100, 105, 118, 105, 100, 117, 97, 108] := ⟨X42, F43, F44, A45, by decide, by decide⟩
      have F48 := (Str.ext E39 F30)
      refine G.strEq H37 (strwEq V) (wd7 V) (wd75 V) (wd60 V) (wd62 V) (wd61 V) F48 S47 (hv24 V) (hv25 V) (rest := []) (W := 0) rfl rfl D3_35 (pc' := 38) rfl (by decide) (by decide) (by decide) (by decide) ?_ ?_
      ·
        intro T49 H50 c51
        exact absurd c51 (by intro qq; simp at qq)
      ·
        intro T52 H53 c54
        refine G.ifYes H53 D3_38 (by decide) (by decide) (pc' := 45) rfl ?_
        refine G.aconstNull H53 D3_45 (pc' := 46) rfl ?_
        have K55 : Keep h0 h37_ [] := (Keep.ext (Keep.ext (Keep.ext (Keep.refl h0 []) E3) E21) E39)
        exact G.retA H53 (t := (.object "bindery/server/stomp/StompConnection$AckMode")) rfl rfl rfl D3_46 (so := []) all0 (by decide) (by decide) ⟨rfl, rfl, K55⟩
set_option maxRecDepth 65536 in
set_option maxHeartbeats 40000000 in
theorem cut54_122 (V : Env1 Z a0 n0 uu0 uu1 uu2 uu3 uu4 uu5 uu6 uu7 uu8 uu9 uu10 uu11 uu12 uu13 uu14 uu15) (x70000 : Int32) (x70001 : Int32) (x70002 : Int32) (x70003 : Int32) (x70004 : Int32) (x70005 : Int32) (x70006 : Int32) (x70007 : Int32) (x70008 : Int32) (x70009 : Int32) (p0 : Addr) (c0 : ClassId) (x61100 : Int32) (x61101 : Int32) (H : Hs p l e room_1 s m as' below meth c Z a0 ELs True x.cls n0 code maxLocals ret x.name T h0 1 2 []) (re_x61100 : ¬ x61100 < 0 ∧ ¬ 255 < x61100) (re_x61101 : ¬ x61101 < 0 ∧ ¬ 255 < x61101) (fA11 : Arv Z h0 p0 c0 .char 2 [(.int x61100), (.int x61101)] (.int 0)) :
    Go p e below (FinP s below Z ELs True n0 room_1.cells room_1.slots (fun v h so => v = some (.int 1))) (T.setTop (mkF m 122 #[.val (.int x70000), .val (.int x70001), .val (.int x70002), .val (.int x70003), .val (.int x70004), .val (.int x70005), .val (.int x70006), .val (.int x70007), .val (.int x70008), .val (.int x70009), .unset, .val (.ref p0)] [])) := by
  refine G.new H (wd6 V) (wd7 V) (wd8 V) at_122 (pc' := 125) rfl (by decide) (by decide) ?_
  intro T1 h1_ a2 ga2 H1 E3 A4 D5
  have na2 := H.nle ga2
  refine G.dup H1 at_125 (pc' := 126) rfl rfl ?_
  refine G.aload H1 at_126 (pc' := 128) rfl rfl rfl ?_
  have F6 := (Arv.ext fA11 E3)
  have F7 : Fld Z h1_ a2 "java/lang/String" "value" "[B" .null := D5 (Or.inr (wd34 V)) (ty := (.array .byte)) (by decide)
  have F8 : Fld Z h1_ a2 "java/lang/String" "coder" "B" (.int 0) := D5 (Or.inr (wd32 V)) (ty := .byte) (by decide)
  refine G.newStr H1 (strw V) (wd7 V) (wd9 V) (wd10 V) (cs := [x61100, x61101]) (n := 2) na2 A4 F7 F8 F6 (hv24 V) (hv25 V) rfl rfl (by decide) (by decide) (cbS re_x61100 (cbS re_x61101 cb0)) (Sf.mem (mG (i := 0) rfl)) (rest := [(.ref a2)]) (W := 1) rfl rfl at_128 (pc' := 131) rfl (by decide) (by decide) (by decide) (by decide) ?_
  intro T9 h9_ t10 k11 g14 H9 K12 S13
  have nt10 : n0 ≤ t10 := Nat.le_trans H1.le g14
  refine G.astore H9 (L' := #[.val (.int x70000), .val (.int x70001), .val (.int x70002), .val (.int x70003), .val (.int x70004), .val (.int x70005), .val (.int x70006), .val (.int x70007), .val (.int x70008), .val (.int x70009), .val (.ref a2), .val (.ref p0)]) at_131 (pc' := 133) rfl rfl rfl ?_
  refine G.aload H9 at_133 (pc' := 135) rfl rfl rfl ?_
  refine G.callS H9 (m52_named V a2 t10 k11 x61100 x61101 h9_ H9.old S13) (wd35 V) (wd36 V) (wd37 V) (wd38 V) (by decide) (argsL := [(.ref a2)]) (rest := []) (W := 0) rfl rfl (lenOf (pd_2) rfl) rfl rfl at_135 (pc' := 138) rfl (by decide) (by decide) (by decide) (by decide) all0 ?_
  intro T15 h15_ v16 s17 H15 Q18
  obtain ⟨rfl, rfl, K19⟩ := Q18
  show Go p e below _ (T15.setTop (mkF m 138 #[.val (.int x70000), .val (.int x70001), .val (.int x70002), .val (.int x70003), .val (.int x70004), .val (.int x70005), .val (.int x70006), .val (.int x70007), .val (.int x70008), .val (.int x70009), .val (.ref a2), .val (.ref p0)] [.null]))
  refine G.astore H15 (L' := #[.val (.int x70000), .val (.int x70001), .val (.int x70002), .val (.int x70003), .val (.int x70004), .val (.int x70005), .val (.int x70006), .val (.int x70007), .val (.int x70008), .val (.int x70009), .val (.ref a2), .val .null]) at_138 (pc' := 140) rfl rfl rfl ?_
  refine G.aload H15 at_140 (pc' := 142) rfl rfl rfl ?_
  refine G.aload H15 at_142 (pc' := 144) rfl rfl rfl ?_
  have F20 := (Str.keep S13 K19 nin0 nin0)
  refine G.callS H15 (m53_expected V a2 t10 k11 x61100 x61101 h15_ H15.old F20) (wd69 V) (wd70 V) (wd3 V) (wd71 V) (by decide) (argsL := [(.ref a2)]) (rest := [.null]) (W := 1) rfl rfl (lenOf (pd_2) rfl) rfl rfl at_144 (pc' := 147) rfl (by decide) (by decide) (by decide) (by decide) (allS (mG (i := 1) rfl) (allS (mG (i := 0) rfl) all0)) ?_
  intro T21 h21_ v22 s23 H21 Q24
  obtain ⟨rfl, rfl, K25⟩ := Q24
  show Go p e below _ (T21.setTop (mkF m 147 #[.val (.int x70000), .val (.int x70001), .val (.int x70002), .val (.int x70003), .val (.int x70004), .val (.int x70005), .val (.int x70006), .val (.int x70007), .val (.int x70008), .val (.int x70009), .val (.ref a2), .val .null] [.null, .null]))
  refine G.acmpNo H21 at_147 (pc' := 150) rfl rfl rfl (XT.aa_ne_f rfl) ?_
  refine G.iconst H21 at_150 (pc' := 151) rfl (v := 1) rfl ?_
  refine G.goto H21 at_151 (by decide) (pc' := 155) rfl ?_
  exact G.retN H21 (t := .boolean) rfl (by decide) at_155 (so := []) all0 (by decide) (by decide) rfl
set_option maxRecDepth 65536 in
set_option maxHeartbeats 40000000 in
theorem m55_drawn (V : Env1 Z a0 n0 uu0 uu1 uu2 uu3 uu4 uu5 uu6 uu7 uu8 uu9 uu10 uu11 uu12 uu13 uu14 uu15) (x0 : Int32) (h0 : Heap) (hO : Old Z n0 h0)  :
    Met Z a0 ELs True n0 l (⟨"bindery/server/stomp/AckModeNamedPinLaw", "drawn", "(II)[C"⟩ : MethodName) method_4_code 3 (Option.some (FieldType.array FieldType.char)) ({ frames := 0, cells := 1, slots := 3, locals := 0 } : Room) #[(.int 3), (.int x0)] h0 [] (fun v h so => (∃ a2 : Addr, ∃ k5 : ClassId, v = some (.ref a2) ∧ so = [] ∧ Keep h0 h [] ∧ h0.size ≤ a2 ∧ Arv Z h a2 k5 .char 3 [(.int (x0 &&& 255)), (.int ((XT.ushr x0 8) &&& 255)), (.int ((XT.ushr x0 16) &&& 255))] (.int 0) ∧ Exa Z h a2 "[C")) := by
  refine Met.of (EWl V) (by first | decide +kernel | rfl) hO (L0 := #[.val (.int 3), .val (.int x0), .unset]) rfl ?_
  intro p e s m below meth c T H
  show Go p e below _ (T.setTop (mkF m 0 #[.val (.int 3), .val (.int x0), .unset] []))
  refine G.iloadN H D4_0 (pc' := 1) rfl rfl ?_
  refine G.newP H (aty := .char) (wd5 V) D4_1 (pc' := 3) rfl (by decide) (cap := 3) (by decide) (by decide) (by decide) (by decide) (vs := [(.int 0), (.int 0), (.int 0)]) rfl (ad := "[C") rfl ?_
  intro T1 h1_ a2 k5 ga2 H1 E3 A4 X6
  have na2 := H.nle ga2
  replace A4 : Arv Z h1_ a2 k5 .char 3 [(.int 0), (.int 0), (.int 0)] (.int 0) := A4
  refine G.astoreN H1 (L' := #[.val (.int 3), .val (.int x0), .val (.ref a2)]) D4_3 (pc' := 4) rfl rfl rfl ?_
  refine G.iloadN H1 D4_4 (pc' := 5) rfl rfl ?_
  refine G.ifNo H1 D4_5 (pc' := 8) rfl (by decide) ?_
  refine G.aloadN H1 D4_8 (pc' := 9) rfl rfl rfl ?_
  refine G.iconst H1 D4_9 (pc' := 10) rfl (v := 0) rfl ?_
  refine G.iloadN H1 D4_10 (pc' := 11) rfl rfl ?_
  refine G.sipush H1 D4_11 (pc' := 14) rfl (v := 255) rfl ?_
  refine G.iand H1 D4_14 (pc' := 15) rfl ?_
  refine G.i2c H1 (y := (x0 &&& 255)) D4_15 (pc' := 16) rfl (own_c16 (own_u16 (own_and255 _))) ?_
  refine G.stC H1 A4 (by decide) (i := 0) rfl lB na2 (y := (x0 &&& 255)) (own_narC (own_u16 (own_and255 _))) D4_16 (pc' := 17) rfl ?_
  intro T7 h7_ H7 W8 A9
  replace A9 : Arv Z h7_ a2 k5 .char 3 [(.int (x0 &&& 255)), (.int 0), (.int 0)] (.int 0) := A9
  refine G.iloadN H7 D4_17 (pc' := 18) rfl rfl ?_
  refine G.iconst H7 D4_18 (pc' := 19) rfl (v := 1) rfl ?_
  refine G.icmpNo H7 D4_19 (pc' := 22) rfl (by decide) ?_
  refine G.aloadN H7 D4_22 (pc' := 23) rfl rfl rfl ?_
  refine G.iconst H7 D4_23 (pc' := 24) rfl (v := 1) rfl ?_
  refine G.iloadN H7 D4_24 (pc' := 25) rfl rfl ?_
  refine G.bipush H7 D4_25 (pc' := 27) rfl (v := 8) rfl ?_
  refine G.iushr H7 D4_27 (pc' := 28) rfl ?_
  refine G.sipush H7 D4_28 (pc' := 31) rfl (v := 255) rfl ?_
  refine G.iand H7 D4_31 (pc' := 32) rfl ?_
  refine G.i2c H7 (y := ((XT.ushr x0 8) &&& 255)) D4_32 (pc' := 33) rfl (own_c16 (own_u16 (own_and255 _))) ?_
  refine G.stC H7 A9 (by decide) (i := 1) rfl lB na2 (y := ((XT.ushr x0 8) &&& 255)) (own_narC (own_u16 (own_and255 _))) D4_33 (pc' := 34) rfl ?_
  intro T10 h10_ H10 W11 A12
  replace A12 : Arv Z h10_ a2 k5 .char 3 [(.int (x0 &&& 255)), (.int ((XT.ushr x0 8) &&& 255)), (.int 0)] (.int 0) := A12
  refine G.iloadN H10 D4_34 (pc' := 35) rfl rfl ?_
  refine G.iconst H10 D4_35 (pc' := 36) rfl (v := 2) rfl ?_
  refine G.icmpNo H10 D4_36 (pc' := 39) rfl (by decide) ?_
  refine G.aloadN H10 D4_39 (pc' := 40) rfl rfl rfl ?_
  refine G.iconst H10 D4_40 (pc' := 41) rfl (v := 2) rfl ?_
  refine G.iloadN H10 D4_41 (pc' := 42) rfl rfl ?_
  refine G.bipush H10 D4_42 (pc' := 44) rfl (v := 16) rfl ?_
  refine G.iushr H10 D4_44 (pc' := 45) rfl ?_
  refine G.sipush H10 D4_45 (pc' := 48) rfl (v := 255) rfl ?_
  refine G.iand H10 D4_48 (pc' := 49) rfl ?_
  refine G.i2c H10 (y := ((XT.ushr x0 16) &&& 255)) D4_49 (pc' := 50) rfl (own_c16 (own_u16 (own_and255 _))) ?_
  refine G.stC H10 A12 (by decide) (i := 2) rfl lB na2 (y := ((XT.ushr x0 16) &&& 255)) (own_narC (own_u16 (own_and255 _))) D4_50 (pc' := 51) rfl ?_
  intro T13 h13_ H13 W14 A15
  replace A15 : Arv Z h13_ a2 k5 .char 3 [(.int (x0 &&& 255)), (.int ((XT.ushr x0 8) &&& 255)), (.int ((XT.ushr x0 16) &&& 255))] (.int 0) := A15
  refine G.iloadN H13 D4_51 (pc' := 52) rfl rfl ?_
  refine G.iconst H13 D4_52 (pc' := 53) rfl (v := 3) rfl ?_
  refine G.icmpYes H13 D4_53 (by decide) (by decide) (pc' := 68) rfl ?_
  refine G.aloadN H13 D4_68 (pc' := 69) rfl rfl rfl ?_
  have K16 : Keep h1_ h13_ [a2] := (Keep.wr (Keep.wr (Keep.wr (Keep.refl h1_ [a2]) W8 (Or.inl (mG (i := 0) rfl))) W11 (Or.inl (mG (i := 0) rfl))) W14 (Or.inl (mG (i := 0) rfl)))
  have F17 := (Exa.keep X6 K16)
  have K18 : Keep h0 h13_ [] := (Keep.wr (Keep.wr (Keep.wr (Keep.ext (Keep.refl h0 []) E3) W8 (Or.inr (Nat.le_of_eq ga2.symm))) W11 (Or.inr (Nat.le_of_eq ga2.symm))) W14 (Or.inr (Nat.le_of_eq ga2.symm)))
  exact G.retA H13 (t := (.array .char)) rfl rfl rfl D4_69 (so := []) all0 (by decide) (by decide) ⟨a2, k5, rfl, rfl, K18, (Nat.le_of_eq ga2.symm), A15, F17⟩
set_option maxRecDepth 65536 in
set_option maxHeartbeats 40000000 in
theorem m56_drawn (V : Env1 Z a0 n0 uu0 uu1 uu2 uu3 uu4 uu5 uu6 uu7 uu8 uu9 uu10 uu11 uu12 uu13 uu14 uu15) (x0 : Int32) (h0 : Heap) (hO : Old Z n0 h0)  :
    Met Z a0 ELs True n0 l (⟨"bindery/server/stomp/AckModeNamedPinLaw", "drawn", "(II)[C"⟩ : MethodName) method_4_code 3 (Option.some (FieldType.array FieldType.char)) ({ frames := 0, cells := 1, slots := 4, locals := 0 } : Room) #[(.int 4), (.int x0)] h0 [] (fun v h so => (∃ a2 : Addr, ∃ k5 : ClassId, v = some (.ref a2) ∧ so = [] ∧ Keep h0 h [] ∧ h0.size ≤ a2 ∧ Arv Z h a2 k5 .char 4 [(.int (x0 &&& 255)), (.int ((XT.ushr x0 8) &&& 255)), (.int ((XT.ushr x0 16) &&& 255)), (.int ((XT.ushr x0 24) &&& 255))] (.int 0) ∧ Exa Z h a2 "[C")) := by
  refine Met.of (EWl V) (by first | decide +kernel | rfl) hO (L0 := #[.val (.int 4), .val (.int x0), .unset]) rfl ?_
  intro p e s m below meth c T H
  show Go p e below _ (T.setTop (mkF m 0 #[.val (.int 4), .val (.int x0), .unset] []))
  refine G.iloadN H D4_0 (pc' := 1) rfl rfl ?_
  refine G.newP H (aty := .char) (wd5 V) D4_1 (pc' := 3) rfl (by decide) (cap := 4) (by decide) (by decide) (by decide) (by decide) (vs := [(.int 0), (.int 0), (.int 0), (.int 0)]) rfl (ad := "[C") rfl ?_
  intro T1 h1_ a2 k5 ga2 H1 E3 A4 X6
  have na2 := H.nle ga2
  replace A4 : Arv Z h1_ a2 k5 .char 4 [(.int 0), (.int 0), (.int 0), (.int 0)] (.int 0) := A4
  refine G.astoreN H1 (L' := #[.val (.int 4), .val (.int x0), .val (.ref a2)]) D4_3 (pc' := 4) rfl rfl rfl ?_
  refine G.iloadN H1 D4_4 (pc' := 5) rfl rfl ?_
  refine G.ifNo H1 D4_5 (pc' := 8) rfl (by decide) ?_
  refine G.aloadN H1 D4_8 (pc' := 9) rfl rfl rfl ?_
  refine G.iconst H1 D4_9 (pc' := 10) rfl (v := 0) rfl ?_
  refine G.iloadN H1 D4_10 (pc' := 11) rfl rfl ?_
  refine G.sipush H1 D4_11 (pc' := 14) rfl (v := 255) rfl ?_
  refine G.iand H1 D4_14 (pc' := 15) rfl ?_
  refine G.i2c H1 (y := (x0 &&& 255)) D4_15 (pc' := 16) rfl (own_c16 (own_u16 (own_and255 _))) ?_
  refine G.stC H1 A4 (by decide) (i := 0) rfl lB na2 (y := (x0 &&& 255)) (own_narC (own_u16 (own_and255 _))) D4_16 (pc' := 17) rfl ?_
  intro T7 h7_ H7 W8 A9
  replace A9 : Arv Z h7_ a2 k5 .char 4 [(.int (x0 &&& 255)), (.int 0), (.int 0), (.int 0)] (.int 0) := A9
  refine G.iloadN H7 D4_17 (pc' := 18) rfl rfl ?_
  refine G.iconst H7 D4_18 (pc' := 19) rfl (v := 1) rfl ?_
  refine G.icmpNo H7 D4_19 (pc' := 22) rfl (by decide) ?_
  refine G.aloadN H7 D4_22 (pc' := 23) rfl rfl rfl ?_
  refine G.iconst H7 D4_23 (pc' := 24) rfl (v := 1) rfl ?_
  refine G.iloadN H7 D4_24 (pc' := 25) rfl rfl ?_
  refine G.bipush H7 D4_25 (pc' := 27) rfl (v := 8) rfl ?_
  refine G.iushr H7 D4_27 (pc' := 28) rfl ?_
  refine G.sipush H7 D4_28 (pc' := 31) rfl (v := 255) rfl ?_
  refine G.iand H7 D4_31 (pc' := 32) rfl ?_
  refine G.i2c H7 (y := ((XT.ushr x0 8) &&& 255)) D4_32 (pc' := 33) rfl (own_c16 (own_u16 (own_and255 _))) ?_
  refine G.stC H7 A9 (by decide) (i := 1) rfl lB na2 (y := ((XT.ushr x0 8) &&& 255)) (own_narC (own_u16 (own_and255 _))) D4_33 (pc' := 34) rfl ?_
  intro T10 h10_ H10 W11 A12
  replace A12 : Arv Z h10_ a2 k5 .char 4 [(.int (x0 &&& 255)), (.int ((XT.ushr x0 8) &&& 255)), (.int 0), (.int 0)] (.int 0) := A12
  refine G.iloadN H10 D4_34 (pc' := 35) rfl rfl ?_
  refine G.iconst H10 D4_35 (pc' := 36) rfl (v := 2) rfl ?_
  refine G.icmpNo H10 D4_36 (pc' := 39) rfl (by decide) ?_
  refine G.aloadN H10 D4_39 (pc' := 40) rfl rfl rfl ?_
  refine G.iconst H10 D4_40 (pc' := 41) rfl (v := 2) rfl ?_
  refine G.iloadN H10 D4_41 (pc' := 42) rfl rfl ?_
  refine G.bipush H10 D4_42 (pc' := 44) rfl (v := 16) rfl ?_
  refine G.iushr H10 D4_44 (pc' := 45) rfl ?_
  refine G.sipush H10 D4_45 (pc' := 48) rfl (v := 255) rfl ?_
  refine G.iand H10 D4_48 (pc' := 49) rfl ?_
  refine G.i2c H10 (y := ((XT.ushr x0 16) &&& 255)) D4_49 (pc' := 50) rfl (own_c16 (own_u16 (own_and255 _))) ?_
  refine G.stC H10 A12 (by decide) (i := 2) rfl lB na2 (y := ((XT.ushr x0 16) &&& 255)) (own_narC (own_u16 (own_and255 _))) D4_50 (pc' := 51) rfl ?_
  intro T13 h13_ H13 W14 A15
  replace A15 : Arv Z h13_ a2 k5 .char 4 [(.int (x0 &&& 255)), (.int ((XT.ushr x0 8) &&& 255)), (.int ((XT.ushr x0 16) &&& 255)), (.int 0)] (.int 0) := A15
  refine G.iloadN H13 D4_51 (pc' := 52) rfl rfl ?_
  refine G.iconst H13 D4_52 (pc' := 53) rfl (v := 3) rfl ?_
  refine G.icmpNo H13 D4_53 (pc' := 56) rfl (by decide) ?_
  refine G.aloadN H13 D4_56 (pc' := 57) rfl rfl rfl ?_
  refine G.iconst H13 D4_57 (pc' := 58) rfl (v := 3) rfl ?_
  refine G.iloadN H13 D4_58 (pc' := 59) rfl rfl ?_
  refine G.bipush H13 D4_59 (pc' := 61) rfl (v := 24) rfl ?_
  refine G.iushr H13 D4_61 (pc' := 62) rfl ?_
  refine G.sipush H13 D4_62 (pc' := 65) rfl (v := 255) rfl ?_
  refine G.iand H13 D4_65 (pc' := 66) rfl ?_
  refine G.i2c H13 (y := ((XT.ushr x0 24) &&& 255)) D4_66 (pc' := 67) rfl (own_c16 (own_u16 (own_and255 _))) ?_
  refine G.stC H13 A15 (by decide) (i := 3) rfl lB na2 (y := ((XT.ushr x0 24) &&& 255)) (own_narC (own_u16 (own_and255 _))) D4_67 (pc' := 68) rfl ?_
  intro T16 h16_ H16 W17 A18
  replace A18 : Arv Z h16_ a2 k5 .char 4 [(.int (x0 &&& 255)), (.int ((XT.ushr x0 8) &&& 255)), (.int ((XT.ushr x0 16) &&& 255)), (.int ((XT.ushr x0 24) &&& 255))] (.int 0) := A18
  refine G.aloadN H16 D4_68 (pc' := 69) rfl rfl rfl ?_
  have K19 : Keep h1_ h16_ [a2] := (Keep.wr (Keep.wr (Keep.wr (Keep.wr (Keep.refl h1_ [a2]) W8 (Or.inl (mG (i := 0) rfl))) W11 (Or.inl (mG (i := 0) rfl))) W14 (Or.inl (mG (i := 0) rfl))) W17 (Or.inl (mG (i := 0) rfl)))
  have F20 := (Exa.keep X6 K19)
  have K21 : Keep h0 h16_ [] := (Keep.wr (Keep.wr (Keep.wr (Keep.wr (Keep.ext (Keep.refl h0 []) E3) W8 (Or.inr (Nat.le_of_eq ga2.symm))) W11 (Or.inr (Nat.le_of_eq ga2.symm))) W14 (Or.inr (Nat.le_of_eq ga2.symm))) W17 (Or.inr (Nat.le_of_eq ga2.symm)))
  exact G.retA H16 (t := (.array .char)) rfl rfl rfl D4_69 (so := []) all0 (by decide) (by decide) ⟨a2, k5, rfl, rfl, K21, (Nat.le_of_eq ga2.symm), A18, F20⟩
set_option maxRecDepth 65536 in
set_option maxHeartbeats 40000000 in
theorem cut57_80 (V : Env1 Z a0 n0 uu0 uu1 uu2 uu3 uu4 uu5 uu6 uu7 uu8 uu9 uu10 uu11 uu12 uu13 uu14 uu15) (x90080 : Int32) (x0 : Int32) (x1 : Int32) (x2 : Int32) (x3 : Int32) (x4 : Int32) (x800340 : Int32) (H : Hs p l e room_1 s m as' below meth c Z a0 ELs True x.cls n0 code maxLocals ret x.name T h0 0 0 []) (sp : x90080 = 0 ∨ x90080 = 1 ∨ x90080 = 2 ∨ x90080 = 3 ∨ x90080 = 4) (cc1 : x800340 = 0) :
    Go p e below (FinP s below Z ELs True n0 room_1.cells room_1.slots (fun v h so => v = some (.int 1))) (T.setTop (mkF m 80 #[.val (.int x0), .val (.int x1), .val (.int x2), .val (.int x3), .val (.int x4), .val (.int 3), .val (.int (((XT.ushr x0 8) &&& 255) % 3)), .val (.int x800340), .val (.int (x2 &&& 255)), .val (.int ((XT.ushr x2 8) &&& 255)), .unset, .unset] [(.int x90080)])) := by
  rcases sp with rfl | rfl | rfl | rfl | rfl
  ·
    refine G.iloadN H at_80 (pc' := 81) rfl rfl ?_
    refine G.callS H (m41_drawn V x3 h0 H.old) (wd77 V) (wd78 V) (wd3 V) (wd79 V) (by decide) (argsL := [(.int 0), (.int x3)]) (rest := []) (W := 0) rfl rfl (lenOf (pd_3) rfl) rfl rfl at_81 (pc' := 84) rfl (by decide) (by decide) (by decide) (by decide) all0 ?_
    intro T1 h1_ v2 s3 H1 Q4
    obtain ⟨a5, k6, rfl, rfl, K7, g8, F9, F10⟩ := Q4
    have na5 : n0 ≤ a5 := Nat.le_trans H.le g8
    show Go p e below _ (T1.setTop (mkF m 84 #[.val (.int x0), .val (.int x1), .val (.int x2), .val (.int x3), .val (.int x4), .val (.int 3), .val (.int (((XT.ushr x0 8) &&& 255) % 3)), .val (.int x800340), .val (.int (x2 &&& 255)), .val (.int ((XT.ushr x2 8) &&& 255)), .unset, .unset] [(.ref a5)]))
    refine G.goto H1 at_84 (by decide) (pc' := 96) rfl ?_
    refine G.astore H1 (L' := #[.val (.int x0), .val (.int x1), .val (.int x2), .val (.int x3), .val (.int x4), .val (.int 3), .val (.int (((XT.ushr x0 8) &&& 255) % 3)), .val (.int x800340), .val (.int (x2 &&& 255)), .val (.int ((XT.ushr x2 8) &&& 255)), .unset, .val (.ref a5)]) at_96 (pc' := 98) rfl rfl rfl ?_
    refine G.iload H1 at_98 (pc' := 100) rfl rfl ?_
    refine G.ifYes H1 at_100 (XT.i0_eq_t cc1) (by decide) (pc' := 122) rfl ?_
    exact cut46_122 V x0 x1 x2 x3 x4 3 (((XT.ushr x0 8) &&& 255) % 3) x800340 (x2 &&& 255) ((XT.ushr x2 8) &&& 255) a5 k6 ((H1.less all0).mono (C' := 1) (S' := 0) (by decide) (by decide)) F9
  ·
    refine G.iloadN H at_80 (pc' := 81) rfl rfl ?_
    refine G.callS H (m47_drawn V x3 h0 H.old) (wd77 V) (wd78 V) (wd3 V) (wd79 V) (by decide) (argsL := [(.int 1), (.int x3)]) (rest := []) (W := 0) rfl rfl (lenOf (pd_3) rfl) rfl rfl at_81 (pc' := 84) rfl (by decide) (by decide) (by decide) (by decide) all0 ?_
    intro T11 h11_ v12 s13 H11 Q14
    obtain ⟨a15, k16, rfl, rfl, K17, g18, F19, F20⟩ := Q14
    have na15 : n0 ≤ a15 := Nat.le_trans H.le g18
    show Go p e below _ (T11.setTop (mkF m 84 #[.val (.int x0), .val (.int x1), .val (.int x2), .val (.int x3), .val (.int x4), .val (.int 3), .val (.int (((XT.ushr x0 8) &&& 255) % 3)), .val (.int x800340), .val (.int (x2 &&& 255)), .val (.int ((XT.ushr x2 8) &&& 255)), .unset, .unset] [(.ref a15)]))
    refine G.goto H11 at_84 (by decide) (pc' := 96) rfl ?_
    refine G.astore H11 (L' := #[.val (.int x0), .val (.int x1), .val (.int x2), .val (.int x3), .val (.int x4), .val (.int 3), .val (.int (((XT.ushr x0 8) &&& 255) % 3)), .val (.int x800340), .val (.int (x2 &&& 255)), .val (.int ((XT.ushr x2 8) &&& 255)), .unset, .val (.ref a15)]) at_96 (pc' := 98) rfl rfl rfl ?_
    refine G.iload H11 at_98 (pc' := 100) rfl rfl ?_
    refine G.ifYes H11 at_100 (XT.i0_eq_t cc1) (by decide) (pc' := 122) rfl ?_
    exact cut50_122 V x0 x1 x2 x3 x4 3 (((XT.ushr x0 8) &&& 255) % 3) x800340 (x2 &&& 255) ((XT.ushr x2 8) &&& 255) a15 k16 (x3 &&& 255) ((H11.less all0).mono (C' := 1) (S' := 1) (by decide) (by decide)) (own_and255 _) F19
  ·
    refine G.iloadN H at_80 (pc' := 81) rfl rfl ?_
    refine G.callS H (m51_drawn V x3 h0 H.old) (wd77 V) (wd78 V) (wd3 V) (wd79 V) (by decide) (argsL := [(.int 2), (.int x3)]) (rest := []) (W := 0) rfl rfl (lenOf (pd_3) rfl) rfl rfl at_81 (pc' := 84) rfl (by decide) (by decide) (by decide) (by decide) all0 ?_
    intro T21 h21_ v22 s23 H21 Q24
    obtain ⟨a25, k26, rfl, rfl, K27, g28, F29, F30⟩ := Q24
    have na25 : n0 ≤ a25 := Nat.le_trans H.le g28
    show Go p e below _ (T21.setTop (mkF m 84 #[.val (.int x0), .val (.int x1), .val (.int x2), .val (.int x3), .val (.int x4), .val (.int 3), .val (.int (((XT.ushr x0 8) &&& 255) % 3)), .val (.int x800340), .val (.int (x2 &&& 255)), .val (.int ((XT.ushr x2 8) &&& 255)), .unset, .unset] [(.ref a25)]))
    refine G.goto H21 at_84 (by decide) (pc' := 96) rfl ?_
    refine G.astore H21 (L' := #[.val (.int x0), .val (.int x1), .val (.int x2), .val (.int x3), .val (.int x4), .val (.int 3), .val (.int (((XT.ushr x0 8) &&& 255) % 3)), .val (.int x800340), .val (.int (x2 &&& 255)), .val (.int ((XT.ushr x2 8) &&& 255)), .unset, .val (.ref a25)]) at_96 (pc' := 98) rfl rfl rfl ?_
    refine G.iload H21 at_98 (pc' := 100) rfl rfl ?_
    refine G.ifYes H21 at_100 (XT.i0_eq_t cc1) (by decide) (pc' := 122) rfl ?_
    exact cut54_122 V x0 x1 x2 x3 x4 3 (((XT.ushr x0 8) &&& 255) % 3) x800340 (x2 &&& 255) ((XT.ushr x2 8) &&& 255) a25 k26 (x3 &&& 255) ((XT.ushr x3 8) &&& 255) ((H21.less all0).mono (C' := 1) (S' := 2) (by decide) (by decide)) (own_and255 _) (own_and255 _) F29
  ·
    refine G.iloadN H at_80 (pc' := 81) rfl rfl ?_
    refine G.callS H (m55_drawn V x3 h0 H.old) (wd77 V) (wd78 V) (wd3 V) (wd79 V) (by decide) (argsL := [(.int 3), (.int x3)]) (rest := []) (W := 0) rfl rfl (lenOf (pd_3) rfl) rfl rfl at_81 (pc' := 84) rfl (by decide) (by decide) (by decide) (by decide) all0 ?_
    intro T31 h31_ v32 s33 H31 Q34
    obtain ⟨a35, k36, rfl, rfl, K37, g38, F39, F40⟩ := Q34
    have na35 : n0 ≤ a35 := Nat.le_trans H.le g38
    show Go p e below _ (T31.setTop (mkF m 84 #[.val (.int x0), .val (.int x1), .val (.int x2), .val (.int x3), .val (.int x4), .val (.int 3), .val (.int (((XT.ushr x0 8) &&& 255) % 3)), .val (.int x800340), .val (.int (x2 &&& 255)), .val (.int ((XT.ushr x2 8) &&& 255)), .unset, .unset] [(.ref a35)]))
    refine G.goto H31 at_84 (by decide) (pc' := 96) rfl ?_
    refine G.astore H31 (L' := #[.val (.int x0), .val (.int x1), .val (.int x2), .val (.int x3), .val (.int x4), .val (.int 3), .val (.int (((XT.ushr x0 8) &&& 255) % 3)), .val (.int x800340), .val (.int (x2 &&& 255)), .val (.int ((XT.ushr x2 8) &&& 255)), .unset, .val (.ref a35)]) at_96 (pc' := 98) rfl rfl rfl ?_
    refine G.iload H31 at_98 (pc' := 100) rfl rfl ?_
    refine G.ifYes H31 at_100 (XT.i0_eq_t cc1) (by decide) (pc' := 122) rfl ?_
    exact cut14_122 V x0 x1 x2 x3 x4 3 (((XT.ushr x0 8) &&& 255) % 3) x800340 (x2 &&& 255) ((XT.ushr x2 8) &&& 255) a35 k36 (x3 &&& 255) ((XT.ushr x3 8) &&& 255) ((XT.ushr x3 16) &&& 255) ((H31.less all0).mono (C' := 1) (S' := 3) (by decide) (by decide)) (own_and255 _) (own_and255 _) (own_and255 _) F39
  ·
    refine G.iloadN H at_80 (pc' := 81) rfl rfl ?_
    refine G.callS H (m56_drawn V x3 h0 H.old) (wd77 V) (wd78 V) (wd3 V) (wd79 V) (by decide) (argsL := [(.int 4), (.int x3)]) (rest := []) (W := 0) rfl rfl (lenOf (pd_3) rfl) rfl rfl at_81 (pc' := 84) rfl (by decide) (by decide) (by decide) (by decide) all0 ?_
    intro T41 h41_ v42 s43 H41 Q44
    obtain ⟨a45, k46, rfl, rfl, K47, g48, F49, F50⟩ := Q44
    have na45 : n0 ≤ a45 := Nat.le_trans H.le g48
    show Go p e below _ (T41.setTop (mkF m 84 #[.val (.int x0), .val (.int x1), .val (.int x2), .val (.int x3), .val (.int x4), .val (.int 3), .val (.int (((XT.ushr x0 8) &&& 255) % 3)), .val (.int x800340), .val (.int (x2 &&& 255)), .val (.int ((XT.ushr x2 8) &&& 255)), .unset, .unset] [(.ref a45)]))
    refine G.goto H41 at_84 (by decide) (pc' := 96) rfl ?_
    refine G.astore H41 (L' := #[.val (.int x0), .val (.int x1), .val (.int x2), .val (.int x3), .val (.int x4), .val (.int 3), .val (.int (((XT.ushr x0 8) &&& 255) % 3)), .val (.int x800340), .val (.int (x2 &&& 255)), .val (.int ((XT.ushr x2 8) &&& 255)), .unset, .val (.ref a45)]) at_96 (pc' := 98) rfl rfl rfl ?_
    refine G.iload H41 at_98 (pc' := 100) rfl rfl ?_
    refine G.ifYes H41 at_100 (XT.i0_eq_t cc1) (by decide) (pc' := 122) rfl ?_
    exact cut6_122 V x0 x1 x2 x3 x4 3 (((XT.ushr x0 8) &&& 255) % 3) x800340 (x2 &&& 255) ((XT.ushr x2 8) &&& 255) a45 k46 (x3 &&& 255) ((XT.ushr x3 8) &&& 255) ((XT.ushr x3 16) &&& 255) ((XT.ushr x3 24) &&& 255) ((H41.less all0).mono (C' := 1) (S' := 4) (by decide) (by decide)) (own_and255 _) (own_and255 _) (own_and255 _) (own_and255 _) F49
set_option maxRecDepth 65536 in
set_option maxHeartbeats 40000000 in
theorem m58_equals (V : Env1 Z a0 n0 uu0 uu1 uu2 uu3 uu4 uu5 uu6 uu7 uu8 uu9 uu10 uu11 uu12 uu13 uu14 uu15)  (h0 : Heap) (hO : Old Z n0 h0)  :
    Met Z a0 ELs True n0 l (⟨"java/lang/String", "equals", "(Ljava/lang/Object;)Z"⟩ : MethodName) jdk_42_method_66_code 3 (Option.some FieldType.boolean) ({ frames := 0, cells := 0, slots := 0, locals := 0 } : Room) #[(.ref uu6), .null] h0 [] (fun v h so => (v = some (.int 0) ∧ so = [] ∧ h0 = h)) := by
  refine Met.of (EWl V) (by first | decide +kernel | rfl) hO (L0 := #[.val (.ref uu6), .val .null, .unset]) rfl ?_
  intro p e s m below meth c T H
  show Go p e below _ (T.setTop (mkF m 0 #[.val (.ref uu6), .val .null, .unset] []))
  refine G.aloadN H D2_0 (pc' := 1) rfl rfl rfl ?_
  refine G.aloadN H D2_1 (pc' := 2) rfl rfl rfl ?_
  refine G.acmpYes H D2_2 rfl rfl (XT.aa_ne_t (fun q => nomatch q)) (by decide) (pc' := 7) rfl ?_
  refine G.aloadN H D2_7 (pc' := 8) rfl rfl rfl ?_
  refine G.instN H D2_8 (pc' := 11) rfl ?_
  refine G.ifYes H D2_11 (by decide) (by decide) (pc' := 54) rfl ?_
  refine G.iconst H D2_54 (pc' := 55) rfl (v := 0) rfl ?_
  exact G.retN H (t := .boolean) rfl (by decide) D2_55 (so := []) all0 (by decide) (by decide) ⟨rfl, rfl, rfl⟩
set_option maxRecDepth 65536 in
set_option maxHeartbeats 40000000 in
theorem m59_equals (V : Env1 Z a0 n0 uu0 uu1 uu2 uu3 uu4 uu5 uu6 uu7 uu8 uu9 uu10 uu11 uu12 uu13 uu14 uu15)  (h0 : Heap) (hO : Old Z n0 h0)  :
    Met Z a0 ELs True n0 l (⟨"java/lang/String", "equals", "(Ljava/lang/Object;)Z"⟩ : MethodName) jdk_42_method_66_code 3 (Option.some FieldType.boolean) ({ frames := 0, cells := 0, slots := 0, locals := 0 } : Room) #[(.ref uu5), .null] h0 [] (fun v h so => (v = some (.int 0) ∧ so = [] ∧ h0 = h)) := by
  refine Met.of (EWl V) (by first | decide +kernel | rfl) hO (L0 := #[.val (.ref uu5), .val .null, .unset]) rfl ?_
  intro p e s m below meth c T H
  show Go p e below _ (T.setTop (mkF m 0 #[.val (.ref uu5), .val .null, .unset] []))
  refine G.aloadN H D2_0 (pc' := 1) rfl rfl rfl ?_
  refine G.aloadN H D2_1 (pc' := 2) rfl rfl rfl ?_
  refine G.acmpYes H D2_2 rfl rfl (XT.aa_ne_t (fun q => nomatch q)) (by decide) (pc' := 7) rfl ?_
  refine G.aloadN H D2_7 (pc' := 8) rfl rfl rfl ?_
  refine G.instN H D2_8 (pc' := 11) rfl ?_
  refine G.ifYes H D2_11 (by decide) (by decide) (pc' := 54) rfl ?_
  refine G.iconst H D2_54 (pc' := 55) rfl (v := 0) rfl ?_
  exact G.retN H (t := .boolean) rfl (by decide) D2_55 (so := []) all0 (by decide) (by decide) ⟨rfl, rfl, rfl⟩
set_option maxRecDepth 65536 in
set_option maxHeartbeats 40000000 in
theorem m60_equals (V : Env1 Z a0 n0 uu0 uu1 uu2 uu3 uu4 uu5 uu6 uu7 uu8 uu9 uu10 uu11 uu12 uu13 uu14 uu15)  (h0 : Heap) (hO : Old Z n0 h0)  :
    Met Z a0 ELs True n0 l (⟨"java/lang/String", "equals", "(Ljava/lang/Object;)Z"⟩ : MethodName) jdk_42_method_66_code 3 (Option.some FieldType.boolean) ({ frames := 0, cells := 0, slots := 0, locals := 0 } : Room) #[(.ref uu4), .null] h0 [] (fun v h so => (v = some (.int 0) ∧ so = [] ∧ h0 = h)) := by
  refine Met.of (EWl V) (by first | decide +kernel | rfl) hO (L0 := #[.val (.ref uu4), .val .null, .unset]) rfl ?_
  intro p e s m below meth c T H
  show Go p e below _ (T.setTop (mkF m 0 #[.val (.ref uu4), .val .null, .unset] []))
  refine G.aloadN H D2_0 (pc' := 1) rfl rfl rfl ?_
  refine G.aloadN H D2_1 (pc' := 2) rfl rfl rfl ?_
  refine G.acmpYes H D2_2 rfl rfl (XT.aa_ne_t (fun q => nomatch q)) (by decide) (pc' := 7) rfl ?_
  refine G.aloadN H D2_7 (pc' := 8) rfl rfl rfl ?_
  refine G.instN H D2_8 (pc' := 11) rfl ?_
  refine G.ifYes H D2_11 (by decide) (by decide) (pc' := 54) rfl ?_
  refine G.iconst H D2_54 (pc' := 55) rfl (v := 0) rfl ?_
  exact G.retN H (t := .boolean) rfl (by decide) D2_55 (so := []) all0 (by decide) (by decide) ⟨rfl, rfl, rfl⟩
set_option maxRecDepth 65536 in
set_option maxHeartbeats 40000000 in
theorem m61_named (V : Env1 Z a0 n0 uu0 uu1 uu2 uu3 uu4 uu5 uu6 uu7 uu8 uu9 uu10 uu11 uu12 uu13 uu14 uu15)  (h0 : Heap) (hO : Old Z n0 h0)  :
    Met Z a0 ELs True n0 l (⟨"bindery/server/stomp/StompConnection$AckMode", "named", "(Ljava/lang/String;)Lbindery/server/stomp/StompConnection$AckMode;"⟩ : MethodName) prog_93_method_4_code 5 (Option.some (FieldType.object "bindery/server/stomp/StompConnection$AckMode")) ({ frames := 2, cells := 1, slots := 3, locals := 25 } : Room) #[.null] h0 [] (fun v h so => (v = some .null ∧ so = [] ∧ Keep h0 h [])) := by
  refine Met.of (EWl V) (by first | decide +kernel | rfl) hO (L0 := #[.val .null, .unset, .unset, .unset, .unset]) rfl ?_
  intro p e s m below meth c T H
  show Go p e below _ (T.setTop (mkF m 0 #[.val .null, .unset, .unset, .unset, .unset] []))
  refine G.callS H (m2_values V h0 H.old) (wd39 V) (wd40 V) (wd37 V) (wd41 V) (by decide) (argsL := []) (rest := []) (W := 0) rfl rfl (lenOf (pd_1) rfl) rfl rfl D7_0 (pc' := 3) rfl (by decide) (by decide) (by decide) (by decide) all0 ?_
  intro T1 h1_ v2 s3 H1 Q4
  obtain ⟨a5, k6, rfl, rfl, K7, g8, F9, F10⟩ := Q4
  have na5 : n0 ≤ a5 := Nat.le_trans H.le g8
  show Go p e below _ (T1.setTop (mkF m 3 #[.val .null, .unset, .unset, .unset, .unset] [(.ref a5)]))
  refine G.astoreN H1 (L' := #[.val .null, .val (.ref a5), .unset, .unset, .unset]) D7_3 (pc' := 4) rfl rfl rfl ?_
  refine G.aloadN H1 D7_4 (pc' := 5) rfl rfl rfl ?_
  refine G.arrlen H1 F9 D7_5 (pc' := 6) rfl ?_
  refine G.istoreN H1 (L' := #[.val .null, .val (.ref a5), .val (.int 3), .unset, .unset]) D7_6 (pc' := 7) rfl rfl ?_
  refine G.iconst H1 D7_7 (pc' := 8) rfl (v := 0) rfl ?_
  refine G.istoreN H1 (L' := #[.val .null, .val (.ref a5), .val (.int 3), .val (.int 0), .unset]) D7_8 (pc' := 9) rfl rfl ?_
  refine G.iloadN H1 D7_9 (pc' := 10) rfl rfl ?_
  refine G.iloadN H1 D7_10 (pc' := 11) rfl rfl ?_
  refine G.icmpNo H1 D7_11 (pc' := 14) rfl (by decide) ?_
  refine G.aloadN H1 D7_14 (pc' := 15) rfl rfl rfl ?_
  refine G.iloadN H1 D7_15 (pc' := 16) rfl rfl ?_
  refine G.aaloadG H1 F9 rfl (j := 0) (v := (.ref uu1)) (by decide) rfl D7_16 (pc' := 17) rfl ?_
  refine G.astore H1 (L' := #[.val .null, .val (.ref a5), .val (.int 3), .val (.int 0), .val (.ref uu1)]) D7_17 (pc' := 19) rfl rfl rfl ?_
  refine G.aload H1 D7_19 (pc' := 21) rfl rfl rfl ?_
  have B11 := Fld.ext H1.old.2 (hv12 V)
  refine G.getF H1 (wd57 V) Via.refl B11 D7_21 (pc' := 24) rfl ?_
  intro T12 H13
  refine G.aloadN H13 D7_24 (pc' := 25) rfl rfl rfl ?_
  have B18 := Exa.ext H13.old.2 (hv13 V)
  refine G.callV H13 (m58_equals V h1_ H13.old) (wd59 V) (wd60 V) (nf_sel (wd62 V)) (wd62 V) (wd61 V) (wd8 V) (wd63 V) (by decide) B18 (argsL := [.null]) (rest := []) (W := 0) rfl rfl (lenOf (pd_6) rfl) rfl rfl D7_25 (pc' := 28) rfl (by decide) (by decide) (by decide) (by decide) all0 ?_
  intro T14 h14_ v15 s16 H14 Q17
  obtain ⟨rfl, rfl, rfl⟩ := Q17
  show Go p e below _ (T14.setTop (mkF m 28 #[.val .null, .val (.ref a5), .val (.int 3), .val (.int 0), .val (.ref uu1)] [(.int 0)]))
  refine G.ifYes H14 D7_28 (by decide) (by decide) (pc' := 34) rfl ?_
  refine G.iinc H14 (v := 1) (L' := #[.val .null, .val (.ref a5), .val (.int 3), .val (.int 1), .val (.ref uu1)]) D7_34 (pc' := 37) rfl rfl rfl rfl ?_
  refine G.goto H14 D7_37 (by decide) (pc' := 9) rfl ?_
  show Go p e below _ (T14.setTop (mkF m 9 #[.val .null, .val (.ref a5), .val (.int 3), .val (.int 1), .val (.ref uu1)] []))
  refine G.iloadN H14 D7_9 (pc' := 10) rfl rfl ?_
  refine G.iloadN H14 D7_10 (pc' := 11) rfl rfl ?_
  refine G.icmpNo H14 D7_11 (pc' := 14) rfl (by decide) ?_
  refine G.aloadN H14 D7_14 (pc' := 15) rfl rfl rfl ?_
  refine G.iloadN H14 D7_15 (pc' := 16) rfl rfl ?_
  refine G.aaloadG H14 F9 rfl (j := 1) (v := (.ref uu2)) (by decide) rfl D7_16 (pc' := 17) rfl ?_
  refine G.astore H14 (L' := #[.val .null, .val (.ref a5), .val (.int 3), .val (.int 1), .val (.ref uu2)]) D7_17 (pc' := 19) rfl rfl rfl ?_
  refine G.aload H14 D7_19 (pc' := 21) rfl rfl rfl ?_
  have B19 := Fld.ext H14.old.2 (hv10 V)
  refine G.getF H14 (wd57 V) Via.refl B19 D7_21 (pc' := 24) rfl ?_
  intro T20 H21
  refine G.aloadN H21 D7_24 (pc' := 25) rfl rfl rfl ?_
  have B26 := Exa.ext H21.old.2 (hv11 V)
  refine G.callV H21 (m59_equals V h1_ H21.old) (wd59 V) (wd60 V) (nf_sel (wd62 V)) (wd62 V) (wd61 V) (wd8 V) (wd63 V) (by decide) B26 (argsL := [.null]) (rest := []) (W := 0) rfl rfl (lenOf (pd_6) rfl) rfl rfl D7_25 (pc' := 28) rfl (by decide) (by decide) (by decide) (by decide) all0 ?_
  intro T22 h22_ v23 s24 H22 Q25
  obtain ⟨rfl, rfl, rfl⟩ := Q25
  show Go p e below _ (T22.setTop (mkF m 28 #[.val .null, .val (.ref a5), .val (.int 3), .val (.int 1), .val (.ref uu2)] [(.int 0)]))
  refine G.ifYes H22 D7_28 (by decide) (by decide) (pc' := 34) rfl ?_
  refine G.iinc H22 (v := 2) (L' := #[.val .null, .val (.ref a5), .val (.int 3), .val (.int 2), .val (.ref uu2)]) D7_34 (pc' := 37) rfl rfl rfl rfl ?_
  refine G.goto H22 D7_37 (by decide) (pc' := 9) rfl ?_
  show Go p e below _ (T22.setTop (mkF m 9 #[.val .null, .val (.ref a5), .val (.int 3), .val (.int 2), .val (.ref uu2)] []))
  refine G.iloadN H22 D7_9 (pc' := 10) rfl rfl ?_
  refine G.iloadN H22 D7_10 (pc' := 11) rfl rfl ?_
  refine G.icmpNo H22 D7_11 (pc' := 14) rfl (by decide) ?_
  refine G.aloadN H22 D7_14 (pc' := 15) rfl rfl rfl ?_
  refine G.iloadN H22 D7_15 (pc' := 16) rfl rfl ?_
  refine G.aaloadG H22 F9 rfl (j := 2) (v := (.ref uu3)) (by decide) rfl D7_16 (pc' := 17) rfl ?_
  refine G.astore H22 (L' := #[.val .null, .val (.ref a5), .val (.int 3), .val (.int 2), .val (.ref uu3)]) D7_17 (pc' := 19) rfl rfl rfl ?_
  refine G.aload H22 D7_19 (pc' := 21) rfl rfl rfl ?_
  have B27 := Fld.ext H22.old.2 (hv8 V)
  refine G.getF H22 (wd57 V) Via.refl B27 D7_21 (pc' := 24) rfl ?_
  intro T28 H29
  refine G.aloadN H29 D7_24 (pc' := 25) rfl rfl rfl ?_
  have B34 := Exa.ext H29.old.2 (hv9 V)
  refine G.callV H29 (m60_equals V h1_ H29.old) (wd59 V) (wd60 V) (nf_sel (wd62 V)) (wd62 V) (wd61 V) (wd8 V) (wd63 V) (by decide) B34 (argsL := [.null]) (rest := []) (W := 0) rfl rfl (lenOf (pd_6) rfl) rfl rfl D7_25 (pc' := 28) rfl (by decide) (by decide) (by decide) (by decide) all0 ?_
  intro T30 h30_ v31 s32 H30 Q33
  obtain ⟨rfl, rfl, rfl⟩ := Q33
  show Go p e below _ (T30.setTop (mkF m 28 #[.val .null, .val (.ref a5), .val (.int 3), .val (.int 2), .val (.ref uu3)] [(.int 0)]))
  refine G.ifYes H30 D7_28 (by decide) (by decide) (pc' := 34) rfl ?_
  refine G.iinc H30 (v := 3) (L' := #[.val .null, .val (.ref a5), .val (.int 3), .val (.int 3), .val (.ref uu3)]) D7_34 (pc' := 37) rfl rfl rfl rfl ?_
  refine G.goto H30 D7_37 (by decide) (pc' := 9) rfl ?_
  show Go p e below _ (T30.setTop (mkF m 9 #[.val .null, .val (.ref a5), .val (.int 3), .val (.int 3), .val (.ref uu3)] []))
  refine G.iloadN H30 D7_9 (pc' := 10) rfl rfl ?_
  refine G.iloadN H30 D7_10 (pc' := 11) rfl rfl ?_
  refine G.icmpYes H30 D7_11 (by decide) (by decide) (pc' := 40) rfl ?_
  refine G.aconstNull H30 D7_40 (pc' := 41) rfl ?_
  have K35 : Keep h0 h1_ [] := (Keep.trans (Keep.refl h0 []) K7 all0)
  exact G.retA H30 (t := (.object "bindery/server/stomp/StompConnection$AckMode")) rfl rfl rfl D7_41 (so := []) all0 (by decide) (by decide) ⟨rfl, rfl, K35⟩
set_option maxRecDepth 65536 in
set_option maxHeartbeats 40000000 in
theorem m62_expected (V : Env1 Z a0 n0 uu0 uu1 uu2 uu3 uu4 uu5 uu6 uu7 uu8 uu9 uu10 uu11 uu12 uu13 uu14 uu15)  (h0 : Heap) (hO : Old Z n0 h0)  :
    Met Z a0 ELs True n0 l (⟨"bindery/server/stomp/AckModeNamedPinLaw", "expected", "(Ljava/lang/String;)Lbindery/server/stomp/StompConnection$AckMode;"⟩ : MethodName) method_3_code 1 (Option.some (FieldType.object "bindery/server/stomp/StompConnection$AckMode")) ({ frames := 0, cells := 0, slots := 0, locals := 0 } : Room) #[.null] h0 [] (fun v h so => (v = some .null ∧ so = [] ∧ h0 = h)) := by
  refine Met.of (EWl V) (by first | decide +kernel | rfl) hO (L0 := #[.val .null]) rfl ?_
  intro p e s m below meth c T H
  show Go p e below _ (T.setTop (mkF m 0 #[.val .null] []))
  refine G.aloadN H D3_0 (pc' := 1) rfl rfl rfl ?_
  refine G.ifnonnullNo H D3_1 (pc' := 4) rfl ?_
  refine G.aconstNull H D3_4 (pc' := 5) rfl ?_
  exact G.retA H (t := (.object "bindery/server/stomp/StompConnection$AckMode")) rfl rfl rfl D3_5 (so := []) all0 (by decide) (by decide) ⟨rfl, rfl, rfl⟩
set_option maxRecDepth 65536 in
set_option maxHeartbeats 40000000 in
theorem cut63_55 (V : Env1 Z a0 n0 uu0 uu1 uu2 uu3 uu4 uu5 uu6 uu7 uu8 uu9 uu10 uu11 uu12 uu13 uu14 uu15) (x90055 : Int32) (x0 : Int32) (x1 : Int32) (x2 : Int32) (x3 : Int32) (x4 : Int32) (x800340 : Int32) (H : Hs p l e room_1 s m as' below meth c Z a0 ELs True x.cls n0 code maxLocals ret x.name T h0 0 0 []) (sp : x90055 = 0 ∨ x90055 = 1 ∨ x90055 = 2 ∨ x90055 = 3 ∨ x90055 = 4) (cc1 : x800340 = 0) :
    Go p e below (FinP s below Z ELs True n0 room_1.cells room_1.slots (fun v h so => v = some (.int 1))) (T.setTop (mkF m 55 #[.val (.int x0), .val (.int x1), .val (.int x2), .val (.int x3), .val (.int x4), .val (.int x90055), .val (.int (((XT.ushr x0 8) &&& 255) % 3)), .val (.int x800340), .val (.int (x2 &&& 255)), .val (.int ((XT.ushr x2 8) &&& 255)), .unset, .unset] [])) := by
  rcases sp with rfl | rfl | rfl | rfl | rfl
  ·
    refine G.iload H at_55 (pc' := 57) rfl rfl ?_
    refine G.iconst H at_57 (pc' := 58) rfl (v := 4) rfl ?_
    refine G.icmpYes H at_58 (by decide) (by decide) (pc' := 67) rfl ?_
    refine G.iload H at_67 (pc' := 69) rfl rfl ?_
    refine G.iconst H at_69 (pc' := 70) rfl (v := 3) rfl ?_
    refine G.icmpYes H at_70 (by decide) (by decide) (pc' := 87) rfl ?_
    exact cut15_87 V (((XT.ushr x0 8) &&& 255) % 3) x0 x1 x2 x3 x4 x800340 ((H.less all0).mono (C' := 0) (S' := 0) (by decide) (by decide)) (own_v3 _) cc1
  ·
    refine G.iload H at_55 (pc' := 57) rfl rfl ?_
    refine G.iconst H at_57 (pc' := 58) rfl (v := 4) rfl ?_
    refine G.icmpYes H at_58 (by decide) (by decide) (pc' := 67) rfl ?_
    refine G.iload H at_67 (pc' := 69) rfl rfl ?_
    refine G.iconst H at_69 (pc' := 70) rfl (v := 3) rfl ?_
    refine G.icmpYes H at_70 (by decide) (by decide) (pc' := 87) rfl ?_
    exact cut26_87 V (((XT.ushr x0 8) &&& 255) % 3) x0 x1 x2 x3 x4 x800340 ((H.less all0).mono (C' := 0) (S' := 0) (by decide) (by decide)) (own_v3 _) cc1
  ·
    refine G.iload H at_55 (pc' := 57) rfl rfl ?_
    refine G.iconst H at_57 (pc' := 58) rfl (v := 4) rfl ?_
    refine G.icmpYes H at_58 (by decide) (by decide) (pc' := 67) rfl ?_
    refine G.iload H at_67 (pc' := 69) rfl rfl ?_
    refine G.iconst H at_69 (pc' := 70) rfl (v := 3) rfl ?_
    refine G.icmpYes H at_70 (by decide) (by decide) (pc' := 87) rfl ?_
    exact cut40_87 V (((XT.ushr x0 8) &&& 255) % 3) x0 x1 x2 x3 x4 x800340 ((H.less all0).mono (C' := 0) (S' := 0) (by decide) (by decide)) (own_v3 _) cc1
  ·
    refine G.iload H at_55 (pc' := 57) rfl rfl ?_
    refine G.iconst H at_57 (pc' := 58) rfl (v := 4) rfl ?_
    refine G.icmpYes H at_58 (by decide) (by decide) (pc' := 67) rfl ?_
    refine G.iload H at_67 (pc' := 69) rfl rfl ?_
    refine G.iconst H at_69 (pc' := 70) rfl (v := 3) rfl ?_
    refine G.icmpNo H at_70 (pc' := 73) rfl (by decide) ?_
    refine G.iload H at_73 (pc' := 75) rfl rfl ?_
    refine G.ldcI H (wd0 V) at_75 (pc' := 77) rfl ?_
    refine G.iand H at_77 (pc' := 78) rfl ?_
    refine G.iconst H at_78 (pc' := 79) rfl (v := 5) rfl ?_
    refine G.irem H at_79 (pc' := 80) rfl (by decide) ?_
    exact cut57_80 V ((x4 &&& 2147483647) % 5) x0 x1 x2 x3 x4 x800340 ((H.less all0).mono (C' := 0) (S' := 0) (by decide) (by decide)) (own_r5 _) cc1
  ·
    refine G.iload H at_55 (pc' := 57) rfl rfl ?_
    refine G.iconst H at_57 (pc' := 58) rfl (v := 4) rfl ?_
    refine G.icmpNo H at_58 (pc' := 61) rfl (by decide) ?_
    refine G.aconstNull H at_61 (pc' := 62) rfl ?_
    refine G.astore H (L' := #[.val (.int x0), .val (.int x1), .val (.int x2), .val (.int x3), .val (.int x4), .val (.int 4), .val (.int (((XT.ushr x0 8) &&& 255) % 3)), .val (.int x800340), .val (.int (x2 &&& 255)), .val (.int ((XT.ushr x2 8) &&& 255)), .val .null, .unset]) at_62 (pc' := 64) rfl rfl rfl ?_
    refine G.goto H at_64 (by decide) (pc' := 133) rfl ?_
    refine G.aload H at_133 (pc' := 135) rfl rfl rfl ?_
    refine G.callS H (m61_named V h0 H.old) (wd35 V) (wd36 V) (wd37 V) (wd38 V) (by decide) (argsL := [.null]) (rest := []) (W := 0) rfl rfl (lenOf (pd_2) rfl) rfl rfl at_135 (pc' := 138) rfl (by decide) (by decide) (by decide) (by decide) all0 ?_
    intro T1 h1_ v2 s3 H1 Q4
    obtain ⟨rfl, rfl, K5⟩ := Q4
    show Go p e below _ (T1.setTop (mkF m 138 #[.val (.int x0), .val (.int x1), .val (.int x2), .val (.int x3), .val (.int x4), .val (.int 4), .val (.int (((XT.ushr x0 8) &&& 255) % 3)), .val (.int x800340), .val (.int (x2 &&& 255)), .val (.int ((XT.ushr x2 8) &&& 255)), .val .null, .unset] [.null]))
    refine G.astore H1 (L' := #[.val (.int x0), .val (.int x1), .val (.int x2), .val (.int x3), .val (.int x4), .val (.int 4), .val (.int (((XT.ushr x0 8) &&& 255) % 3)), .val (.int x800340), .val (.int (x2 &&& 255)), .val (.int ((XT.ushr x2 8) &&& 255)), .val .null, .val .null]) at_138 (pc' := 140) rfl rfl rfl ?_
    refine G.aload H1 at_140 (pc' := 142) rfl rfl rfl ?_
    refine G.aload H1 at_142 (pc' := 144) rfl rfl rfl ?_
    refine G.callS H1 (m62_expected V h1_ H1.old) (wd69 V) (wd70 V) (wd3 V) (wd71 V) (by decide) (argsL := [.null]) (rest := [.null]) (W := 1) rfl rfl (lenOf (pd_2) rfl) rfl rfl at_144 (pc' := 147) rfl (by decide) (by decide) (by decide) (by decide) all0 ?_
    intro T6 h6_ v7 s8 H6 Q9
    obtain ⟨rfl, rfl, rfl⟩ := Q9
    show Go p e below _ (T6.setTop (mkF m 147 #[.val (.int x0), .val (.int x1), .val (.int x2), .val (.int x3), .val (.int x4), .val (.int 4), .val (.int (((XT.ushr x0 8) &&& 255) % 3)), .val (.int x800340), .val (.int (x2 &&& 255)), .val (.int ((XT.ushr x2 8) &&& 255)), .val .null, .val .null] [.null, .null]))
    refine G.acmpNo H6 at_147 (pc' := 150) rfl rfl rfl (XT.aa_ne_f rfl) ?_
    refine G.iconst H6 at_150 (pc' := 151) rfl (v := 1) rfl ?_
    refine G.goto H6 at_151 (by decide) (pc' := 155) rfl ?_
    exact G.retN H6 (t := .boolean) rfl (by decide) at_155 (so := []) all0 (by decide) (by decide) rfl
set_option maxRecDepth 65536 in
set_option maxHeartbeats 40000000 in
theorem cut64_34 (V : Env1 Z a0 n0 uu0 uu1 uu2 uu3 uu4 uu5 uu6 uu7 uu8 uu9 uu10 uu11 uu12 uu13 uu14 uu15) (x0 : Int32) (x1 : Int32) (x2 : Int32) (x3 : Int32) (x4 : Int32) (x800340 : Int32) (H : Hs p l e room_1 s m as' below meth c Z a0 ELs True x.cls n0 code maxLocals ret x.name T h0 0 0 []) (bo_x800340 : x800340 = 0 ∨ x800340 = 1) (cc1 : x800340 = 0) :
    Go p e below (FinP s below Z ELs True n0 room_1.cells room_1.slots (fun v h so => v = some (.int 1))) (T.setTop (mkF m 34 #[.val (.int x0), .val (.int x1), .val (.int x2), .val (.int x3), .val (.int x4), .val (.int ((x0 &&& 2147483647) % 5)), .val (.int (((XT.ushr x0 8) &&& 255) % 3)), .unset, .unset, .unset, .unset, .unset] [(.int x800340)])) := by
  refine G.istore H (L' := #[.val (.int x0), .val (.int x1), .val (.int x2), .val (.int x3), .val (.int x4), .val (.int ((x0 &&& 2147483647) % 5)), .val (.int (((XT.ushr x0 8) &&& 255) % 3)), .val (.int x800340), .unset, .unset, .unset, .unset]) at_34 (pc' := 36) rfl rfl ?_
  refine G.iloadN H at_36 (pc' := 37) rfl rfl ?_
  refine G.sipush H at_37 (pc' := 40) rfl (v := 255) rfl ?_
  refine G.iand H at_40 (pc' := 41) rfl ?_
  refine G.i2c H (y := (x2 &&& 255)) at_41 (pc' := 42) rfl (own_c16 (own_u16 (own_and255 _))) ?_
  refine G.istore H (L' := #[.val (.int x0), .val (.int x1), .val (.int x2), .val (.int x3), .val (.int x4), .val (.int ((x0 &&& 2147483647) % 5)), .val (.int (((XT.ushr x0 8) &&& 255) % 3)), .val (.int x800340), .val (.int (x2 &&& 255)), .unset, .unset, .unset]) at_42 (pc' := 44) rfl rfl ?_
  refine G.iloadN H at_44 (pc' := 45) rfl rfl ?_
  refine G.bipush H at_45 (pc' := 47) rfl (v := 8) rfl ?_
  refine G.iushr H at_47 (pc' := 48) rfl ?_
  refine G.sipush H at_48 (pc' := 51) rfl (v := 255) rfl ?_
  refine G.iand H at_51 (pc' := 52) rfl ?_
  refine G.i2c H (y := ((XT.ushr x2 8) &&& 255)) at_52 (pc' := 53) rfl (own_c16 (own_u16 (own_and255 _))) ?_
  refine G.istore H (L' := #[.val (.int x0), .val (.int x1), .val (.int x2), .val (.int x3), .val (.int x4), .val (.int ((x0 &&& 2147483647) % 5)), .val (.int (((XT.ushr x0 8) &&& 255) % 3)), .val (.int x800340), .val (.int (x2 &&& 255)), .val (.int ((XT.ushr x2 8) &&& 255)), .unset, .unset]) at_53 (pc' := 55) rfl rfl ?_
  exact cut63_55 V ((x0 &&& 2147483647) % 5) x0 x1 x2 x3 x4 x800340 ((H.less all0).mono (C' := 0) (S' := 0) (by decide) (by decide)) (own_r5 _) cc1
set_option maxRecDepth 65536 in
set_option maxHeartbeats 40000000 in
theorem cut65_121 (V : Env1 Z a0 n0 uu0 uu1 uu2 uu3 uu4 uu5 uu6 uu7 uu8 uu9 uu10 uu11 uu12 uu13 uu14 uu15) (x90121 : Int32) (x0 : Int32) (x1 : Int32) (x2 : Int32) (x3 : Int32) (x4 : Int32) (x800340 : Int32) (p0 : Addr) (c0 : ClassId) (H : Hs p l e room_1 s m as' below meth c Z a0 ELs True x.cls n0 code maxLocals ret x.name T h0 1 4 []) (sp : x90121 = 0 ∨ x90121 = 1 ∨ x90121 = 2 ∨ x90121 = 3) (f1 : Arv Z h0 p0 c0 .char 4 [(.int 97), (.int 117), (.int 116), (.int 111)] (.int 0)) (g2 : n0 ≤ p0) :
    Go p e below (FinP s below Z ELs True n0 room_1.cells room_1.slots (fun v h so => v = some (.int 1))) (T.setTop (mkF m 121 #[.val (.int x0), .val (.int x1), .val (.int x2), .val (.int x3), .val (.int x4), .val (.int 0), .val (.int 0), .val (.int x800340), .val (.int (x2 &&& 255)), .val (.int ((XT.ushr x2 8) &&& 255)), .unset, .val (.ref p0)] [(.int (x2 &&& 255)), (.int x90121), (.ref p0)])) := by
  rcases sp with rfl | rfl | rfl | rfl
  ·
    refine G.stC H f1 (by decide) (i := 0) rfl lB g2 (y := (x2 &&& 255)) (own_narC (own_u16 (own_and255 _))) at_121 (pc' := 122) rfl ?_
    intro T1 h1_ H1 W2 A3
    replace A3 : Arv Z h1_ p0 c0 .char 4 [(.int (x2 &&& 255)), (.int 117), (.int 116), (.int 111)] (.int 0) := A3
    exact cut6_122 V x0 x1 x2 x3 x4 0 0 x800340 (x2 &&& 255) ((XT.ushr x2 8) &&& 255) p0 c0 (x2 &&& 255) 117 116 111 ((H1.less all0).mono (C' := 1) (S' := 4) (by decide) (by decide)) (own_and255 _) (by decide) (by decide) (by decide) A3
  ·
    refine G.stC H f1 (by decide) (i := 1) rfl lB g2 (y := (x2 &&& 255)) (own_narC (own_u16 (own_and255 _))) at_121 (pc' := 122) rfl ?_
    intro T4 h4_ H4 W5 A6
    replace A6 : Arv Z h4_ p0 c0 .char 4 [(.int 97), (.int (x2 &&& 255)), (.int 116), (.int 111)] (.int 0) := A6
    exact cut6_122 V x0 x1 x2 x3 x4 0 0 x800340 (x2 &&& 255) ((XT.ushr x2 8) &&& 255) p0 c0 97 (x2 &&& 255) 116 111 ((H4.less all0).mono (C' := 1) (S' := 4) (by decide) (by decide)) (by decide) (own_and255 _) (by decide) (by decide) A6
  ·
    refine G.stC H f1 (by decide) (i := 2) rfl lB g2 (y := (x2 &&& 255)) (own_narC (own_u16 (own_and255 _))) at_121 (pc' := 122) rfl ?_
    intro T7 h7_ H7 W8 A9
    replace A9 : Arv Z h7_ p0 c0 .char 4 [(.int 97), (.int 117), (.int (x2 &&& 255)), (.int 111)] (.int 0) := A9
    exact cut6_122 V x0 x1 x2 x3 x4 0 0 x800340 (x2 &&& 255) ((XT.ushr x2 8) &&& 255) p0 c0 97 117 (x2 &&& 255) 111 ((H7.less all0).mono (C' := 1) (S' := 4) (by decide) (by decide)) (by decide) (by decide) (own_and255 _) (by decide) A9
  ·
    refine G.stC H f1 (by decide) (i := 3) rfl lB g2 (y := (x2 &&& 255)) (own_narC (own_u16 (own_and255 _))) at_121 (pc' := 122) rfl ?_
    intro T10 h10_ H10 W11 A12
    replace A12 : Arv Z h10_ p0 c0 .char 4 [(.int 97), (.int 117), (.int 116), (.int (x2 &&& 255))] (.int 0) := A12
    exact cut6_122 V x0 x1 x2 x3 x4 0 0 x800340 (x2 &&& 255) ((XT.ushr x2 8) &&& 255) p0 c0 97 117 116 (x2 &&& 255) ((H10.less all0).mono (C' := 1) (S' := 4) (by decide) (by decide)) (by decide) (by decide) (by decide) (own_and255 _) A12
set_option maxRecDepth 65536 in
set_option maxHeartbeats 40000000 in
theorem cut66_121 (V : Env1 Z a0 n0 uu0 uu1 uu2 uu3 uu4 uu5 uu6 uu7 uu8 uu9 uu10 uu11 uu12 uu13 uu14 uu15) (x90121 : Int32) (x0 : Int32) (x1 : Int32) (x2 : Int32) (x3 : Int32) (x4 : Int32) (x800340 : Int32) (p0 : Addr) (c0 : ClassId) (H : Hs p l e room_1 s m as' below meth c Z a0 ELs True x.cls n0 code maxLocals ret x.name T h0 1 5 []) (sp : x90121 = 0 ∨ x90121 = 1 ∨ x90121 = 2 ∨ x90121 = 3 ∨ x90121 = 4) (f1 : Arv Z h0 p0 c0 .char 5 [(.int 97), (.int 117), (.int 116), (.int 111), (.int ((XT.ushr x2 8) &&& 255))] (.int 0)) (g2 : n0 ≤ p0) :
    Go p e below (FinP s below Z ELs True n0 room_1.cells room_1.slots (fun v h so => v = some (.int 1))) (T.setTop (mkF m 121 #[.val (.int x0), .val (.int x1), .val (.int x2), .val (.int x3), .val (.int x4), .val (.int 0), .val (.int 1), .val (.int x800340), .val (.int (x2 &&& 255)), .val (.int ((XT.ushr x2 8) &&& 255)), .unset, .val (.ref p0)] [(.int (x2 &&& 255)), (.int x90121), (.ref p0)])) := by
  rcases sp with rfl | rfl | rfl | rfl | rfl
  ·
    refine G.stC H f1 (by decide) (i := 0) rfl lB g2 (y := (x2 &&& 255)) (own_narC (own_u16 (own_and255 _))) at_121 (pc' := 122) rfl ?_
    intro T1 h1_ H1 W2 A3
    replace A3 : Arv Z h1_ p0 c0 .char 5 [(.int (x2 &&& 255)), (.int 117), (.int 116), (.int 111), (.int ((XT.ushr x2 8) &&& 255))] (.int 0) := A3
    exact cut10_122 V x0 x1 x2 x3 x4 0 1 x800340 (x2 &&& 255) ((XT.ushr x2 8) &&& 255) p0 c0 (x2 &&& 255) 117 116 111 ((XT.ushr x2 8) &&& 255) ((H1.less all0).mono (C' := 1) (S' := 5) (by decide) (by decide)) (own_and255 _) (by decide) (by decide) (by decide) (own_and255 _) A3
  ·
    refine G.stC H f1 (by decide) (i := 1) rfl lB g2 (y := (x2 &&& 255)) (own_narC (own_u16 (own_and255 _))) at_121 (pc' := 122) rfl ?_
    intro T4 h4_ H4 W5 A6
    replace A6 : Arv Z h4_ p0 c0 .char 5 [(.int 97), (.int (x2 &&& 255)), (.int 116), (.int 111), (.int ((XT.ushr x2 8) &&& 255))] (.int 0) := A6
    exact cut10_122 V x0 x1 x2 x3 x4 0 1 x800340 (x2 &&& 255) ((XT.ushr x2 8) &&& 255) p0 c0 97 (x2 &&& 255) 116 111 ((XT.ushr x2 8) &&& 255) ((H4.less all0).mono (C' := 1) (S' := 5) (by decide) (by decide)) (by decide) (own_and255 _) (by decide) (by decide) (own_and255 _) A6
  ·
    refine G.stC H f1 (by decide) (i := 2) rfl lB g2 (y := (x2 &&& 255)) (own_narC (own_u16 (own_and255 _))) at_121 (pc' := 122) rfl ?_
    intro T7 h7_ H7 W8 A9
    replace A9 : Arv Z h7_ p0 c0 .char 5 [(.int 97), (.int 117), (.int (x2 &&& 255)), (.int 111), (.int ((XT.ushr x2 8) &&& 255))] (.int 0) := A9
    exact cut10_122 V x0 x1 x2 x3 x4 0 1 x800340 (x2 &&& 255) ((XT.ushr x2 8) &&& 255) p0 c0 97 117 (x2 &&& 255) 111 ((XT.ushr x2 8) &&& 255) ((H7.less all0).mono (C' := 1) (S' := 5) (by decide) (by decide)) (by decide) (by decide) (own_and255 _) (by decide) (own_and255 _) A9
  ·
    refine G.stC H f1 (by decide) (i := 3) rfl lB g2 (y := (x2 &&& 255)) (own_narC (own_u16 (own_and255 _))) at_121 (pc' := 122) rfl ?_
    intro T10 h10_ H10 W11 A12
    replace A12 : Arv Z h10_ p0 c0 .char 5 [(.int 97), (.int 117), (.int 116), (.int (x2 &&& 255)), (.int ((XT.ushr x2 8) &&& 255))] (.int 0) := A12
    exact cut10_122 V x0 x1 x2 x3 x4 0 1 x800340 (x2 &&& 255) ((XT.ushr x2 8) &&& 255) p0 c0 97 117 116 (x2 &&& 255) ((XT.ushr x2 8) &&& 255) ((H10.less all0).mono (C' := 1) (S' := 5) (by decide) (by decide)) (by decide) (by decide) (by decide) (own_and255 _) (own_and255 _) A12
  ·
    refine G.stC H f1 (by decide) (i := 4) rfl lB g2 (y := (x2 &&& 255)) (own_narC (own_u16 (own_and255 _))) at_121 (pc' := 122) rfl ?_
    intro T13 h13_ H13 W14 A15
    replace A15 : Arv Z h13_ p0 c0 .char 5 [(.int 97), (.int 117), (.int 116), (.int 111), (.int (x2 &&& 255))] (.int 0) := A15
    exact cut10_122 V x0 x1 x2 x3 x4 0 1 x800340 (x2 &&& 255) ((XT.ushr x2 8) &&& 255) p0 c0 97 117 116 111 (x2 &&& 255) ((H13.less all0).mono (C' := 1) (S' := 5) (by decide) (by decide)) (by decide) (by decide) (by decide) (by decide) (own_and255 _) A15
set_option maxRecDepth 65536 in
set_option maxHeartbeats 40000000 in
theorem cut67_121 (V : Env1 Z a0 n0 uu0 uu1 uu2 uu3 uu4 uu5 uu6 uu7 uu8 uu9 uu10 uu11 uu12 uu13 uu14 uu15) (x90121 : Int32) (x0 : Int32) (x1 : Int32) (x2 : Int32) (x3 : Int32) (x4 : Int32) (x800340 : Int32) (p0 : Addr) (c0 : ClassId) (H : Hs p l e room_1 s m as' below meth c Z a0 ELs True x.cls n0 code maxLocals ret x.name T h0 1 3 []) (sp : x90121 = 0 ∨ x90121 = 1 ∨ x90121 = 2) (f1 : Arv Z h0 p0 c0 .char 3 [(.int 97), (.int 117), (.int 116)] (.int 0)) (g2 : n0 ≤ p0) :
    Go p e below (FinP s below Z ELs True n0 room_1.cells room_1.slots (fun v h so => v = some (.int 1))) (T.setTop (mkF m 121 #[.val (.int x0), .val (.int x1), .val (.int x2), .val (.int x3), .val (.int x4), .val (.int 0), .val (.int 2), .val (.int x800340), .val (.int (x2 &&& 255)), .val (.int ((XT.ushr x2 8) &&& 255)), .unset, .val (.ref p0)] [(.int (x2 &&& 255)), (.int x90121), (.ref p0)])) := by
  rcases sp with rfl | rfl | rfl
  ·
    refine G.stC H f1 (by decide) (i := 0) rfl lB g2 (y := (x2 &&& 255)) (own_narC (own_u16 (own_and255 _))) at_121 (pc' := 122) rfl ?_
    intro T1 h1_ H1 W2 A3
    replace A3 : Arv Z h1_ p0 c0 .char 3 [(.int (x2 &&& 255)), (.int 117), (.int 116)] (.int 0) := A3
    exact cut14_122 V x0 x1 x2 x3 x4 0 2 x800340 (x2 &&& 255) ((XT.ushr x2 8) &&& 255) p0 c0 (x2 &&& 255) 117 116 ((H1.less all0).mono (C' := 1) (S' := 3) (by decide) (by decide)) (own_and255 _) (by decide) (by decide) A3
  ·
    refine G.stC H f1 (by decide) (i := 1) rfl lB g2 (y := (x2 &&& 255)) (own_narC (own_u16 (own_and255 _))) at_121 (pc' := 122) rfl ?_
    intro T4 h4_ H4 W5 A6
    replace A6 : Arv Z h4_ p0 c0 .char 3 [(.int 97), (.int (x2 &&& 255)), (.int 116)] (.int 0) := A6
    exact cut14_122 V x0 x1 x2 x3 x4 0 2 x800340 (x2 &&& 255) ((XT.ushr x2 8) &&& 255) p0 c0 97 (x2 &&& 255) 116 ((H4.less all0).mono (C' := 1) (S' := 3) (by decide) (by decide)) (by decide) (own_and255 _) (by decide) A6
  ·
    refine G.stC H f1 (by decide) (i := 2) rfl lB g2 (y := (x2 &&& 255)) (own_narC (own_u16 (own_and255 _))) at_121 (pc' := 122) rfl ?_
    intro T7 h7_ H7 W8 A9
    replace A9 : Arv Z h7_ p0 c0 .char 3 [(.int 97), (.int 117), (.int (x2 &&& 255))] (.int 0) := A9
    exact cut14_122 V x0 x1 x2 x3 x4 0 2 x800340 (x2 &&& 255) ((XT.ushr x2 8) &&& 255) p0 c0 97 117 (x2 &&& 255) ((H7.less all0).mono (C' := 1) (S' := 3) (by decide) (by decide)) (by decide) (by decide) (own_and255 _) A9
set_option maxRecDepth 65536 in
set_option maxHeartbeats 40000000 in
theorem cut68_87 (V : Env1 Z a0 n0 uu0 uu1 uu2 uu3 uu4 uu5 uu6 uu7 uu8 uu9 uu10 uu11 uu12 uu13 uu14 uu15) (x90087 : Int32) (x0 : Int32) (x1 : Int32) (x2 : Int32) (x3 : Int32) (x4 : Int32) (x800340 : Int32) (H : Hs p l e room_1 s m as' below meth c Z a0 ELs True x.cls n0 code maxLocals ret x.name T h0 0 0 []) (sp : x90087 = 0 ∨ x90087 = 1 ∨ x90087 = 2) :
    Go p e below (FinP s below Z ELs True n0 room_1.cells room_1.slots (fun v h so => v = some (.int 1))) (T.setTop (mkF m 87 #[.val (.int x0), .val (.int x1), .val (.int x2), .val (.int x3), .val (.int x4), .val (.int 0), .val (.int x90087), .val (.int x800340), .val (.int (x2 &&& 255)), .val (.int ((XT.ushr x2 8) &&& 255)), .unset, .unset] [])) := by
  rcases sp with rfl | rfl | rfl
  ·
    refine G.iload H at_87 (pc' := 89) rfl rfl ?_
    refine G.iload H at_89 (pc' := 91) rfl rfl ?_
    refine G.iload H at_91 (pc' := 93) rfl rfl ?_
    refine G.callS H (m1_base V ((XT.ushr x2 8) &&& 255) h0 H.old) (wd1 V) (wd2 V) (wd3 V) (wd4 V) (by decide) (argsL := [(.int 0), (.int 0), (.int ((XT.ushr x2 8) &&& 255))]) (rest := []) (W := 0) rfl rfl (lenOf (pd_0) rfl) rfl rfl at_93 (pc' := 96) rfl (by decide) (by decide) (by decide) (by decide) all0 ?_
    intro T1 h1_ v2 s3 H1 Q4
    obtain ⟨a5, k6, rfl, rfl, K7, g8, F9, F10⟩ := Q4
    have na5 : n0 ≤ a5 := Nat.le_trans H.le g8
    show Go p e below _ (T1.setTop (mkF m 96 #[.val (.int x0), .val (.int x1), .val (.int x2), .val (.int x3), .val (.int x4), .val (.int 0), .val (.int 0), .val (.int x800340), .val (.int (x2 &&& 255)), .val (.int ((XT.ushr x2 8) &&& 255)), .unset, .unset] [(.ref a5)]))
    refine G.astore H1 (L' := #[.val (.int x0), .val (.int x1), .val (.int x2), .val (.int x3), .val (.int x4), .val (.int 0), .val (.int 0), .val (.int x800340), .val (.int (x2 &&& 255)), .val (.int ((XT.ushr x2 8) &&& 255)), .unset, .val (.ref a5)]) at_96 (pc' := 98) rfl rfl rfl ?_
    refine G.iload H1 at_98 (pc' := 100) rfl rfl ?_
    by_cases c11 : x800340 = 0
    ·
      refine G.ifYes H1 at_100 (XT.i0_eq_t c11) (by decide) (pc' := 122) rfl ?_
      exact cut6_122 V x0 x1 x2 x3 x4 0 0 x800340 (x2 &&& 255) ((XT.ushr x2 8) &&& 255) a5 k6 97 117 116 111 ((H1.less all0).mono (C' := 1) (S' := 4) (by decide) (by decide)) (by decide) (by decide) (by decide) (by decide) F9
    ·
      refine G.ifNo H1 at_100 (pc' := 103) rfl (XT.i0_eq_f c11) ?_
      refine G.aload H1 at_103 (pc' := 105) rfl rfl rfl ?_
      refine G.arrlen H1 F9 at_105 (pc' := 106) rfl ?_
      refine G.ifNo H1 at_106 (pc' := 109) rfl (by decide) ?_
      refine G.aload H1 at_109 (pc' := 111) rfl rfl rfl ?_
      refine G.iloadN H1 at_111 (pc' := 112) rfl rfl ?_
      refine G.ldcI H1 (wd0 V) at_112 (pc' := 114) rfl ?_
      refine G.iand H1 at_114 (pc' := 115) rfl ?_
      refine G.aload H1 at_115 (pc' := 117) rfl rfl rfl ?_
      refine G.arrlen H1 F9 at_117 (pc' := 118) rfl ?_
      refine G.irem H1 at_118 (pc' := 119) rfl (by decide) ?_
      refine G.iload H1 at_119 (pc' := 121) rfl rfl ?_
      exact cut65_121 V ((x1 &&& 2147483647) % 4) x0 x1 x2 x3 x4 x800340 a5 k6 ((H1.less all0).mono (C' := 1) (S' := 4) (by decide) (by decide)) (own_r4 _) F9 na5
  ·
    refine G.iload H at_87 (pc' := 89) rfl rfl ?_
    refine G.iload H at_89 (pc' := 91) rfl rfl ?_
    refine G.iload H at_91 (pc' := 93) rfl rfl ?_
    refine G.callS H (m7_base V ((XT.ushr x2 8) &&& 255) h0 H.old (own_u16 (own_and255 _))) (wd1 V) (wd2 V) (wd3 V) (wd4 V) (by decide) (argsL := [(.int 0), (.int 1), (.int ((XT.ushr x2 8) &&& 255))]) (rest := []) (W := 0) rfl rfl (lenOf (pd_0) rfl) rfl rfl at_93 (pc' := 96) rfl (by decide) (by decide) (by decide) (by decide) all0 ?_
    intro T12 h12_ v13 s14 H12 Q15
    obtain ⟨a16, k17, rfl, rfl, K18, g19, F20, F21⟩ := Q15
    have na16 : n0 ≤ a16 := Nat.le_trans H.le g19
    show Go p e below _ (T12.setTop (mkF m 96 #[.val (.int x0), .val (.int x1), .val (.int x2), .val (.int x3), .val (.int x4), .val (.int 0), .val (.int 1), .val (.int x800340), .val (.int (x2 &&& 255)), .val (.int ((XT.ushr x2 8) &&& 255)), .unset, .unset] [(.ref a16)]))
    refine G.astore H12 (L' := #[.val (.int x0), .val (.int x1), .val (.int x2), .val (.int x3), .val (.int x4), .val (.int 0), .val (.int 1), .val (.int x800340), .val (.int (x2 &&& 255)), .val (.int ((XT.ushr x2 8) &&& 255)), .unset, .val (.ref a16)]) at_96 (pc' := 98) rfl rfl rfl ?_
    refine G.iload H12 at_98 (pc' := 100) rfl rfl ?_
    by_cases c22 : x800340 = 0
    ·
      refine G.ifYes H12 at_100 (XT.i0_eq_t c22) (by decide) (pc' := 122) rfl ?_
      exact cut10_122 V x0 x1 x2 x3 x4 0 1 x800340 (x2 &&& 255) ((XT.ushr x2 8) &&& 255) a16 k17 97 117 116 111 ((XT.ushr x2 8) &&& 255) ((H12.less all0).mono (C' := 1) (S' := 5) (by decide) (by decide)) (by decide) (by decide) (by decide) (by decide) (own_and255 _) F20
    ·
      refine G.ifNo H12 at_100 (pc' := 103) rfl (XT.i0_eq_f c22) ?_
      refine G.aload H12 at_103 (pc' := 105) rfl rfl rfl ?_
      refine G.arrlen H12 F20 at_105 (pc' := 106) rfl ?_
      refine G.ifNo H12 at_106 (pc' := 109) rfl (by decide) ?_
      refine G.aload H12 at_109 (pc' := 111) rfl rfl rfl ?_
      refine G.iloadN H12 at_111 (pc' := 112) rfl rfl ?_
      refine G.ldcI H12 (wd0 V) at_112 (pc' := 114) rfl ?_
      refine G.iand H12 at_114 (pc' := 115) rfl ?_
      refine G.aload H12 at_115 (pc' := 117) rfl rfl rfl ?_
      refine G.arrlen H12 F20 at_117 (pc' := 118) rfl ?_
      refine G.irem H12 at_118 (pc' := 119) rfl (by decide) ?_
      refine G.iload H12 at_119 (pc' := 121) rfl rfl ?_
      exact cut66_121 V ((x1 &&& 2147483647) % 5) x0 x1 x2 x3 x4 x800340 a16 k17 ((H12.less all0).mono (C' := 1) (S' := 5) (by decide) (by decide)) (own_r5 _) F20 na16
  ·
    refine G.iload H at_87 (pc' := 89) rfl rfl ?_
    refine G.iload H at_89 (pc' := 91) rfl rfl ?_
    refine G.iload H at_91 (pc' := 93) rfl rfl ?_
    refine G.callS H (m11_base V ((XT.ushr x2 8) &&& 255) h0 H.old) (wd1 V) (wd2 V) (wd3 V) (wd4 V) (by decide) (argsL := [(.int 0), (.int 2), (.int ((XT.ushr x2 8) &&& 255))]) (rest := []) (W := 0) rfl rfl (lenOf (pd_0) rfl) rfl rfl at_93 (pc' := 96) rfl (by decide) (by decide) (by decide) (by decide) all0 ?_
    intro T23 h23_ v24 s25 H23 Q26
    obtain ⟨a27, k28, rfl, rfl, K29, g30, F31, F32⟩ := Q26
    have na27 : n0 ≤ a27 := Nat.le_trans H.le g30
    show Go p e below _ (T23.setTop (mkF m 96 #[.val (.int x0), .val (.int x1), .val (.int x2), .val (.int x3), .val (.int x4), .val (.int 0), .val (.int 2), .val (.int x800340), .val (.int (x2 &&& 255)), .val (.int ((XT.ushr x2 8) &&& 255)), .unset, .unset] [(.ref a27)]))
    refine G.astore H23 (L' := #[.val (.int x0), .val (.int x1), .val (.int x2), .val (.int x3), .val (.int x4), .val (.int 0), .val (.int 2), .val (.int x800340), .val (.int (x2 &&& 255)), .val (.int ((XT.ushr x2 8) &&& 255)), .unset, .val (.ref a27)]) at_96 (pc' := 98) rfl rfl rfl ?_
    refine G.iload H23 at_98 (pc' := 100) rfl rfl ?_
    by_cases c33 : x800340 = 0
    ·
      refine G.ifYes H23 at_100 (XT.i0_eq_t c33) (by decide) (pc' := 122) rfl ?_
      exact cut14_122 V x0 x1 x2 x3 x4 0 2 x800340 (x2 &&& 255) ((XT.ushr x2 8) &&& 255) a27 k28 97 117 116 ((H23.less all0).mono (C' := 1) (S' := 3) (by decide) (by decide)) (by decide) (by decide) (by decide) F31
    ·
      refine G.ifNo H23 at_100 (pc' := 103) rfl (XT.i0_eq_f c33) ?_
      refine G.aload H23 at_103 (pc' := 105) rfl rfl rfl ?_
      refine G.arrlen H23 F31 at_105 (pc' := 106) rfl ?_
      refine G.ifNo H23 at_106 (pc' := 109) rfl (by decide) ?_
      refine G.aload H23 at_109 (pc' := 111) rfl rfl rfl ?_
      refine G.iloadN H23 at_111 (pc' := 112) rfl rfl ?_
      refine G.ldcI H23 (wd0 V) at_112 (pc' := 114) rfl ?_
      refine G.iand H23 at_114 (pc' := 115) rfl ?_
      refine G.aload H23 at_115 (pc' := 117) rfl rfl rfl ?_
      refine G.arrlen H23 F31 at_117 (pc' := 118) rfl ?_
      refine G.irem H23 at_118 (pc' := 119) rfl (by decide) ?_
      refine G.iload H23 at_119 (pc' := 121) rfl rfl ?_
      exact cut67_121 V ((x1 &&& 2147483647) % 3) x0 x1 x2 x3 x4 x800340 a27 k28 ((H23.less all0).mono (C' := 1) (S' := 3) (by decide) (by decide)) (own_r3 _) F31 na27
set_option maxRecDepth 65536 in
set_option maxHeartbeats 40000000 in
theorem cut69_121 (V : Env1 Z a0 n0 uu0 uu1 uu2 uu3 uu4 uu5 uu6 uu7 uu8 uu9 uu10 uu11 uu12 uu13 uu14 uu15) (x90121 : Int32) (x0 : Int32) (x1 : Int32) (x2 : Int32) (x3 : Int32) (x4 : Int32) (x800340 : Int32) (p0 : Addr) (c0 : ClassId) (H : Hs p l e room_1 s m as' below meth c Z a0 ELs True x.cls n0 code maxLocals ret x.name T h0 1 6 []) (sp : x90121 = 0 ∨ x90121 = 1 ∨ x90121 = 2 ∨ x90121 = 3 ∨ x90121 = 4 ∨ x90121 = 5) (f1 : Arv Z h0 p0 c0 .char 6 [(.int 99), (.int 108), (.int 105), (.int 101), (.int 110), (.int 116)] (.int 0)) (g2 : n0 ≤ p0) :
    Go p e below (FinP s below Z ELs True n0 room_1.cells room_1.slots (fun v h so => v = some (.int 1))) (T.setTop (mkF m 121 #[.val (.int x0), .val (.int x1), .val (.int x2), .val (.int x3), .val (.int x4), .val (.int 1), .val (.int 0), .val (.int x800340), .val (.int (x2 &&& 255)), .val (.int ((XT.ushr x2 8) &&& 255)), .unset, .val (.ref p0)] [(.int (x2 &&& 255)), (.int x90121), (.ref p0)])) := by
  rcases sp with rfl | rfl | rfl | rfl | rfl | rfl
  ·
    refine G.stC H f1 (by decide) (i := 0) rfl lB g2 (y := (x2 &&& 255)) (own_narC (own_u16 (own_and255 _))) at_121 (pc' := 122) rfl ?_
    intro T1 h1_ H1 W2 A3
    replace A3 : Arv Z h1_ p0 c0 .char 6 [(.int (x2 &&& 255)), (.int 108), (.int 105), (.int 101), (.int 110), (.int 116)] (.int 0) := A3
    exact cut20_122 V x0 x1 x2 x3 x4 1 0 x800340 (x2 &&& 255) ((XT.ushr x2 8) &&& 255) p0 c0 (x2 &&& 255) 108 105 101 110 116 ((H1.less all0).mono (C' := 1) (S' := 6) (by decide) (by decide)) (own_and255 _) (by decide) (by decide) (by decide) (by decide) (by decide) A3
  ·
    refine G.stC H f1 (by decide) (i := 1) rfl lB g2 (y := (x2 &&& 255)) (own_narC (own_u16 (own_and255 _))) at_121 (pc' := 122) rfl ?_
    intro T4 h4_ H4 W5 A6
    replace A6 : Arv Z h4_ p0 c0 .char 6 [(.int 99), (.int (x2 &&& 255)), (.int 105), (.int 101), (.int 110), (.int 116)] (.int 0) := A6
    exact cut20_122 V x0 x1 x2 x3 x4 1 0 x800340 (x2 &&& 255) ((XT.ushr x2 8) &&& 255) p0 c0 99 (x2 &&& 255) 105 101 110 116 ((H4.less all0).mono (C' := 1) (S' := 6) (by decide) (by decide)) (by decide) (own_and255 _) (by decide) (by decide) (by decide) (by decide) A6
  ·
    refine G.stC H f1 (by decide) (i := 2) rfl lB g2 (y := (x2 &&& 255)) (own_narC (own_u16 (own_and255 _))) at_121 (pc' := 122) rfl ?_
    intro T7 h7_ H7 W8 A9
    replace A9 : Arv Z h7_ p0 c0 .char 6 [(.int 99), (.int 108), (.int (x2 &&& 255)), (.int 101), (.int 110), (.int 116)] (.int 0) := A9
    exact cut20_122 V x0 x1 x2 x3 x4 1 0 x800340 (x2 &&& 255) ((XT.ushr x2 8) &&& 255) p0 c0 99 108 (x2 &&& 255) 101 110 116 ((H7.less all0).mono (C' := 1) (S' := 6) (by decide) (by decide)) (by decide) (by decide) (own_and255 _) (by decide) (by decide) (by decide) A9
  ·
    refine G.stC H f1 (by decide) (i := 3) rfl lB g2 (y := (x2 &&& 255)) (own_narC (own_u16 (own_and255 _))) at_121 (pc' := 122) rfl ?_
    intro T10 h10_ H10 W11 A12
    replace A12 : Arv Z h10_ p0 c0 .char 6 [(.int 99), (.int 108), (.int 105), (.int (x2 &&& 255)), (.int 110), (.int 116)] (.int 0) := A12
    exact cut20_122 V x0 x1 x2 x3 x4 1 0 x800340 (x2 &&& 255) ((XT.ushr x2 8) &&& 255) p0 c0 99 108 105 (x2 &&& 255) 110 116 ((H10.less all0).mono (C' := 1) (S' := 6) (by decide) (by decide)) (by decide) (by decide) (by decide) (own_and255 _) (by decide) (by decide) A12
  ·
    refine G.stC H f1 (by decide) (i := 4) rfl lB g2 (y := (x2 &&& 255)) (own_narC (own_u16 (own_and255 _))) at_121 (pc' := 122) rfl ?_
    intro T13 h13_ H13 W14 A15
    replace A15 : Arv Z h13_ p0 c0 .char 6 [(.int 99), (.int 108), (.int 105), (.int 101), (.int (x2 &&& 255)), (.int 116)] (.int 0) := A15
    exact cut20_122 V x0 x1 x2 x3 x4 1 0 x800340 (x2 &&& 255) ((XT.ushr x2 8) &&& 255) p0 c0 99 108 105 101 (x2 &&& 255) 116 ((H13.less all0).mono (C' := 1) (S' := 6) (by decide) (by decide)) (by decide) (by decide) (by decide) (by decide) (own_and255 _) (by decide) A15
  ·
    refine G.stC H f1 (by decide) (i := 5) rfl lB g2 (y := (x2 &&& 255)) (own_narC (own_u16 (own_and255 _))) at_121 (pc' := 122) rfl ?_
    intro T16 h16_ H16 W17 A18
    replace A18 : Arv Z h16_ p0 c0 .char 6 [(.int 99), (.int 108), (.int 105), (.int 101), (.int 110), (.int (x2 &&& 255))] (.int 0) := A18
    exact cut20_122 V x0 x1 x2 x3 x4 1 0 x800340 (x2 &&& 255) ((XT.ushr x2 8) &&& 255) p0 c0 99 108 105 101 110 (x2 &&& 255) ((H16.less all0).mono (C' := 1) (S' := 6) (by decide) (by decide)) (by decide) (by decide) (by decide) (by decide) (by decide) (own_and255 _) A18
set_option maxRecDepth 65536 in
set_option maxHeartbeats 40000000 in
theorem cut70_121 (V : Env1 Z a0 n0 uu0 uu1 uu2 uu3 uu4 uu5 uu6 uu7 uu8 uu9 uu10 uu11 uu12 uu13 uu14 uu15) (x90121 : Int32) (x0 : Int32) (x1 : Int32) (x2 : Int32) (x3 : Int32) (x4 : Int32) (x800340 : Int32) (p0 : Addr) (c0 : ClassId) (H : Hs p l e room_1 s m as' below meth c Z a0 ELs True x.cls n0 code maxLocals ret x.name T h0 1 7 []) (sp : x90121 = 0 ∨ x90121 = 1 ∨ x90121 = 2 ∨ x90121 = 3 ∨ x90121 = 4 ∨ x90121 = 5 ∨ x90121 = 6) (f1 : Arv Z h0 p0 c0 .char 7 [(.int 99), (.int 108), (.int 105), (.int 101), (.int 110), (.int 116), (.int ((XT.ushr x2 8) &&& 255))] (.int 0)) (g2 : n0 ≤ p0) :
    Go p e below (FinP s below Z ELs True n0 room_1.cells room_1.slots (fun v h so => v = some (.int 1))) (T.setTop (mkF m 121 #[.val (.int x0), .val (.int x1), .val (.int x2), .val (.int x3), .val (.int x4), .val (.int 1), .val (.int 1), .val (.int x800340), .val (.int (x2 &&& 255)), .val (.int ((XT.ushr x2 8) &&& 255)), .unset, .val (.ref p0)] [(.int (x2 &&& 255)), (.int x90121), (.ref p0)])) := by
  rcases sp with rfl | rfl | rfl | rfl | rfl | rfl | rfl
  ·
    refine G.stC H f1 (by decide) (i := 0) rfl lB g2 (y := (x2 &&& 255)) (own_narC (own_u16 (own_and255 _))) at_121 (pc' := 122) rfl ?_
    intro T1 h1_ H1 W2 A3
    replace A3 : Arv Z h1_ p0 c0 .char 7 [(.int (x2 &&& 255)), (.int 108), (.int 105), (.int 101), (.int 110), (.int 116), (.int ((XT.ushr x2 8) &&& 255))] (.int 0) := A3
    exact cut24_122 V x0 x1 x2 x3 x4 1 1 x800340 (x2 &&& 255) ((XT.ushr x2 8) &&& 255) p0 c0 (x2 &&& 255) 108 105 101 110 116 ((XT.ushr x2 8) &&& 255) ((H1.less all0).mono (C' := 1) (S' := 7) (by decide) (by decide)) (own_and255 _) (by decide) (by decide) (by decide) (by decide) (by decide) (own_and255 _) A3
  ·
    refine G.stC H f1 (by decide) (i := 1) rfl lB g2 (y := (x2 &&& 255)) (own_narC (own_u16 (own_and255 _))) at_121 (pc' := 122) rfl ?_
    intro T4 h4_ H4 W5 A6
    replace A6 : Arv Z h4_ p0 c0 .char 7 [(.int 99), (.int (x2 &&& 255)), (.int 105), (.int 101), (.int 110), (.int 116), (.int ((XT.ushr x2 8) &&& 255))] (.int 0) := A6
    exact cut24_122 V x0 x1 x2 x3 x4 1 1 x800340 (x2 &&& 255) ((XT.ushr x2 8) &&& 255) p0 c0 99 (x2 &&& 255) 105 101 110 116 ((XT.ushr x2 8) &&& 255) ((H4.less all0).mono (C' := 1) (S' := 7) (by decide) (by decide)) (by decide) (own_and255 _) (by decide) (by decide) (by decide) (by decide) (own_and255 _) A6
  ·
    refine G.stC H f1 (by decide) (i := 2) rfl lB g2 (y := (x2 &&& 255)) (own_narC (own_u16 (own_and255 _))) at_121 (pc' := 122) rfl ?_
    intro T7 h7_ H7 W8 A9
    replace A9 : Arv Z h7_ p0 c0 .char 7 [(.int 99), (.int 108), (.int (x2 &&& 255)), (.int 101), (.int 110), (.int 116), (.int ((XT.ushr x2 8) &&& 255))] (.int 0) := A9
    exact cut24_122 V x0 x1 x2 x3 x4 1 1 x800340 (x2 &&& 255) ((XT.ushr x2 8) &&& 255) p0 c0 99 108 (x2 &&& 255) 101 110 116 ((XT.ushr x2 8) &&& 255) ((H7.less all0).mono (C' := 1) (S' := 7) (by decide) (by decide)) (by decide) (by decide) (own_and255 _) (by decide) (by decide) (by decide) (own_and255 _) A9
  ·
    refine G.stC H f1 (by decide) (i := 3) rfl lB g2 (y := (x2 &&& 255)) (own_narC (own_u16 (own_and255 _))) at_121 (pc' := 122) rfl ?_
    intro T10 h10_ H10 W11 A12
    replace A12 : Arv Z h10_ p0 c0 .char 7 [(.int 99), (.int 108), (.int 105), (.int (x2 &&& 255)), (.int 110), (.int 116), (.int ((XT.ushr x2 8) &&& 255))] (.int 0) := A12
    exact cut24_122 V x0 x1 x2 x3 x4 1 1 x800340 (x2 &&& 255) ((XT.ushr x2 8) &&& 255) p0 c0 99 108 105 (x2 &&& 255) 110 116 ((XT.ushr x2 8) &&& 255) ((H10.less all0).mono (C' := 1) (S' := 7) (by decide) (by decide)) (by decide) (by decide) (by decide) (own_and255 _) (by decide) (by decide) (own_and255 _) A12
  ·
    refine G.stC H f1 (by decide) (i := 4) rfl lB g2 (y := (x2 &&& 255)) (own_narC (own_u16 (own_and255 _))) at_121 (pc' := 122) rfl ?_
    intro T13 h13_ H13 W14 A15
    replace A15 : Arv Z h13_ p0 c0 .char 7 [(.int 99), (.int 108), (.int 105), (.int 101), (.int (x2 &&& 255)), (.int 116), (.int ((XT.ushr x2 8) &&& 255))] (.int 0) := A15
    exact cut24_122 V x0 x1 x2 x3 x4 1 1 x800340 (x2 &&& 255) ((XT.ushr x2 8) &&& 255) p0 c0 99 108 105 101 (x2 &&& 255) 116 ((XT.ushr x2 8) &&& 255) ((H13.less all0).mono (C' := 1) (S' := 7) (by decide) (by decide)) (by decide) (by decide) (by decide) (by decide) (own_and255 _) (by decide) (own_and255 _) A15
  ·
    refine G.stC H f1 (by decide) (i := 5) rfl lB g2 (y := (x2 &&& 255)) (own_narC (own_u16 (own_and255 _))) at_121 (pc' := 122) rfl ?_
    intro T16 h16_ H16 W17 A18
    replace A18 : Arv Z h16_ p0 c0 .char 7 [(.int 99), (.int 108), (.int 105), (.int 101), (.int 110), (.int (x2 &&& 255)), (.int ((XT.ushr x2 8) &&& 255))] (.int 0) := A18
    exact cut24_122 V x0 x1 x2 x3 x4 1 1 x800340 (x2 &&& 255) ((XT.ushr x2 8) &&& 255) p0 c0 99 108 105 101 110 (x2 &&& 255) ((XT.ushr x2 8) &&& 255) ((H16.less all0).mono (C' := 1) (S' := 7) (by decide) (by decide)) (by decide) (by decide) (by decide) (by decide) (by decide) (own_and255 _) (own_and255 _) A18
  ·
    refine G.stC H f1 (by decide) (i := 6) rfl lB g2 (y := (x2 &&& 255)) (own_narC (own_u16 (own_and255 _))) at_121 (pc' := 122) rfl ?_
    intro T19 h19_ H19 W20 A21
    replace A21 : Arv Z h19_ p0 c0 .char 7 [(.int 99), (.int 108), (.int 105), (.int 101), (.int 110), (.int 116), (.int (x2 &&& 255))] (.int 0) := A21
    exact cut24_122 V x0 x1 x2 x3 x4 1 1 x800340 (x2 &&& 255) ((XT.ushr x2 8) &&& 255) p0 c0 99 108 105 101 110 116 (x2 &&& 255) ((H19.less all0).mono (C' := 1) (S' := 7) (by decide) (by decide)) (by decide) (by decide) (by decide) (by decide) (by decide) (by decide) (own_and255 _) A21
set_option maxRecDepth 65536 in
set_option maxHeartbeats 40000000 in
theorem cut71_121 (V : Env1 Z a0 n0 uu0 uu1 uu2 uu3 uu4 uu5 uu6 uu7 uu8 uu9 uu10 uu11 uu12 uu13 uu14 uu15) (x90121 : Int32) (x0 : Int32) (x1 : Int32) (x2 : Int32) (x3 : Int32) (x4 : Int32) (x800340 : Int32) (p0 : Addr) (c0 : ClassId) (H : Hs p l e room_1 s m as' below meth c Z a0 ELs True x.cls n0 code maxLocals ret x.name T h0 1 5 []) (sp : x90121 = 0 ∨ x90121 = 1 ∨ x90121 = 2 ∨ x90121 = 3 ∨ x90121 = 4) (f1 : Arv Z h0 p0 c0 .char 5 [(.int 99), (.int 108), (.int 105), (.int 101), (.int 110)] (.int 0)) (g2 : n0 ≤ p0) :
    Go p e below (FinP s below Z ELs True n0 room_1.cells room_1.slots (fun v h so => v = some (.int 1))) (T.setTop (mkF m 121 #[.val (.int x0), .val (.int x1), .val (.int x2), .val (.int x3), .val (.int x4), .val (.int 1), .val (.int 2), .val (.int x800340), .val (.int (x2 &&& 255)), .val (.int ((XT.ushr x2 8) &&& 255)), .unset, .val (.ref p0)] [(.int (x2 &&& 255)), (.int x90121), (.ref p0)])) := by
  rcases sp with rfl | rfl | rfl | rfl | rfl
  ·
    refine G.stC H f1 (by decide) (i := 0) rfl lB g2 (y := (x2 &&& 255)) (own_narC (own_u16 (own_and255 _))) at_121 (pc' := 122) rfl ?_
    intro T1 h1_ H1 W2 A3
    replace A3 : Arv Z h1_ p0 c0 .char 5 [(.int (x2 &&& 255)), (.int 108), (.int 105), (.int 101), (.int 110)] (.int 0) := A3
    exact cut10_122 V x0 x1 x2 x3 x4 1 2 x800340 (x2 &&& 255) ((XT.ushr x2 8) &&& 255) p0 c0 (x2 &&& 255) 108 105 101 110 ((H1.less all0).mono (C' := 1) (S' := 5) (by decide) (by decide)) (own_and255 _) (by decide) (by decide) (by decide) (by decide) A3
  ·
    refine G.stC H f1 (by decide) (i := 1) rfl lB g2 (y := (x2 &&& 255)) (own_narC (own_u16 (own_and255 _))) at_121 (pc' := 122) rfl ?_
    intro T4 h4_ H4 W5 A6
    replace A6 : Arv Z h4_ p0 c0 .char 5 [(.int 99), (.int (x2 &&& 255)), (.int 105), (.int 101), (.int 110)] (.int 0) := A6
    exact cut10_122 V x0 x1 x2 x3 x4 1 2 x800340 (x2 &&& 255) ((XT.ushr x2 8) &&& 255) p0 c0 99 (x2 &&& 255) 105 101 110 ((H4.less all0).mono (C' := 1) (S' := 5) (by decide) (by decide)) (by decide) (own_and255 _) (by decide) (by decide) (by decide) A6
  ·
    refine G.stC H f1 (by decide) (i := 2) rfl lB g2 (y := (x2 &&& 255)) (own_narC (own_u16 (own_and255 _))) at_121 (pc' := 122) rfl ?_
    intro T7 h7_ H7 W8 A9
    replace A9 : Arv Z h7_ p0 c0 .char 5 [(.int 99), (.int 108), (.int (x2 &&& 255)), (.int 101), (.int 110)] (.int 0) := A9
    exact cut10_122 V x0 x1 x2 x3 x4 1 2 x800340 (x2 &&& 255) ((XT.ushr x2 8) &&& 255) p0 c0 99 108 (x2 &&& 255) 101 110 ((H7.less all0).mono (C' := 1) (S' := 5) (by decide) (by decide)) (by decide) (by decide) (own_and255 _) (by decide) (by decide) A9
  ·
    refine G.stC H f1 (by decide) (i := 3) rfl lB g2 (y := (x2 &&& 255)) (own_narC (own_u16 (own_and255 _))) at_121 (pc' := 122) rfl ?_
    intro T10 h10_ H10 W11 A12
    replace A12 : Arv Z h10_ p0 c0 .char 5 [(.int 99), (.int 108), (.int 105), (.int (x2 &&& 255)), (.int 110)] (.int 0) := A12
    exact cut10_122 V x0 x1 x2 x3 x4 1 2 x800340 (x2 &&& 255) ((XT.ushr x2 8) &&& 255) p0 c0 99 108 105 (x2 &&& 255) 110 ((H10.less all0).mono (C' := 1) (S' := 5) (by decide) (by decide)) (by decide) (by decide) (by decide) (own_and255 _) (by decide) A12
  ·
    refine G.stC H f1 (by decide) (i := 4) rfl lB g2 (y := (x2 &&& 255)) (own_narC (own_u16 (own_and255 _))) at_121 (pc' := 122) rfl ?_
    intro T13 h13_ H13 W14 A15
    replace A15 : Arv Z h13_ p0 c0 .char 5 [(.int 99), (.int 108), (.int 105), (.int 101), (.int (x2 &&& 255))] (.int 0) := A15
    exact cut10_122 V x0 x1 x2 x3 x4 1 2 x800340 (x2 &&& 255) ((XT.ushr x2 8) &&& 255) p0 c0 99 108 105 101 (x2 &&& 255) ((H13.less all0).mono (C' := 1) (S' := 5) (by decide) (by decide)) (by decide) (by decide) (by decide) (by decide) (own_and255 _) A15
set_option maxRecDepth 65536 in
set_option maxHeartbeats 40000000 in
theorem cut72_87 (V : Env1 Z a0 n0 uu0 uu1 uu2 uu3 uu4 uu5 uu6 uu7 uu8 uu9 uu10 uu11 uu12 uu13 uu14 uu15) (x90087 : Int32) (x0 : Int32) (x1 : Int32) (x2 : Int32) (x3 : Int32) (x4 : Int32) (x800340 : Int32) (H : Hs p l e room_1 s m as' below meth c Z a0 ELs True x.cls n0 code maxLocals ret x.name T h0 0 0 []) (sp : x90087 = 0 ∨ x90087 = 1 ∨ x90087 = 2) :
    Go p e below (FinP s below Z ELs True n0 room_1.cells room_1.slots (fun v h so => v = some (.int 1))) (T.setTop (mkF m 87 #[.val (.int x0), .val (.int x1), .val (.int x2), .val (.int x3), .val (.int x4), .val (.int 1), .val (.int x90087), .val (.int x800340), .val (.int (x2 &&& 255)), .val (.int ((XT.ushr x2 8) &&& 255)), .unset, .unset] [])) := by
  rcases sp with rfl | rfl | rfl
  ·
    refine G.iload H at_87 (pc' := 89) rfl rfl ?_
    refine G.iload H at_89 (pc' := 91) rfl rfl ?_
    refine G.iload H at_91 (pc' := 93) rfl rfl ?_
    refine G.callS H (m16_base V ((XT.ushr x2 8) &&& 255) h0 H.old) (wd1 V) (wd2 V) (wd3 V) (wd4 V) (by decide) (argsL := [(.int 1), (.int 0), (.int ((XT.ushr x2 8) &&& 255))]) (rest := []) (W := 0) rfl rfl (lenOf (pd_0) rfl) rfl rfl at_93 (pc' := 96) rfl (by decide) (by decide) (by decide) (by decide) all0 ?_
    intro T1 h1_ v2 s3 H1 Q4
    obtain ⟨a5, k6, rfl, rfl, K7, g8, F9, F10⟩ := Q4
    have na5 : n0 ≤ a5 := Nat.le_trans H.le g8
    show Go p e below _ (T1.setTop (mkF m 96 #[.val (.int x0), .val (.int x1), .val (.int x2), .val (.int x3), .val (.int x4), .val (.int 1), .val (.int 0), .val (.int x800340), .val (.int (x2 &&& 255)), .val (.int ((XT.ushr x2 8) &&& 255)), .unset, .unset] [(.ref a5)]))
    refine G.astore H1 (L' := #[.val (.int x0), .val (.int x1), .val (.int x2), .val (.int x3), .val (.int x4), .val (.int 1), .val (.int 0), .val (.int x800340), .val (.int (x2 &&& 255)), .val (.int ((XT.ushr x2 8) &&& 255)), .unset, .val (.ref a5)]) at_96 (pc' := 98) rfl rfl rfl ?_
    refine G.iload H1 at_98 (pc' := 100) rfl rfl ?_
    by_cases c11 : x800340 = 0
    ·
      refine G.ifYes H1 at_100 (XT.i0_eq_t c11) (by decide) (pc' := 122) rfl ?_
      exact cut20_122 V x0 x1 x2 x3 x4 1 0 x800340 (x2 &&& 255) ((XT.ushr x2 8) &&& 255) a5 k6 99 108 105 101 110 116 ((H1.less all0).mono (C' := 1) (S' := 6) (by decide) (by decide)) (by decide) (by decide) (by decide) (by decide) (by decide) (by decide) F9
    ·
      refine G.ifNo H1 at_100 (pc' := 103) rfl (XT.i0_eq_f c11) ?_
      refine G.aload H1 at_103 (pc' := 105) rfl rfl rfl ?_
      refine G.arrlen H1 F9 at_105 (pc' := 106) rfl ?_
      refine G.ifNo H1 at_106 (pc' := 109) rfl (by decide) ?_
      refine G.aload H1 at_109 (pc' := 111) rfl rfl rfl ?_
      refine G.iloadN H1 at_111 (pc' := 112) rfl rfl ?_
      refine G.ldcI H1 (wd0 V) at_112 (pc' := 114) rfl ?_
      refine G.iand H1 at_114 (pc' := 115) rfl ?_
      refine G.aload H1 at_115 (pc' := 117) rfl rfl rfl ?_
      refine G.arrlen H1 F9 at_117 (pc' := 118) rfl ?_
      refine G.irem H1 at_118 (pc' := 119) rfl (by decide) ?_
      refine G.iload H1 at_119 (pc' := 121) rfl rfl ?_
      exact cut69_121 V ((x1 &&& 2147483647) % 6) x0 x1 x2 x3 x4 x800340 a5 k6 ((H1.less all0).mono (C' := 1) (S' := 6) (by decide) (by decide)) (own_r6 _) F9 na5
  ·
    refine G.iload H at_87 (pc' := 89) rfl rfl ?_
    refine G.iload H at_89 (pc' := 91) rfl rfl ?_
    refine G.iload H at_91 (pc' := 93) rfl rfl ?_
    refine G.callS H (m21_base V ((XT.ushr x2 8) &&& 255) h0 H.old (own_u16 (own_and255 _))) (wd1 V) (wd2 V) (wd3 V) (wd4 V) (by decide) (argsL := [(.int 1), (.int 1), (.int ((XT.ushr x2 8) &&& 255))]) (rest := []) (W := 0) rfl rfl (lenOf (pd_0) rfl) rfl rfl at_93 (pc' := 96) rfl (by decide) (by decide) (by decide) (by decide) all0 ?_
    intro T12 h12_ v13 s14 H12 Q15
    obtain ⟨a16, k17, rfl, rfl, K18, g19, F20, F21⟩ := Q15
    have na16 : n0 ≤ a16 := Nat.le_trans H.le g19
    show Go p e below _ (T12.setTop (mkF m 96 #[.val (.int x0), .val (.int x1), .val (.int x2), .val (.int x3), .val (.int x4), .val (.int 1), .val (.int 1), .val (.int x800340), .val (.int (x2 &&& 255)), .val (.int ((XT.ushr x2 8) &&& 255)), .unset, .unset] [(.ref a16)]))
    refine G.astore H12 (L' := #[.val (.int x0), .val (.int x1), .val (.int x2), .val (.int x3), .val (.int x4), .val (.int 1), .val (.int 1), .val (.int x800340), .val (.int (x2 &&& 255)), .val (.int ((XT.ushr x2 8) &&& 255)), .unset, .val (.ref a16)]) at_96 (pc' := 98) rfl rfl rfl ?_
    refine G.iload H12 at_98 (pc' := 100) rfl rfl ?_
    by_cases c22 : x800340 = 0
    ·
      refine G.ifYes H12 at_100 (XT.i0_eq_t c22) (by decide) (pc' := 122) rfl ?_
      exact cut24_122 V x0 x1 x2 x3 x4 1 1 x800340 (x2 &&& 255) ((XT.ushr x2 8) &&& 255) a16 k17 99 108 105 101 110 116 ((XT.ushr x2 8) &&& 255) ((H12.less all0).mono (C' := 1) (S' := 7) (by decide) (by decide)) (by decide) (by decide) (by decide) (by decide) (by decide) (by decide) (own_and255 _) F20
    ·
      refine G.ifNo H12 at_100 (pc' := 103) rfl (XT.i0_eq_f c22) ?_
      refine G.aload H12 at_103 (pc' := 105) rfl rfl rfl ?_
      refine G.arrlen H12 F20 at_105 (pc' := 106) rfl ?_
      refine G.ifNo H12 at_106 (pc' := 109) rfl (by decide) ?_
      refine G.aload H12 at_109 (pc' := 111) rfl rfl rfl ?_
      refine G.iloadN H12 at_111 (pc' := 112) rfl rfl ?_
      refine G.ldcI H12 (wd0 V) at_112 (pc' := 114) rfl ?_
      refine G.iand H12 at_114 (pc' := 115) rfl ?_
      refine G.aload H12 at_115 (pc' := 117) rfl rfl rfl ?_
      refine G.arrlen H12 F20 at_117 (pc' := 118) rfl ?_
      refine G.irem H12 at_118 (pc' := 119) rfl (by decide) ?_
      refine G.iload H12 at_119 (pc' := 121) rfl rfl ?_
      exact cut70_121 V ((x1 &&& 2147483647) % 7) x0 x1 x2 x3 x4 x800340 a16 k17 ((H12.less all0).mono (C' := 1) (S' := 7) (by decide) (by decide)) (own_r7 _) F20 na16
  ·
    refine G.iload H at_87 (pc' := 89) rfl rfl ?_
    refine G.iload H at_89 (pc' := 91) rfl rfl ?_
    refine G.iload H at_91 (pc' := 93) rfl rfl ?_
    refine G.callS H (m25_base V ((XT.ushr x2 8) &&& 255) h0 H.old) (wd1 V) (wd2 V) (wd3 V) (wd4 V) (by decide) (argsL := [(.int 1), (.int 2), (.int ((XT.ushr x2 8) &&& 255))]) (rest := []) (W := 0) rfl rfl (lenOf (pd_0) rfl) rfl rfl at_93 (pc' := 96) rfl (by decide) (by decide) (by decide) (by decide) all0 ?_
    intro T23 h23_ v24 s25 H23 Q26
    obtain ⟨a27, k28, rfl, rfl, K29, g30, F31, F32⟩ := Q26
    have na27 : n0 ≤ a27 := Nat.le_trans H.le g30
    show Go p e below _ (T23.setTop (mkF m 96 #[.val (.int x0), .val (.int x1), .val (.int x2), .val (.int x3), .val (.int x4), .val (.int 1), .val (.int 2), .val (.int x800340), .val (.int (x2 &&& 255)), .val (.int ((XT.ushr x2 8) &&& 255)), .unset, .unset] [(.ref a27)]))
    refine G.astore H23 (L' := #[.val (.int x0), .val (.int x1), .val (.int x2), .val (.int x3), .val (.int x4), .val (.int 1), .val (.int 2), .val (.int x800340), .val (.int (x2 &&& 255)), .val (.int ((XT.ushr x2 8) &&& 255)), .unset, .val (.ref a27)]) at_96 (pc' := 98) rfl rfl rfl ?_
    refine G.iload H23 at_98 (pc' := 100) rfl rfl ?_
    by_cases c33 : x800340 = 0
    ·
      refine G.ifYes H23 at_100 (XT.i0_eq_t c33) (by decide) (pc' := 122) rfl ?_
      exact cut10_122 V x0 x1 x2 x3 x4 1 2 x800340 (x2 &&& 255) ((XT.ushr x2 8) &&& 255) a27 k28 99 108 105 101 110 ((H23.less all0).mono (C' := 1) (S' := 5) (by decide) (by decide)) (by decide) (by decide) (by decide) (by decide) (by decide) F31
    ·
      refine G.ifNo H23 at_100 (pc' := 103) rfl (XT.i0_eq_f c33) ?_
      refine G.aload H23 at_103 (pc' := 105) rfl rfl rfl ?_
      refine G.arrlen H23 F31 at_105 (pc' := 106) rfl ?_
      refine G.ifNo H23 at_106 (pc' := 109) rfl (by decide) ?_
      refine G.aload H23 at_109 (pc' := 111) rfl rfl rfl ?_
      refine G.iloadN H23 at_111 (pc' := 112) rfl rfl ?_
      refine G.ldcI H23 (wd0 V) at_112 (pc' := 114) rfl ?_
      refine G.iand H23 at_114 (pc' := 115) rfl ?_
      refine G.aload H23 at_115 (pc' := 117) rfl rfl rfl ?_
      refine G.arrlen H23 F31 at_117 (pc' := 118) rfl ?_
      refine G.irem H23 at_118 (pc' := 119) rfl (by decide) ?_
      refine G.iload H23 at_119 (pc' := 121) rfl rfl ?_
      exact cut71_121 V ((x1 &&& 2147483647) % 5) x0 x1 x2 x3 x4 x800340 a27 k28 ((H23.less all0).mono (C' := 1) (S' := 5) (by decide) (by decide)) (own_r5 _) F31 na27
set_option maxRecDepth 65536 in
set_option maxHeartbeats 40000000 in
theorem cut73_121 (V : Env1 Z a0 n0 uu0 uu1 uu2 uu3 uu4 uu5 uu6 uu7 uu8 uu9 uu10 uu11 uu12 uu13 uu14 uu15) (x90121 : Int32) (x0 : Int32) (x1 : Int32) (x2 : Int32) (x3 : Int32) (x4 : Int32) (x800340 : Int32) (p0 : Addr) (c0 : ClassId) (H : Hs p l e room_1 s m as' below meth c Z a0 ELs True x.cls n0 code maxLocals ret x.name T h0 1 17 []) (sp : x90121 = 0 ∨ x90121 = 1 ∨ x90121 = 2 ∨ x90121 = 3 ∨ x90121 = 4 ∨ x90121 = 5 ∨ x90121 = 6 ∨ x90121 = 7 ∨ x90121 = 8 ∨ x90121 = 9 ∨ x90121 = 10 ∨ x90121 = 11 ∨ x90121 = 12 ∨ x90121 = 13 ∨ x90121 = 14 ∨ x90121 = 15 ∨ x90121 = 16) (f1 : Arv Z h0 p0 c0 .char 17 [(.int 99), (.int 108), (.int 105), (.int 101), (.int 110), (.int 116), (.int 45), (.int 105), (.int 110), (.int 100), (.int 105), (.int 118), (.int 105), (.int 100), (.int 117), (.int 97), (.int 108)] (.int 0)) (g2 : n0 ≤ p0) :
    Go p e below (FinP s below Z ELs True n0 room_1.cells room_1.slots (fun v h so => v = some (.int 1))) (T.setTop (mkF m 121 #[.val (.int x0), .val (.int x1), .val (.int x2), .val (.int x3), .val (.int x4), .val (.int 2), .val (.int 0), .val (.int x800340), .val (.int (x2 &&& 255)), .val (.int ((XT.ushr x2 8) &&& 255)), .unset, .val (.ref p0)] [(.int (x2 &&& 255)), (.int x90121), (.ref p0)])) := by
  rcases sp with rfl | rfl | rfl | rfl | rfl | rfl | rfl | rfl | rfl | rfl | rfl | rfl | rfl | rfl | rfl | rfl | rfl
  ·
    refine G.stC H f1 (by decide) (i := 0) rfl lB g2 (y := (x2 &&& 255)) (own_narC (own_u16 (own_and255 _))) at_121 (pc' := 122) rfl ?_
    intro T1 h1_ H1 W2 A3
    replace A3 : Arv Z h1_ p0 c0 .char 17 [(.int (x2 &&& 255)), (.int 108), (.int 105), (.int 101), (.int 110), (.int 116), (.int 45), (.int 105), (.int 110), (.int 100), (.int 105), (.int 118), (.int 105), (.int 100), (.int 117), (.int 97), (.int 108)] (.int 0) := A3
    exact cut31_122 V x0 x1 x2 x3 x4 2 0 x800340 (x2 &&& 255) ((XT.ushr x2 8) &&& 255) p0 c0 (x2 &&& 255) 108 105 101 110 116 45 105 110 100 105 118 105 100 117 97 108 ((H1.less all0).mono (C' := 1) (S' := 17) (by decide) (by decide)) (own_and255 _) (by decide) (by decide) (by decide) (by decide) (by decide) (by decide) (by decide) (by decide) (by decide) (by decide) (by decide) (by decide) (by decide) (by decide) (by decide) (by decide) A3
  ·
    refine G.stC H f1 (by decide) (i := 1) rfl lB g2 (y := (x2 &&& 255)) (own_narC (own_u16 (own_and255 _))) at_121 (pc' := 122) rfl ?_
    intro T4 h4_ H4 W5 A6
    replace A6 : Arv Z h4_ p0 c0 .char 17 [(.int 99), (.int (x2 &&& 255)), (.int 105), (.int 101), (.int 110), (.int 116), (.int 45), (.int 105), (.int 110), (.int 100), (.int 105), (.int 118), (.int 105), (.int 100), (.int 117), (.int 97), (.int 108)] (.int 0) := A6
    exact cut31_122 V x0 x1 x2 x3 x4 2 0 x800340 (x2 &&& 255) ((XT.ushr x2 8) &&& 255) p0 c0 99 (x2 &&& 255) 105 101 110 116 45 105 110 100 105 118 105 100 117 97 108 ((H4.less all0).mono (C' := 1) (S' := 17) (by decide) (by decide)) (by decide) (own_and255 _) (by decide) (by decide) (by decide) (by decide) (by decide) (by decide) (by decide) (by decide) (by decide) (by decide) (by decide) (by decide) (by decide) (by decide) (by decide) A6
  ·
    refine G.stC H f1 (by decide) (i := 2) rfl lB g2 (y := (x2 &&& 255)) (own_narC (own_u16 (own_and255 _))) at_121 (pc' := 122) rfl ?_
    intro T7 h7_ H7 W8 A9
    replace A9 : Arv Z h7_ p0 c0 .char 17 [(.int 99), (.int 108), (.int (x2 &&& 255)), (.int 101), (.int 110), (.int 116), (.int 45), (.int 105), (.int 110), (.int 100), (.int 105), (.int 118), (.int 105), (.int 100), (.int 117), (.int 97), (.int 108)] (.int 0) := A9
    exact cut31_122 V x0 x1 x2 x3 x4 2 0 x800340 (x2 &&& 255) ((XT.ushr x2 8) &&& 255) p0 c0 99 108 (x2 &&& 255) 101 110 116 45 105 110 100 105 118 105 100 117 97 108 ((H7.less all0).mono (C' := 1) (S' := 17) (by decide) (by decide)) (by decide) (by decide) (own_and255 _) (by decide) (by decide) (by decide) (by decide) (by decide) (by decide) (by decide) (by decide) (by decide) (by decide) (by decide) (by decide) (by decide) (by decide) A9
  ·
    refine G.stC H f1 (by decide) (i := 3) rfl lB g2 (y := (x2 &&& 255)) (own_narC (own_u16 (own_and255 _))) at_121 (pc' := 122) rfl ?_
    intro T10 h10_ H10 W11 A12
    replace A12 : Arv Z h10_ p0 c0 .char 17 [(.int 99), (.int 108), (.int 105), (.int (x2 &&& 255)), (.int 110), (.int 116), (.int 45), (.int 105), (.int 110), (.int 100), (.int 105), (.int 118), (.int 105), (.int 100), (.int 117), (.int 97), (.int 108)] (.int 0) := A12
    exact cut31_122 V x0 x1 x2 x3 x4 2 0 x800340 (x2 &&& 255) ((XT.ushr x2 8) &&& 255) p0 c0 99 108 105 (x2 &&& 255) 110 116 45 105 110 100 105 118 105 100 117 97 108 ((H10.less all0).mono (C' := 1) (S' := 17) (by decide) (by decide)) (by decide) (by decide) (by decide) (own_and255 _) (by decide) (by decide) (by decide) (by decide) (by decide) (by decide) (by decide) (by decide) (by decide) (by decide) (by decide) (by decide) (by decide) A12
  ·
    refine G.stC H f1 (by decide) (i := 4) rfl lB g2 (y := (x2 &&& 255)) (own_narC (own_u16 (own_and255 _))) at_121 (pc' := 122) rfl ?_
    intro T13 h13_ H13 W14 A15
    replace A15 : Arv Z h13_ p0 c0 .char 17 [(.int 99), (.int 108), (.int 105), (.int 101), (.int (x2 &&& 255)), (.int 116), (.int 45), (.int 105), (.int 110), (.int 100), (.int 105), (.int 118), (.int 105), (.int 100), (.int 117), (.int 97), (.int 108)] (.int 0) := A15
    exact cut31_122 V x0 x1 x2 x3 x4 2 0 x800340 (x2 &&& 255) ((XT.ushr x2 8) &&& 255) p0 c0 99 108 105 101 (x2 &&& 255) 116 45 105 110 100 105 118 105 100 117 97 108 ((H13.less all0).mono (C' := 1) (S' := 17) (by decide) (by decide)) (by decide) (by decide) (by decide) (by decide) (own_and255 _) (by decide) (by decide) (by decide) (by decide) (by decide) (by decide) (by decide) (by decide) (by decide) (by decide) (by decide) (by decide) A15
  ·
    refine G.stC H f1 (by decide) (i := 5) rfl lB g2 (y := (x2 &&& 255)) (own_narC (own_u16 (own_and255 _))) at_121 (pc' := 122) rfl ?_
    intro T16 h16_ H16 W17 A18
    replace A18 : Arv Z h16_ p0 c0 .char 17 [(.int 99), (.int 108), (.int 105), (.int 101), (.int 110), (.int (x2 &&& 255)), (.int 45), (.int 105), (.int 110), (.int 100), (.int 105), (.int 118), (.int 105), (.int 100), (.int 117), (.int 97), (.int 108)] (.int 0) := A18
    exact cut31_122 V x0 x1 x2 x3 x4 2 0 x800340 (x2 &&& 255) ((XT.ushr x2 8) &&& 255) p0 c0 99 108 105 101 110 (x2 &&& 255) 45 105 110 100 105 118 105 100 117 97 108 ((H16.less all0).mono (C' := 1) (S' := 17) (by decide) (by decide)) (by decide) (by decide) (by decide) (by decide) (by decide) (own_and255 _) (by decide) (by decide) (by decide) (by decide) (by decide) (by decide) (by decide) (by decide) (by decide) (by decide) (by decide) A18
  ·
    refine G.stC H f1 (by decide) (i := 6) rfl lB g2 (y := (x2 &&& 255)) (own_narC (own_u16 (own_and255 _))) at_121 (pc' := 122) rfl ?_
    intro T19 h19_ H19 W20 A21
    replace A21 : Arv Z h19_ p0 c0 .char 17 [(.int 99), (.int 108), (.int 105), (.int 101), (.int 110), (.int 116), (.int (x2 &&& 255)), (.int 105), (.int 110), (.int 100), (.int 105), (.int 118), (.int 105), (.int 100), (.int 117), (.int 97), (.int 108)] (.int 0) := A21
    exact cut31_122 V x0 x1 x2 x3 x4 2 0 x800340 (x2 &&& 255) ((XT.ushr x2 8) &&& 255) p0 c0 99 108 105 101 110 116 (x2 &&& 255) 105 110 100 105 118 105 100 117 97 108 ((H19.less all0).mono (C' := 1) (S' := 17) (by decide) (by decide)) (by decide) (by decide) (by decide) (by decide) (by decide) (by decide) (own_and255 _) (by decide) (by decide) (by decide) (by decide) (by decide) (by decide) (by decide) (by decide) (by decide) (by decide) A21
  ·
    refine G.stC H f1 (by decide) (i := 7) rfl lB g2 (y := (x2 &&& 255)) (own_narC (own_u16 (own_and255 _))) at_121 (pc' := 122) rfl ?_
    intro T22 h22_ H22 W23 A24
    replace A24 : Arv Z h22_ p0 c0 .char 17 [(.int 99), (.int 108), (.int 105), (.int 101), (.int 110), (.int 116), (.int 45), (.int (x2 &&& 255)), (.int 110), (.int 100), (.int 105), (.int 118), (.int 105), (.int 100), (.int 117), (.int 97), (.int 108)] (.int 0) := A24
    exact cut31_122 V x0 x1 x2 x3 x4 2 0 x800340 (x2 &&& 255) ((XT.ushr x2 8) &&& 255) p0 c0 99 108 105 101 110 116 45 (x2 &&& 255) 110 100 105 118 105 100 117 97 108 ((H22.less all0).mono (C' := 1) (S' := 17) (by decide) (by decide)) (by decide) (by decide) (by decide) (by decide) (by decide) (by decide) (by decide) (own_and255 _) (by decide) (by decide) (by decide) (by decide) (by decide) (by decide) (by decide) (by decide) (by decide) A24
  ·
    refine G.stC H f1 (by decide) (i := 8) rfl lB g2 (y := (x2 &&& 255)) (own_narC (own_u16 (own_and255 _))) at_121 (pc' := 122) rfl ?_
    intro T25 h25_ H25 W26 A27
    replace A27 : Arv Z h25_ p0 c0 .char 17 [(.int 99), (.int 108), (.int 105), (.int 101), (.int 110), (.int 116), (.int 45), (.int 105), (.int (x2 &&& 255)), (.int 100), (.int 105), (.int 118), (.int 105), (.int 100), (.int 117), (.int 97), (.int 108)] (.int 0) := A27
    exact cut31_122 V x0 x1 x2 x3 x4 2 0 x800340 (x2 &&& 255) ((XT.ushr x2 8) &&& 255) p0 c0 99 108 105 101 110 116 45 105 (x2 &&& 255) 100 105 118 105 100 117 97 108 ((H25.less all0).mono (C' := 1) (S' := 17) (by decide) (by decide)) (by decide) (by decide) (by decide) (by decide) (by decide) (by decide) (by decide) (by decide) (own_and255 _) (by decide) (by decide) (by decide) (by decide) (by decide) (by decide) (by decide) (by decide) A27
  ·
    refine G.stC H f1 (by decide) (i := 9) rfl lB g2 (y := (x2 &&& 255)) (own_narC (own_u16 (own_and255 _))) at_121 (pc' := 122) rfl ?_
    intro T28 h28_ H28 W29 A30
    replace A30 : Arv Z h28_ p0 c0 .char 17 [(.int 99), (.int 108), (.int 105), (.int 101), (.int 110), (.int 116), (.int 45), (.int 105), (.int 110), (.int (x2 &&& 255)), (.int 105), (.int 118), (.int 105), (.int 100), (.int 117), (.int 97), (.int 108)] (.int 0) := A30
    exact cut31_122 V x0 x1 x2 x3 x4 2 0 x800340 (x2 &&& 255) ((XT.ushr x2 8) &&& 255) p0 c0 99 108 105 101 110 116 45 105 110 (x2 &&& 255) 105 118 105 100 117 97 108 ((H28.less all0).mono (C' := 1) (S' := 17) (by decide) (by decide)) (by decide) (by decide) (by decide) (by decide) (by decide) (by decide) (by decide) (by decide) (by decide) (own_and255 _) (by decide) (by decide) (by decide) (by decide) (by decide) (by decide) (by decide) A30
  ·
    refine G.stC H f1 (by decide) (i := 10) rfl lB g2 (y := (x2 &&& 255)) (own_narC (own_u16 (own_and255 _))) at_121 (pc' := 122) rfl ?_
    intro T31 h31_ H31 W32 A33
    replace A33 : Arv Z h31_ p0 c0 .char 17 [(.int 99), (.int 108), (.int 105), (.int 101), (.int 110), (.int 116), (.int 45), (.int 105), (.int 110), (.int 100), (.int (x2 &&& 255)), (.int 118), (.int 105), (.int 100), (.int 117), (.int 97), (.int 108)] (.int 0) := A33
    exact cut31_122 V x0 x1 x2 x3 x4 2 0 x800340 (x2 &&& 255) ((XT.ushr x2 8) &&& 255) p0 c0 99 108 105 101 110 116 45 105 110 100 (x2 &&& 255) 118 105 100 117 97 108 ((H31.less all0).mono (C' := 1) (S' := 17) (by decide) (by decide)) (by decide) (by decide) (by decide) (by decide) (by decide) (by decide) (by decide) (by decide) (by decide) (by decide) (own_and255 _) (by decide) (by decide) (by decide) (by decide) (by decide) (by decide) A33
  ·
    refine G.stC H f1 (by decide) (i := 11) rfl lB g2 (y := (x2 &&& 255)) (own_narC (own_u16 (own_and255 _))) at_121 (pc' := 122) rfl ?_
    intro T34 h34_ H34 W35 A36
    replace A36 : Arv Z h34_ p0 c0 .char 17 [(.int 99), (.int 108), (.int 105), (.int 101), (.int 110), (.int 116), (.int 45), (.int 105), (.int 110), (.int 100), (.int 105), (.int (x2 &&& 255)), (.int 105), (.int 100), (.int 117), (.int 97), (.int 108)] (.int 0) := A36
    exact cut31_122 V x0 x1 x2 x3 x4 2 0 x800340 (x2 &&& 255) ((XT.ushr x2 8) &&& 255) p0 c0 99 108 105 101 110 116 45 105 110 100 105 (x2 &&& 255) 105 100 117 97 108 ((H34.less all0).mono (C' := 1) (S' := 17) (by decide) (by decide)) (by decide) (by decide) (by decide) (by decide) (by decide) (by decide) (by decide) (by decide) (by decide) (by decide) (by decide) (own_and255 _) (by decide) (by decide) (by decide) (by decide) (by decide) A36
  ·
    refine G.stC H f1 (by decide) (i := 12) rfl lB g2 (y := (x2 &&& 255)) (own_narC (own_u16 (own_and255 _))) at_121 (pc' := 122) rfl ?_
    intro T37 h37_ H37 W38 A39
    replace A39 : Arv Z h37_ p0 c0 .char 17 [(.int 99), (.int 108), (.int 105), (.int 101), (.int 110), (.int 116), (.int 45), (.int 105), (.int 110), (.int 100), (.int 105), (.int 118), (.int (x2 &&& 255)), (.int 100), (.int 117), (.int 97), (.int 108)] (.int 0) := A39
    exact cut31_122 V x0 x1 x2 x3 x4 2 0 x800340 (x2 &&& 255) ((XT.ushr x2 8) &&& 255) p0 c0 99 108 105 101 110 116 45 105 110 100 105 118 (x2 &&& 255) 100 117 97 108 ((H37.less all0).mono (C' := 1) (S' := 17) (by decide) (by decide)) (by decide) (by decide) (by decide) (by decide) (by decide) (by decide) (by decide) (by decide) (by decide) (by decide) (by decide) (by decide) (own_and255 _) (by decide) (by decide) (by decide) (by decide) A39
  ·
    refine G.stC H f1 (by decide) (i := 13) rfl lB g2 (y := (x2 &&& 255)) (own_narC (own_u16 (own_and255 _))) at_121 (pc' := 122) rfl ?_
    intro T40 h40_ H40 W41 A42
    replace A42 : Arv Z h40_ p0 c0 .char 17 [(.int 99), (.int 108), (.int 105), (.int 101), (.int 110), (.int 116), (.int 45), (.int 105), (.int 110), (.int 100), (.int 105), (.int 118), (.int 105), (.int (x2 &&& 255)), (.int 117), (.int 97), (.int 108)] (.int 0) := A42
    exact cut31_122 V x0 x1 x2 x3 x4 2 0 x800340 (x2 &&& 255) ((XT.ushr x2 8) &&& 255) p0 c0 99 108 105 101 110 116 45 105 110 100 105 118 105 (x2 &&& 255) 117 97 108 ((H40.less all0).mono (C' := 1) (S' := 17) (by decide) (by decide)) (by decide) (by decide) (by decide) (by decide) (by decide) (by decide) (by decide) (by decide) (by decide) (by decide) (by decide) (by decide) (by decide) (own_and255 _) (by decide) (by decide) (by decide) A42
  ·
    refine G.stC H f1 (by decide) (i := 14) rfl lB g2 (y := (x2 &&& 255)) (own_narC (own_u16 (own_and255 _))) at_121 (pc' := 122) rfl ?_
    intro T43 h43_ H43 W44 A45
    replace A45 : Arv Z h43_ p0 c0 .char 17 [(.int 99), (.int 108), (.int 105), (.int 101), (.int 110), (.int 116), (.int 45), (.int 105), (.int 110), (.int 100), (.int 105), (.int 118), (.int 105), (.int 100), (.int (x2 &&& 255)), (.int 97), (.int 108)] (.int 0) := A45
    exact cut31_122 V x0 x1 x2 x3 x4 2 0 x800340 (x2 &&& 255) ((XT.ushr x2 8) &&& 255) p0 c0 99 108 105 101 110 116 45 105 110 100 105 118 105 100 (x2 &&& 255) 97 108 ((H43.less all0).mono (C' := 1) (S' := 17) (by decide) (by decide)) (by decide) (by decide) (by decide) (by decide) (by decide) (by decide) (by decide) (by decide) (by decide) (by decide) (by decide) (by decide) (by decide) (by decide) (own_and255 _) (by decide) (by decide) A45
  ·
    refine G.stC H f1 (by decide) (i := 15) rfl lB g2 (y := (x2 &&& 255)) (own_narC (own_u16 (own_and255 _))) at_121 (pc' := 122) rfl ?_
    intro T46 h46_ H46 W47 A48
    replace A48 : Arv Z h46_ p0 c0 .char 17 [(.int 99), (.int 108), (.int 105), (.int 101), (.int 110), (.int 116), (.int 45), (.int 105), (.int 110), (.int 100), (.int 105), (.int 118), (.int 105), (.int 100), (.int 117), (.int (x2 &&& 255)), (.int 108)] (.int 0) := A48
    exact cut31_122 V x0 x1 x2 x3 x4 2 0 x800340 (x2 &&& 255) ((XT.ushr x2 8) &&& 255) p0 c0 99 108 105 101 110 116 45 105 110 100 105 118 105 100 117 (x2 &&& 255) 108 ((H46.less all0).mono (C' := 1) (S' := 17) (by decide) (by decide)) (by decide) (by decide) (by decide) (by decide) (by decide) (by decide) (by decide) (by decide) (by decide) (by decide) (by decide) (by decide) (by decide) (by decide) (by decide) (own_and255 _) (by decide) A48
  ·
    refine G.stC H f1 (by decide) (i := 16) rfl lB g2 (y := (x2 &&& 255)) (own_narC (own_u16 (own_and255 _))) at_121 (pc' := 122) rfl ?_
    intro T49 h49_ H49 W50 A51
    replace A51 : Arv Z h49_ p0 c0 .char 17 [(.int 99), (.int 108), (.int 105), (.int 101), (.int 110), (.int 116), (.int 45), (.int 105), (.int 110), (.int 100), (.int 105), (.int 118), (.int 105), (.int 100), (.int 117), (.int 97), (.int (x2 &&& 255))] (.int 0) := A51
    exact cut31_122 V x0 x1 x2 x3 x4 2 0 x800340 (x2 &&& 255) ((XT.ushr x2 8) &&& 255) p0 c0 99 108 105 101 110 116 45 105 110 100 105 118 105 100 117 97 (x2 &&& 255) ((H49.less all0).mono (C' := 1) (S' := 17) (by decide) (by decide)) (by decide) (by decide) (by decide) (by decide) (by decide) (by decide) (by decide) (by decide) (by decide) (by decide) (by decide) (by decide) (by decide) (by decide) (by decide) (by decide) (own_and255 _) A51
set_option maxRecDepth 65536 in
set_option maxHeartbeats 40000000 in
theorem cut74_121 (V : Env1 Z a0 n0 uu0 uu1 uu2 uu3 uu4 uu5 uu6 uu7 uu8 uu9 uu10 uu11 uu12 uu13 uu14 uu15) (x90121 : Int32) (x0 : Int32) (x1 : Int32) (x2 : Int32) (x3 : Int32) (x4 : Int32) (x800340 : Int32) (p0 : Addr) (c0 : ClassId) (H : Hs p l e room_1 s m as' below meth c Z a0 ELs True x.cls n0 code maxLocals ret x.name T h0 1 18 []) (sp : x90121 = 0 ∨ x90121 = 1 ∨ x90121 = 2 ∨ x90121 = 3 ∨ x90121 = 4 ∨ x90121 = 5 ∨ x90121 = 6 ∨ x90121 = 7 ∨ x90121 = 8 ∨ x90121 = 9 ∨ x90121 = 10 ∨ x90121 = 11 ∨ x90121 = 12 ∨ x90121 = 13 ∨ x90121 = 14 ∨ x90121 = 15 ∨ x90121 = 16 ∨ x90121 = 17) (f1 : Arv Z h0 p0 c0 .char 18 [(.int 99), (.int 108), (.int 105), (.int 101), (.int 110), (.int 116), (.int 45), (.int 105), (.int 110), (.int 100), (.int 105), (.int 118), (.int 105), (.int 100), (.int 117), (.int 97), (.int 108), (.int ((XT.ushr x2 8) &&& 255))] (.int 0)) (g2 : n0 ≤ p0) :
    Go p e below (FinP s below Z ELs True n0 room_1.cells room_1.slots (fun v h so => v = some (.int 1))) (T.setTop (mkF m 121 #[.val (.int x0), .val (.int x1), .val (.int x2), .val (.int x3), .val (.int x4), .val (.int 2), .val (.int 1), .val (.int x800340), .val (.int (x2 &&& 255)), .val (.int ((XT.ushr x2 8) &&& 255)), .unset, .val (.ref p0)] [(.int (x2 &&& 255)), (.int x90121), (.ref p0)])) := by
  rcases sp with rfl | rfl | rfl | rfl | rfl | rfl | rfl | rfl | rfl | rfl | rfl | rfl | rfl | rfl | rfl | rfl | rfl | rfl
  ·
    refine G.stC H f1 (by decide) (i := 0) rfl lB g2 (y := (x2 &&& 255)) (own_narC (own_u16 (own_and255 _))) at_121 (pc' := 122) rfl ?_
    intro T1 h1_ H1 W2 A3
    replace A3 : Arv Z h1_ p0 c0 .char 18 [(.int (x2 &&& 255)), (.int 108), (.int 105), (.int 101), (.int 110), (.int 116), (.int 45), (.int 105), (.int 110), (.int 100), (.int 105), (.int 118), (.int 105), (.int 100), (.int 117), (.int 97), (.int 108), (.int ((XT.ushr x2 8) &&& 255))] (.int 0) := A3
    exact cut35_122 V x0 x1 x2 x3 x4 2 1 x800340 (x2 &&& 255) ((XT.ushr x2 8) &&& 255) p0 c0 (x2 &&& 255) 108 105 101 110 116 45 105 110 100 105 118 105 100 117 97 108 ((XT.ushr x2 8) &&& 255) ((H1.less all0).mono (C' := 1) (S' := 18) (by decide) (by decide)) (own_and255 _) (by decide) (by decide) (by decide) (by decide) (by decide) (by decide) (by decide) (by decide) (by decide) (by decide) (by decide) (by decide) (by decide) (by decide) (by decide) (by decide) (own_and255 _) A3
  ·
    refine G.stC H f1 (by decide) (i := 1) rfl lB g2 (y := (x2 &&& 255)) (own_narC (own_u16 (own_and255 _))) at_121 (pc' := 122) rfl ?_
    intro T4 h4_ H4 W5 A6
    replace A6 : Arv Z h4_ p0 c0 .char 18 [(.int 99), (.int (x2 &&& 255)), (.int 105), (.int 101), (.int 110), (.int 116), (.int 45), (.int 105), (.int 110), (.int 100), (.int 105), (.int 118), (.int 105), (.int 100), (.int 117), (.int 97), (.int 108), (.int ((XT.ushr x2 8) &&& 255))] (.int 0) := A6
    exact cut35_122 V x0 x1 x2 x3 x4 2 1 x800340 (x2 &&& 255) ((XT.ushr x2 8) &&& 255) p0 c0 99 (x2 &&& 255) 105 101 110 116 45 105 110 100 105 118 105 100 117 97 108 ((XT.ushr x2 8) &&& 255) ((H4.less all0).mono (C' := 1) (S' := 18) (by decide) (by decide)) (by decide) (own_and255 _) (by decide) (by decide) (by decide) (by decide) (by decide) (by decide) (by decide) (by decide) (by decide) (by decide) (by decide) (by decide) (by decide) (by decide) (by decide) (own_and255 _) A6
  ·
    refine G.stC H f1 (by decide) (i := 2) rfl lB g2 (y := (x2 &&& 255)) (own_narC (own_u16 (own_and255 _))) at_121 (pc' := 122) rfl ?_
    intro T7 h7_ H7 W8 A9
    replace A9 : Arv Z h7_ p0 c0 .char 18 [(.int 99), (.int 108), (.int (x2 &&& 255)), (.int 101), (.int 110), (.int 116), (.int 45), (.int 105), (.int 110), (.int 100), (.int 105), (.int 118), (.int 105), (.int 100), (.int 117), (.int 97), (.int 108), (.int ((XT.ushr x2 8) &&& 255))] (.int 0) := A9
    exact cut35_122 V x0 x1 x2 x3 x4 2 1 x800340 (x2 &&& 255) ((XT.ushr x2 8) &&& 255) p0 c0 99 108 (x2 &&& 255) 101 110 116 45 105 110 100 105 118 105 100 117 97 108 ((XT.ushr x2 8) &&& 255) ((H7.less all0).mono (C' := 1) (S' := 18) (by decide) (by decide)) (by decide) (by decide) (own_and255 _) (by decide) (by decide) (by decide) (by decide) (by decide) (by decide) (by decide) (by decide) (by decide) (by decide) (by decide) (by decide) (by decide) (by decide) (own_and255 _) A9
  ·
    refine G.stC H f1 (by decide) (i := 3) rfl lB g2 (y := (x2 &&& 255)) (own_narC (own_u16 (own_and255 _))) at_121 (pc' := 122) rfl ?_
    intro T10 h10_ H10 W11 A12
    replace A12 : Arv Z h10_ p0 c0 .char 18 [(.int 99), (.int 108), (.int 105), (.int (x2 &&& 255)), (.int 110), (.int 116), (.int 45), (.int 105), (.int 110), (.int 100), (.int 105), (.int 118), (.int 105), (.int 100), (.int 117), (.int 97), (.int 108), (.int ((XT.ushr x2 8) &&& 255))] (.int 0) := A12
    exact cut35_122 V x0 x1 x2 x3 x4 2 1 x800340 (x2 &&& 255) ((XT.ushr x2 8) &&& 255) p0 c0 99 108 105 (x2 &&& 255) 110 116 45 105 110 100 105 118 105 100 117 97 108 ((XT.ushr x2 8) &&& 255) ((H10.less all0).mono (C' := 1) (S' := 18) (by decide) (by decide)) (by decide) (by decide) (by decide) (own_and255 _) (by decide) (by decide) (by decide) (by decide) (by decide) (by decide) (by decide) (by decide) (by decide) (by decide) (by decide) (by decide) (by decide) (own_and255 _) A12
  ·
    refine G.stC H f1 (by decide) (i := 4) rfl lB g2 (y := (x2 &&& 255)) (own_narC (own_u16 (own_and255 _))) at_121 (pc' := 122) rfl ?_
    intro T13 h13_ H13 W14 A15
    replace A15 : Arv Z h13_ p0 c0 .char 18 [(.int 99), (.int 108), (.int 105), (.int 101), (.int (x2 &&& 255)), (.int 116), (.int 45), (.int 105), (.int 110), (.int 100), (.int 105), (.int 118), (.int 105), (.int 100), (.int 117), (.int 97), (.int 108), (.int ((XT.ushr x2 8) &&& 255))] (.int 0) := A15
    exact cut35_122 V x0 x1 x2 x3 x4 2 1 x800340 (x2 &&& 255) ((XT.ushr x2 8) &&& 255) p0 c0 99 108 105 101 (x2 &&& 255) 116 45 105 110 100 105 118 105 100 117 97 108 ((XT.ushr x2 8) &&& 255) ((H13.less all0).mono (C' := 1) (S' := 18) (by decide) (by decide)) (by decide) (by decide) (by decide) (by decide) (own_and255 _) (by decide) (by decide) (by decide) (by decide) (by decide) (by decide) (by decide) (by decide) (by decide) (by decide) (by decide) (by decide) (own_and255 _) A15
  ·
    refine G.stC H f1 (by decide) (i := 5) rfl lB g2 (y := (x2 &&& 255)) (own_narC (own_u16 (own_and255 _))) at_121 (pc' := 122) rfl ?_
    intro T16 h16_ H16 W17 A18
    replace A18 : Arv Z h16_ p0 c0 .char 18 [(.int 99), (.int 108), (.int 105), (.int 101), (.int 110), (.int (x2 &&& 255)), (.int 45), (.int 105), (.int 110), (.int 100), (.int 105), (.int 118), (.int 105), (.int 100), (.int 117), (.int 97), (.int 108), (.int ((XT.ushr x2 8) &&& 255))] (.int 0) := A18
    exact cut35_122 V x0 x1 x2 x3 x4 2 1 x800340 (x2 &&& 255) ((XT.ushr x2 8) &&& 255) p0 c0 99 108 105 101 110 (x2 &&& 255) 45 105 110 100 105 118 105 100 117 97 108 ((XT.ushr x2 8) &&& 255) ((H16.less all0).mono (C' := 1) (S' := 18) (by decide) (by decide)) (by decide) (by decide) (by decide) (by decide) (by decide) (own_and255 _) (by decide) (by decide) (by decide) (by decide) (by decide) (by decide) (by decide) (by decide) (by decide) (by decide) (by decide) (own_and255 _) A18
  ·
    refine G.stC H f1 (by decide) (i := 6) rfl lB g2 (y := (x2 &&& 255)) (own_narC (own_u16 (own_and255 _))) at_121 (pc' := 122) rfl ?_
    intro T19 h19_ H19 W20 A21
    replace A21 : Arv Z h19_ p0 c0 .char 18 [(.int 99), (.int 108), (.int 105), (.int 101), (.int 110), (.int 116), (.int (x2 &&& 255)), (.int 105), (.int 110), (.int 100), (.int 105), (.int 118), (.int 105), (.int 100), (.int 117), (.int 97), (.int 108), (.int ((XT.ushr x2 8) &&& 255))] (.int 0) := A21
    exact cut35_122 V x0 x1 x2 x3 x4 2 1 x800340 (x2 &&& 255) ((XT.ushr x2 8) &&& 255) p0 c0 99 108 105 101 110 116 (x2 &&& 255) 105 110 100 105 118 105 100 117 97 108 ((XT.ushr x2 8) &&& 255) ((H19.less all0).mono (C' := 1) (S' := 18) (by decide) (by decide)) (by decide) (by decide) (by decide) (by decide) (by decide) (by decide) (own_and255 _) (by decide) (by decide) (by decide) (by decide) (by decide) (by decide) (by decide) (by decide) (by decide) (by decide) (own_and255 _) A21
  ·
    refine G.stC H f1 (by decide) (i := 7) rfl lB g2 (y := (x2 &&& 255)) (own_narC (own_u16 (own_and255 _))) at_121 (pc' := 122) rfl ?_
    intro T22 h22_ H22 W23 A24
    replace A24 : Arv Z h22_ p0 c0 .char 18 [(.int 99), (.int 108), (.int 105), (.int 101), (.int 110), (.int 116), (.int 45), (.int (x2 &&& 255)), (.int 110), (.int 100), (.int 105), (.int 118), (.int 105), (.int 100), (.int 117), (.int 97), (.int 108), (.int ((XT.ushr x2 8) &&& 255))] (.int 0) := A24
    exact cut35_122 V x0 x1 x2 x3 x4 2 1 x800340 (x2 &&& 255) ((XT.ushr x2 8) &&& 255) p0 c0 99 108 105 101 110 116 45 (x2 &&& 255) 110 100 105 118 105 100 117 97 108 ((XT.ushr x2 8) &&& 255) ((H22.less all0).mono (C' := 1) (S' := 18) (by decide) (by decide)) (by decide) (by decide) (by decide) (by decide) (by decide) (by decide) (by decide) (own_and255 _) (by decide) (by decide) (by decide) (by decide) (by decide) (by decide) (by decide) (by decide) (by decide) (own_and255 _) A24
  ·
    refine G.stC H f1 (by decide) (i := 8) rfl lB g2 (y := (x2 &&& 255)) (own_narC (own_u16 (own_and255 _))) at_121 (pc' := 122) rfl ?_
    intro T25 h25_ H25 W26 A27
    replace A27 : Arv Z h25_ p0 c0 .char 18 [(.int 99), (.int 108), (.int 105), (.int 101), (.int 110), (.int 116), (.int 45), (.int 105), (.int (x2 &&& 255)), (.int 100), (.int 105), (.int 118), (.int 105), (.int 100), (.int 117), (.int 97), (.int 108), (.int ((XT.ushr x2 8) &&& 255))] (.int 0) := A27
    exact cut35_122 V x0 x1 x2 x3 x4 2 1 x800340 (x2 &&& 255) ((XT.ushr x2 8) &&& 255) p0 c0 99 108 105 101 110 116 45 105 (x2 &&& 255) 100 105 118 105 100 117 97 108 ((XT.ushr x2 8) &&& 255) ((H25.less all0).mono (C' := 1) (S' := 18) (by decide) (by decide)) (by decide) (by decide) (by decide) (by decide) (by decide) (by decide) (by decide) (by decide) (own_and255 _) (by decide) (by decide) (by decide) (by decide) (by decide) (by decide) (by decide) (by decide) (own_and255 _) A27
  ·
    refine G.stC H f1 (by decide) (i := 9) rfl lB g2 (y := (x2 &&& 255)) (own_narC (own_u16 (own_and255 _))) at_121 (pc' := 122) rfl ?_
    intro T28 h28_ H28 W29 A30
    replace A30 : Arv Z h28_ p0 c0 .char 18 [(.int 99), (.int 108), (.int 105), (.int 101), (.int 110), (.int 116), (.int 45), (.int 105), (.int 110), (.int (x2 &&& 255)), (.int 105), (.int 118), (.int 105), (.int 100), (.int 117), (.int 97), (.int 108), (.int ((XT.ushr x2 8) &&& 255))] (.int 0) := A30
    exact cut35_122 V x0 x1 x2 x3 x4 2 1 x800340 (x2 &&& 255) ((XT.ushr x2 8) &&& 255) p0 c0 99 108 105 101 110 116 45 105 110 (x2 &&& 255) 105 118 105 100 117 97 108 ((XT.ushr x2 8) &&& 255) ((H28.less all0).mono (C' := 1) (S' := 18) (by decide) (by decide)) (by decide) (by decide) (by decide) (by decide) (by decide) (by decide) (by decide) (by decide) (by decide) (own_and255 _) (by decide) (by decide) (by decide) (by decide) (by decide) (by decide) (by decide) (own_and255 _) A30
  ·
    refine G.stC H f1 (by decide) (i := 10) rfl lB g2 (y := (x2 &&& 255)) (own_narC (own_u16 (own_and255 _))) at_121 (pc' := 122) rfl ?_
    intro T31 h31_ H31 W32 A33
    replace A33 : Arv Z h31_ p0 c0 .char 18 [(.int 99), (.int 108), (.int 105), (.int 101), (.int 110), (.int 116), (.int 45), (.int 105), (.int 110), (.int 100), (.int (x2 &&& 255)), (.int 118), (.int 105), (.int 100), (.int 117), (.int 97), (.int 108), (.int ((XT.ushr x2 8) &&& 255))] (.int 0) := A33
    exact cut35_122 V x0 x1 x2 x3 x4 2 1 x800340 (x2 &&& 255) ((XT.ushr x2 8) &&& 255) p0 c0 99 108 105 101 110 116 45 105 110 100 (x2 &&& 255) 118 105 100 117 97 108 ((XT.ushr x2 8) &&& 255) ((H31.less all0).mono (C' := 1) (S' := 18) (by decide) (by decide)) (by decide) (by decide) (by decide) (by decide) (by decide) (by decide) (by decide) (by decide) (by decide) (by decide) (own_and255 _) (by decide) (by decide) (by decide) (by decide) (by decide) (by decide) (own_and255 _) A33
  ·
    refine G.stC H f1 (by decide) (i := 11) rfl lB g2 (y := (x2 &&& 255)) (own_narC (own_u16 (own_and255 _))) at_121 (pc' := 122) rfl ?_
    intro T34 h34_ H34 W35 A36
    replace A36 : Arv Z h34_ p0 c0 .char 18 [(.int 99), (.int 108), (.int 105), (.int 101), (.int 110), (.int 116), (.int 45), (.int 105), (.int 110), (.int 100), (.int 105), (.int (x2 &&& 255)), (.int 105), (.int 100), (.int 117), (.int 97), (.int 108), (.int ((XT.ushr x2 8) &&& 255))] (.int 0) := A36
    exact cut35_122 V x0 x1 x2 x3 x4 2 1 x800340 (x2 &&& 255) ((XT.ushr x2 8) &&& 255) p0 c0 99 108 105 101 110 116 45 105 110 100 105 (x2 &&& 255) 105 100 117 97 108 ((XT.ushr x2 8) &&& 255) ((H34.less all0).mono (C' := 1) (S' := 18) (by decide) (by decide)) (by decide) (by decide) (by decide) (by decide) (by decide) (by decide) (by decide) (by decide) (by decide) (by decide) (by decide) (own_and255 _) (by decide) (by decide) (by decide) (by decide) (by decide) (own_and255 _) A36
  ·
    refine G.stC H f1 (by decide) (i := 12) rfl lB g2 (y := (x2 &&& 255)) (own_narC (own_u16 (own_and255 _))) at_121 (pc' := 122) rfl ?_
    intro T37 h37_ H37 W38 A39
    replace A39 : Arv Z h37_ p0 c0 .char 18 [(.int 99), (.int 108), (.int 105), (.int 101), (.int 110), (.int 116), (.int 45), (.int 105), (.int 110), (.int 100), (.int 105), (.int 118), (.int (x2 &&& 255)), (.int 100), (.int 117), (.int 97), (.int 108), (.int ((XT.ushr x2 8) &&& 255))] (.int 0) := A39
    exact cut35_122 V x0 x1 x2 x3 x4 2 1 x800340 (x2 &&& 255) ((XT.ushr x2 8) &&& 255) p0 c0 99 108 105 101 110 116 45 105 110 100 105 118 (x2 &&& 255) 100 117 97 108 ((XT.ushr x2 8) &&& 255) ((H37.less all0).mono (C' := 1) (S' := 18) (by decide) (by decide)) (by decide) (by decide) (by decide) (by decide) (by decide) (by decide) (by decide) (by decide) (by decide) (by decide) (by decide) (by decide) (own_and255 _) (by decide) (by decide) (by decide) (by decide) (own_and255 _) A39
  ·
    refine G.stC H f1 (by decide) (i := 13) rfl lB g2 (y := (x2 &&& 255)) (own_narC (own_u16 (own_and255 _))) at_121 (pc' := 122) rfl ?_
    intro T40 h40_ H40 W41 A42
    replace A42 : Arv Z h40_ p0 c0 .char 18 [(.int 99), (.int 108), (.int 105), (.int 101), (.int 110), (.int 116), (.int 45), (.int 105), (.int 110), (.int 100), (.int 105), (.int 118), (.int 105), (.int (x2 &&& 255)), (.int 117), (.int 97), (.int 108), (.int ((XT.ushr x2 8) &&& 255))] (.int 0) := A42
    exact cut35_122 V x0 x1 x2 x3 x4 2 1 x800340 (x2 &&& 255) ((XT.ushr x2 8) &&& 255) p0 c0 99 108 105 101 110 116 45 105 110 100 105 118 105 (x2 &&& 255) 117 97 108 ((XT.ushr x2 8) &&& 255) ((H40.less all0).mono (C' := 1) (S' := 18) (by decide) (by decide)) (by decide) (by decide) (by decide) (by decide) (by decide) (by decide) (by decide) (by decide) (by decide) (by decide) (by decide) (by decide) (by decide) (own_and255 _) (by decide) (by decide) (by decide) (own_and255 _) A42
  ·
    refine G.stC H f1 (by decide) (i := 14) rfl lB g2 (y := (x2 &&& 255)) (own_narC (own_u16 (own_and255 _))) at_121 (pc' := 122) rfl ?_
    intro T43 h43_ H43 W44 A45
    replace A45 : Arv Z h43_ p0 c0 .char 18 [(.int 99), (.int 108), (.int 105), (.int 101), (.int 110), (.int 116), (.int 45), (.int 105), (.int 110), (.int 100), (.int 105), (.int 118), (.int 105), (.int 100), (.int (x2 &&& 255)), (.int 97), (.int 108), (.int ((XT.ushr x2 8) &&& 255))] (.int 0) := A45
    exact cut35_122 V x0 x1 x2 x3 x4 2 1 x800340 (x2 &&& 255) ((XT.ushr x2 8) &&& 255) p0 c0 99 108 105 101 110 116 45 105 110 100 105 118 105 100 (x2 &&& 255) 97 108 ((XT.ushr x2 8) &&& 255) ((H43.less all0).mono (C' := 1) (S' := 18) (by decide) (by decide)) (by decide) (by decide) (by decide) (by decide) (by decide) (by decide) (by decide) (by decide) (by decide) (by decide) (by decide) (by decide) (by decide) (by decide) (own_and255 _) (by decide) (by decide) (own_and255 _) A45
  ·
    refine G.stC H f1 (by decide) (i := 15) rfl lB g2 (y := (x2 &&& 255)) (own_narC (own_u16 (own_and255 _))) at_121 (pc' := 122) rfl ?_
    intro T46 h46_ H46 W47 A48
    replace A48 : Arv Z h46_ p0 c0 .char 18 [(.int 99), (.int 108), (.int 105), (.int 101), (.int 110), (.int 116), (.int 45), (.int 105), (.int 110), (.int 100), (.int 105), (.int 118), (.int 105), (.int 100), (.int 117), (.int (x2 &&& 255)), (.int 108), (.int ((XT.ushr x2 8) &&& 255))] (.int 0) := A48
    exact cut35_122 V x0 x1 x2 x3 x4 2 1 x800340 (x2 &&& 255) ((XT.ushr x2 8) &&& 255) p0 c0 99 108 105 101 110 116 45 105 110 100 105 118 105 100 117 (x2 &&& 255) 108 ((XT.ushr x2 8) &&& 255) ((H46.less all0).mono (C' := 1) (S' := 18) (by decide) (by decide)) (by decide) (by decide) (by decide) (by decide) (by decide) (by decide) (by decide) (by decide) (by decide) (by decide) (by decide) (by decide) (by decide) (by decide) (by decide) (own_and255 _) (by decide) (own_and255 _) A48
  ·
    refine G.stC H f1 (by decide) (i := 16) rfl lB g2 (y := (x2 &&& 255)) (own_narC (own_u16 (own_and255 _))) at_121 (pc' := 122) rfl ?_
    intro T49 h49_ H49 W50 A51
    replace A51 : Arv Z h49_ p0 c0 .char 18 [(.int 99), (.int 108), (.int 105), (.int 101), (.int 110), (.int 116), (.int 45), (.int 105), (.int 110), (.int 100), (.int 105), (.int 118), (.int 105), (.int 100), (.int 117), (.int 97), (.int (x2 &&& 255)), (.int ((XT.ushr x2 8) &&& 255))] (.int 0) := A51
    exact cut35_122 V x0 x1 x2 x3 x4 2 1 x800340 (x2 &&& 255) ((XT.ushr x2 8) &&& 255) p0 c0 99 108 105 101 110 116 45 105 110 100 105 118 105 100 117 97 (x2 &&& 255) ((XT.ushr x2 8) &&& 255) ((H49.less all0).mono (C' := 1) (S' := 18) (by decide) (by decide)) (by decide) (by decide) (by decide) (by decide) (by decide) (by decide) (by decide) (by decide) (by decide) (by decide) (by decide) (by decide) (by decide) (by decide) (by decide) (by decide) (own_and255 _) (own_and255 _) A51
  ·
    refine G.stC H f1 (by decide) (i := 17) rfl lB g2 (y := (x2 &&& 255)) (own_narC (own_u16 (own_and255 _))) at_121 (pc' := 122) rfl ?_
    intro T52 h52_ H52 W53 A54
    replace A54 : Arv Z h52_ p0 c0 .char 18 [(.int 99), (.int 108), (.int 105), (.int 101), (.int 110), (.int 116), (.int 45), (.int 105), (.int 110), (.int 100), (.int 105), (.int 118), (.int 105), (.int 100), (.int 117), (.int 97), (.int 108), (.int (x2 &&& 255))] (.int 0) := A54
    exact cut35_122 V x0 x1 x2 x3 x4 2 1 x800340 (x2 &&& 255) ((XT.ushr x2 8) &&& 255) p0 c0 99 108 105 101 110 116 45 105 110 100 105 118 105 100 117 97 108 (x2 &&& 255) ((H52.less all0).mono (C' := 1) (S' := 18) (by decide) (by decide)) (by decide) (by decide) (by decide) (by decide) (by decide) (by decide) (by decide) (by decide) (by decide) (by decide) (by decide) (by decide) (by decide) (by decide) (by decide) (by decide) (by decide) (own_and255 _) A54
set_option maxRecDepth 65536 in
set_option maxHeartbeats 40000000 in
theorem cut75_121 (V : Env1 Z a0 n0 uu0 uu1 uu2 uu3 uu4 uu5 uu6 uu7 uu8 uu9 uu10 uu11 uu12 uu13 uu14 uu15) (x90121 : Int32) (x0 : Int32) (x1 : Int32) (x2 : Int32) (x3 : Int32) (x4 : Int32) (x800340 : Int32) (p0 : Addr) (c0 : ClassId) (H : Hs p l e room_1 s m as' below meth c Z a0 ELs True x.cls n0 code maxLocals ret x.name T h0 1 16 []) (sp : x90121 = 0 ∨ x90121 = 1 ∨ x90121 = 2 ∨ x90121 = 3 ∨ x90121 = 4 ∨ x90121 = 5 ∨ x90121 = 6 ∨ x90121 = 7 ∨ x90121 = 8 ∨ x90121 = 9 ∨ x90121 = 10 ∨ x90121 = 11 ∨ x90121 = 12 ∨ x90121 = 13 ∨ x90121 = 14 ∨ x90121 = 15) (f1 : Arv Z h0 p0 c0 .char 16 [(.int 99), (.int 108), (.int 105), (.int 101), (.int 110), (.int 116), (.int 45), (.int 105), (.int 110), (.int 100), (.int 105), (.int 118), (.int 105), (.int 100), (.int 117), (.int 97)] (.int 0)) (g2 : n0 ≤ p0) :
    Go p e below (FinP s below Z ELs True n0 room_1.cells room_1.slots (fun v h so => v = some (.int 1))) (T.setTop (mkF m 121 #[.val (.int x0), .val (.int x1), .val (.int x2), .val (.int x3), .val (.int x4), .val (.int 2), .val (.int 2), .val (.int x800340), .val (.int (x2 &&& 255)), .val (.int ((XT.ushr x2 8) &&& 255)), .unset, .val (.ref p0)] [(.int (x2 &&& 255)), (.int x90121), (.ref p0)])) := by
  rcases sp with rfl | rfl | rfl | rfl | rfl | rfl | rfl | rfl | rfl | rfl | rfl | rfl | rfl | rfl | rfl | rfl
  ·
    refine G.stC H f1 (by decide) (i := 0) rfl lB g2 (y := (x2 &&& 255)) (own_narC (own_u16 (own_and255 _))) at_121 (pc' := 122) rfl ?_
    intro T1 h1_ H1 W2 A3
    replace A3 : Arv Z h1_ p0 c0 .char 16 [(.int (x2 &&& 255)), (.int 108), (.int 105), (.int 101), (.int 110), (.int 116), (.int 45), (.int 105), (.int 110), (.int 100), (.int 105), (.int 118), (.int 105), (.int 100), (.int 117), (.int 97)] (.int 0) := A3
    exact cut39_122 V x0 x1 x2 x3 x4 2 2 x800340 (x2 &&& 255) ((XT.ushr x2 8) &&& 255) p0 c0 (x2 &&& 255) 108 105 101 110 116 45 105 110 100 105 118 105 100 117 97 ((H1.less all0).mono (C' := 1) (S' := 16) (by decide) (by decide)) (own_and255 _) (by decide) (by decide) (by decide) (by decide) (by decide) (by decide) (by decide) (by decide) (by decide) (by decide) (by decide) (by decide) (by decide) (by decide) (by decide) A3
  ·
    refine G.stC H f1 (by decide) (i := 1) rfl lB g2 (y := (x2 &&& 255)) (own_narC (own_u16 (own_and255 _))) at_121 (pc' := 122) rfl ?_
    intro T4 h4_ H4 W5 A6
    replace A6 : Arv Z h4_ p0 c0 .char 16 [(.int 99), (.int (x2 &&& 255)), (.int 105), (.int 101), (.int 110), (.int 116), (.int 45), (.int 105), (.int 110), (.int 100), (.int 105), (.int 118), (.int 105), (.int 100), (.int 117), (.int 97)] (.int 0) := A6
    exact cut39_122 V x0 x1 x2 x3 x4 2 2 x800340 (x2 &&& 255) ((XT.ushr x2 8) &&& 255) p0 c0 99 (x2 &&& 255) 105 101 110 116 45 105 110 100 105 118 105 100 117 97 ((H4.less all0).mono (C' := 1) (S' := 16) (by decide) (by decide)) (by decide) (own_and255 _) (by decide) (by decide) (by decide) (by decide) (by decide) (by decide) (by decide) (by decide) (by decide) (by decide) (by decide) (by decide) (by decide) (by decide) A6
  ·
    refine G.stC H f1 (by decide) (i := 2) rfl lB g2 (y := (x2 &&& 255)) (own_narC (own_u16 (own_and255 _))) at_121 (pc' := 122) rfl ?_
    intro T7 h7_ H7 W8 A9
    replace A9 : Arv Z h7_ p0 c0 .char 16 [(.int 99), (.int 108), (.int (x2 &&& 255)), (.int 101), (.int 110), (.int 116), (.int 45), (.int 105), (.int 110), (.int 100), (.int 105), (.int 118), (.int 105), (.int 100), (.int 117), (.int 97)] (.int 0) := A9
    exact cut39_122 V x0 x1 x2 x3 x4 2 2 x800340 (x2 &&& 255) ((XT.ushr x2 8) &&& 255) p0 c0 99 108 (x2 &&& 255) 101 110 116 45 105 110 100 105 118 105 100 117 97 ((H7.less all0).mono (C' := 1) (S' := 16) (by decide) (by decide)) (by decide) (by decide) (own_and255 _) (by decide) (by decide) (by decide) (by decide) (by decide) (by decide) (by decide) (by decide) (by decide) (by decide) (by decide) (by decide) (by decide) A9
  ·
    refine G.stC H f1 (by decide) (i := 3) rfl lB g2 (y := (x2 &&& 255)) (own_narC (own_u16 (own_and255 _))) at_121 (pc' := 122) rfl ?_
    intro T10 h10_ H10 W11 A12
    replace A12 : Arv Z h10_ p0 c0 .char 16 [(.int 99), (.int 108), (.int 105), (.int (x2 &&& 255)), (.int 110), (.int 116), (.int 45), (.int 105), (.int 110), (.int 100), (.int 105), (.int 118), (.int 105), (.int 100), (.int 117), (.int 97)] (.int 0) := A12
    exact cut39_122 V x0 x1 x2 x3 x4 2 2 x800340 (x2 &&& 255) ((XT.ushr x2 8) &&& 255) p0 c0 99 108 105 (x2 &&& 255) 110 116 45 105 110 100 105 118 105 100 117 97 ((H10.less all0).mono (C' := 1) (S' := 16) (by decide) (by decide)) (by decide) (by decide) (by decide) (own_and255 _) (by decide) (by decide) (by decide) (by decide) (by decide) (by decide) (by decide) (by decide) (by decide) (by decide) (by decide) (by decide) A12
  ·
    refine G.stC H f1 (by decide) (i := 4) rfl lB g2 (y := (x2 &&& 255)) (own_narC (own_u16 (own_and255 _))) at_121 (pc' := 122) rfl ?_
    intro T13 h13_ H13 W14 A15
    replace A15 : Arv Z h13_ p0 c0 .char 16 [(.int 99), (.int 108), (.int 105), (.int 101), (.int (x2 &&& 255)), (.int 116), (.int 45), (.int 105), (.int 110), (.int 100), (.int 105), (.int 118), (.int 105), (.int 100), (.int 117), (.int 97)] (.int 0) := A15
    exact cut39_122 V x0 x1 x2 x3 x4 2 2 x800340 (x2 &&& 255) ((XT.ushr x2 8) &&& 255) p0 c0 99 108 105 101 (x2 &&& 255) 116 45 105 110 100 105 118 105 100 117 97 ((H13.less all0).mono (C' := 1) (S' := 16) (by decide) (by decide)) (by decide) (by decide) (by decide) (by decide) (own_and255 _) (by decide) (by decide) (by decide) (by decide) (by decide) (by decide) (by decide) (by decide) (by decide) (by decide) (by decide) A15
  ·
    refine G.stC H f1 (by decide) (i := 5) rfl lB g2 (y := (x2 &&& 255)) (own_narC (own_u16 (own_and255 _))) at_121 (pc' := 122) rfl ?_
    intro T16 h16_ H16 W17 A18
    replace A18 : Arv Z h16_ p0 c0 .char 16 [(.int 99), (.int 108), (.int 105), (.int 101), (.int 110), (.int (x2 &&& 255)), (.int 45), (.int 105), (.int 110), (.int 100), (.int 105), (.int 118), (.int 105), (.int 100), (.int 117), (.int 97)] (.int 0) := A18
    exact cut39_122 V x0 x1 x2 x3 x4 2 2 x800340 (x2 &&& 255) ((XT.ushr x2 8) &&& 255) p0 c0 99 108 105 101 110 (x2 &&& 255) 45 105 110 100 105 118 105 100 117 97 ((H16.less all0).mono (C' := 1) (S' := 16) (by decide) (by decide)) (by decide) (by decide) (by decide) (by decide) (by decide) (own_and255 _) (by decide) (by decide) (by decide) (by decide) (by decide) (by decide) (by decide) (by decide) (by decide) (by decide) A18
  ·
    refine G.stC H f1 (by decide) (i := 6) rfl lB g2 (y := (x2 &&& 255)) (own_narC (own_u16 (own_and255 _))) at_121 (pc' := 122) rfl ?_
    intro T19 h19_ H19 W20 A21
    replace A21 : Arv Z h19_ p0 c0 .char 16 [(.int 99), (.int 108), (.int 105), (.int 101), (.int 110), (.int 116), (.int (x2 &&& 255)), (.int 105), (.int 110), (.int 100), (.int 105), (.int 118), (.int 105), (.int 100), (.int 117), (.int 97)] (.int 0) := A21
    exact cut39_122 V x0 x1 x2 x3 x4 2 2 x800340 (x2 &&& 255) ((XT.ushr x2 8) &&& 255) p0 c0 99 108 105 101 110 116 (x2 &&& 255) 105 110 100 105 118 105 100 117 97 ((H19.less all0).mono (C' := 1) (S' := 16) (by decide) (by decide)) (by decide) (by decide) (by decide) (by decide) (by decide) (by decide) (own_and255 _) (by decide) (by decide) (by decide) (by decide) (by decide) (by decide) (by decide) (by decide) (by decide) A21
  ·
    refine G.stC H f1 (by decide) (i := 7) rfl lB g2 (y := (x2 &&& 255)) (own_narC (own_u16 (own_and255 _))) at_121 (pc' := 122) rfl ?_
    intro T22 h22_ H22 W23 A24
    replace A24 : Arv Z h22_ p0 c0 .char 16 [(.int 99), (.int 108), (.int 105), (.int 101), (.int 110), (.int 116), (.int 45), (.int (x2 &&& 255)), (.int 110), (.int 100), (.int 105), (.int 118), (.int 105), (.int 100), (.int 117), (.int 97)] (.int 0) := A24
    exact cut39_122 V x0 x1 x2 x3 x4 2 2 x800340 (x2 &&& 255) ((XT.ushr x2 8) &&& 255) p0 c0 99 108 105 101 110 116 45 (x2 &&& 255) 110 100 105 118 105 100 117 97 ((H22.less all0).mono (C' := 1) (S' := 16) (by decide) (by decide)) (by decide) (by decide) (by decide) (by decide) (by decide) (by decide) (by decide) (own_and255 _) (by decide) (by decide) (by decide) (by decide) (by decide) (by decide) (by decide) (by decide) A24
  ·
    refine G.stC H f1 (by decide) (i := 8) rfl lB g2 (y := (x2 &&& 255)) (own_narC (own_u16 (own_and255 _))) at_121 (pc' := 122) rfl ?_
    intro T25 h25_ H25 W26 A27
    replace A27 : Arv Z h25_ p0 c0 .char 16 [(.int 99), (.int 108), (.int 105), (.int 101), (.int 110), (.int 116), (.int 45), (.int 105), (.int (x2 &&& 255)), (.int 100), (.int 105), (.int 118), (.int 105), (.int 100), (.int 117), (.int 97)] (.int 0) := A27
    exact cut39_122 V x0 x1 x2 x3 x4 2 2 x800340 (x2 &&& 255) ((XT.ushr x2 8) &&& 255) p0 c0 99 108 105 101 110 116 45 105 (x2 &&& 255) 100 105 118 105 100 117 97 ((H25.less all0).mono (C' := 1) (S' := 16) (by decide) (by decide)) (by decide) (by decide) (by decide) (by decide) (by decide) (by decide) (by decide) (by decide) (own_and255 _) (by decide) (by decide) (by decide) (by decide) (by decide) (by decide) (by decide) A27
  ·
    refine G.stC H f1 (by decide) (i := 9) rfl lB g2 (y := (x2 &&& 255)) (own_narC (own_u16 (own_and255 _))) at_121 (pc' := 122) rfl ?_
    intro T28 h28_ H28 W29 A30
    replace A30 : Arv Z h28_ p0 c0 .char 16 [(.int 99), (.int 108), (.int 105), (.int 101), (.int 110), (.int 116), (.int 45), (.int 105), (.int 110), (.int (x2 &&& 255)), (.int 105), (.int 118), (.int 105), (.int 100), (.int 117), (.int 97)] (.int 0) := A30
    exact cut39_122 V x0 x1 x2 x3 x4 2 2 x800340 (x2 &&& 255) ((XT.ushr x2 8) &&& 255) p0 c0 99 108 105 101 110 116 45 105 110 (x2 &&& 255) 105 118 105 100 117 97 ((H28.less all0).mono (C' := 1) (S' := 16) (by decide) (by decide)) (by decide) (by decide) (by decide) (by decide) (by decide) (by decide) (by decide) (by decide) (by decide) (own_and255 _) (by decide) (by decide) (by decide) (by decide) (by decide) (by decide) A30
  ·
    refine G.stC H f1 (by decide) (i := 10) rfl lB g2 (y := (x2 &&& 255)) (own_narC (own_u16 (own_and255 _))) at_121 (pc' := 122) rfl ?_
    intro T31 h31_ H31 W32 A33
    replace A33 : Arv Z h31_ p0 c0 .char 16 [(.int 99), (.int 108), (.int 105), (.int 101), (.int 110), (.int 116), (.int 45), (.int 105), (.int 110), (.int 100), (.int (x2 &&& 255)), (.int 118), (.int 105), (.int 100), (.int 117), (.int 97)] (.int 0) := A33
    exact cut39_122 V x0 x1 x2 x3 x4 2 2 x800340 (x2 &&& 255) ((XT.ushr x2 8) &&& 255) p0 c0 99 108 105 101 110 116 45 105 110 100 (x2 &&& 255) 118 105 100 117 97 ((H31.less all0).mono (C' := 1) (S' := 16) (by decide) (by decide)) (by decide) (by decide) (by decide) (by decide) (by decide) (by decide) (by decide) (by decide) (by decide) (by decide) (own_and255 _) (by decide) (by decide) (by decide) (by decide) (by decide) A33
  ·
    refine G.stC H f1 (by decide) (i := 11) rfl lB g2 (y := (x2 &&& 255)) (own_narC (own_u16 (own_and255 _))) at_121 (pc' := 122) rfl ?_
    intro T34 h34_ H34 W35 A36
    replace A36 : Arv Z h34_ p0 c0 .char 16 [(.int 99), (.int 108), (.int 105), (.int 101), (.int 110), (.int 116), (.int 45), (.int 105), (.int 110), (.int 100), (.int 105), (.int (x2 &&& 255)), (.int 105), (.int 100), (.int 117), (.int 97)] (.int 0) := A36
    exact cut39_122 V x0 x1 x2 x3 x4 2 2 x800340 (x2 &&& 255) ((XT.ushr x2 8) &&& 255) p0 c0 99 108 105 101 110 116 45 105 110 100 105 (x2 &&& 255) 105 100 117 97 ((H34.less all0).mono (C' := 1) (S' := 16) (by decide) (by decide)) (by decide) (by decide) (by decide) (by decide) (by decide) (by decide) (by decide) (by decide) (by decide) (by decide) (by decide) (own_and255 _) (by decide) (by decide) (by decide) (by decide) A36
  ·
    refine G.stC H f1 (by decide) (i := 12) rfl lB g2 (y := (x2 &&& 255)) (own_narC (own_u16 (own_and255 _))) at_121 (pc' := 122) rfl ?_
    intro T37 h37_ H37 W38 A39
    replace A39 : Arv Z h37_ p0 c0 .char 16 [(.int 99), (.int 108), (.int 105), (.int 101), (.int 110), (.int 116), (.int 45), (.int 105), (.int 110), (.int 100), (.int 105), (.int 118), (.int (x2 &&& 255)), (.int 100), (.int 117), (.int 97)] (.int 0) := A39
    exact cut39_122 V x0 x1 x2 x3 x4 2 2 x800340 (x2 &&& 255) ((XT.ushr x2 8) &&& 255) p0 c0 99 108 105 101 110 116 45 105 110 100 105 118 (x2 &&& 255) 100 117 97 ((H37.less all0).mono (C' := 1) (S' := 16) (by decide) (by decide)) (by decide) (by decide) (by decide) (by decide) (by decide) (by decide) (by decide) (by decide) (by decide) (by decide) (by decide) (by decide) (own_and255 _) (by decide) (by decide) (by decide) A39
  ·
    refine G.stC H f1 (by decide) (i := 13) rfl lB g2 (y := (x2 &&& 255)) (own_narC (own_u16 (own_and255 _))) at_121 (pc' := 122) rfl ?_
    intro T40 h40_ H40 W41 A42
    replace A42 : Arv Z h40_ p0 c0 .char 16 [(.int 99), (.int 108), (.int 105), (.int 101), (.int 110), (.int 116), (.int 45), (.int 105), (.int 110), (.int 100), (.int 105), (.int 118), (.int 105), (.int (x2 &&& 255)), (.int 117), (.int 97)] (.int 0) := A42
    exact cut39_122 V x0 x1 x2 x3 x4 2 2 x800340 (x2 &&& 255) ((XT.ushr x2 8) &&& 255) p0 c0 99 108 105 101 110 116 45 105 110 100 105 118 105 (x2 &&& 255) 117 97 ((H40.less all0).mono (C' := 1) (S' := 16) (by decide) (by decide)) (by decide) (by decide) (by decide) (by decide) (by decide) (by decide) (by decide) (by decide) (by decide) (by decide) (by decide) (by decide) (by decide) (own_and255 _) (by decide) (by decide) A42
  ·
    refine G.stC H f1 (by decide) (i := 14) rfl lB g2 (y := (x2 &&& 255)) (own_narC (own_u16 (own_and255 _))) at_121 (pc' := 122) rfl ?_
    intro T43 h43_ H43 W44 A45
    replace A45 : Arv Z h43_ p0 c0 .char 16 [(.int 99), (.int 108), (.int 105), (.int 101), (.int 110), (.int 116), (.int 45), (.int 105), (.int 110), (.int 100), (.int 105), (.int 118), (.int 105), (.int 100), (.int (x2 &&& 255)), (.int 97)] (.int 0) := A45
    exact cut39_122 V x0 x1 x2 x3 x4 2 2 x800340 (x2 &&& 255) ((XT.ushr x2 8) &&& 255) p0 c0 99 108 105 101 110 116 45 105 110 100 105 118 105 100 (x2 &&& 255) 97 ((H43.less all0).mono (C' := 1) (S' := 16) (by decide) (by decide)) (by decide) (by decide) (by decide) (by decide) (by decide) (by decide) (by decide) (by decide) (by decide) (by decide) (by decide) (by decide) (by decide) (by decide) (own_and255 _) (by decide) A45
  ·
    refine G.stC H f1 (by decide) (i := 15) rfl lB g2 (y := (x2 &&& 255)) (own_narC (own_u16 (own_and255 _))) at_121 (pc' := 122) rfl ?_
    intro T46 h46_ H46 W47 A48
    replace A48 : Arv Z h46_ p0 c0 .char 16 [(.int 99), (.int 108), (.int 105), (.int 101), (.int 110), (.int 116), (.int 45), (.int 105), (.int 110), (.int 100), (.int 105), (.int 118), (.int 105), (.int 100), (.int 117), (.int (x2 &&& 255))] (.int 0) := A48
    exact cut39_122 V x0 x1 x2 x3 x4 2 2 x800340 (x2 &&& 255) ((XT.ushr x2 8) &&& 255) p0 c0 99 108 105 101 110 116 45 105 110 100 105 118 105 100 117 (x2 &&& 255) ((H46.less all0).mono (C' := 1) (S' := 16) (by decide) (by decide)) (by decide) (by decide) (by decide) (by decide) (by decide) (by decide) (by decide) (by decide) (by decide) (by decide) (by decide) (by decide) (by decide) (by decide) (by decide) (own_and255 _) A48
set_option maxRecDepth 65536 in
set_option maxHeartbeats 40000000 in
theorem cut76_87 (V : Env1 Z a0 n0 uu0 uu1 uu2 uu3 uu4 uu5 uu6 uu7 uu8 uu9 uu10 uu11 uu12 uu13 uu14 uu15) (x90087 : Int32) (x0 : Int32) (x1 : Int32) (x2 : Int32) (x3 : Int32) (x4 : Int32) (x800340 : Int32) (H : Hs p l e room_1 s m as' below meth c Z a0 ELs True x.cls n0 code maxLocals ret x.name T h0 0 0 []) (sp : x90087 = 0 ∨ x90087 = 1 ∨ x90087 = 2) :
    Go p e below (FinP s below Z ELs True n0 room_1.cells room_1.slots (fun v h so => v = some (.int 1))) (T.setTop (mkF m 87 #[.val (.int x0), .val (.int x1), .val (.int x2), .val (.int x3), .val (.int x4), .val (.int 2), .val (.int x90087), .val (.int x800340), .val (.int (x2 &&& 255)), .val (.int ((XT.ushr x2 8) &&& 255)), .unset, .unset] [])) := by
  rcases sp with rfl | rfl | rfl
  ·
    refine G.iload H at_87 (pc' := 89) rfl rfl ?_
    refine G.iload H at_89 (pc' := 91) rfl rfl ?_
    refine G.iload H at_91 (pc' := 93) rfl rfl ?_
    refine G.callS H (m27_base V ((XT.ushr x2 8) &&& 255) h0 H.old) (wd1 V) (wd2 V) (wd3 V) (wd4 V) (by decide) (argsL := [(.int 2), (.int 0), (.int ((XT.ushr x2 8) &&& 255))]) (rest := []) (W := 0) rfl rfl (lenOf (pd_0) rfl) rfl rfl at_93 (pc' := 96) rfl (by decide) (by decide) (by decide) (by decide) all0 ?_
    intro T1 h1_ v2 s3 H1 Q4
    obtain ⟨a5, k6, rfl, rfl, K7, g8, F9, F10⟩ := Q4
    have na5 : n0 ≤ a5 := Nat.le_trans H.le g8
    show Go p e below _ (T1.setTop (mkF m 96 #[.val (.int x0), .val (.int x1), .val (.int x2), .val (.int x3), .val (.int x4), .val (.int 2), .val (.int 0), .val (.int x800340), .val (.int (x2 &&& 255)), .val (.int ((XT.ushr x2 8) &&& 255)), .unset, .unset] [(.ref a5)]))
    refine G.astore H1 (L' := #[.val (.int x0), .val (.int x1), .val (.int x2), .val (.int x3), .val (.int x4), .val (.int 2), .val (.int 0), .val (.int x800340), .val (.int (x2 &&& 255)), .val (.int ((XT.ushr x2 8) &&& 255)), .unset, .val (.ref a5)]) at_96 (pc' := 98) rfl rfl rfl ?_
    refine G.iload H1 at_98 (pc' := 100) rfl rfl ?_
    by_cases c11 : x800340 = 0
    ·
      refine G.ifYes H1 at_100 (XT.i0_eq_t c11) (by decide) (pc' := 122) rfl ?_
      exact cut31_122 V x0 x1 x2 x3 x4 2 0 x800340 (x2 &&& 255) ((XT.ushr x2 8) &&& 255) a5 k6 99 108 105 101 110 116 45 105 110 100 105 118 105 100 117 97 108 ((H1.less all0).mono (C' := 1) (S' := 17) (by decide) (by decide)) (by decide) (by decide) (by decide) (by decide) (by decide) (by decide) (by decide) (by decide) (by decide) (by decide) (by decide) (by decide) (by decide) (by decide) (by decide) (by decide) (by decide) F9
    ·
      refine G.ifNo H1 at_100 (pc' := 103) rfl (XT.i0_eq_f c11) ?_
      refine G.aload H1 at_103 (pc' := 105) rfl rfl rfl ?_
      refine G.arrlen H1 F9 at_105 (pc' := 106) rfl ?_
      refine G.ifNo H1 at_106 (pc' := 109) rfl (by decide) ?_
      refine G.aload H1 at_109 (pc' := 111) rfl rfl rfl ?_
      refine G.iloadN H1 at_111 (pc' := 112) rfl rfl ?_
      refine G.ldcI H1 (wd0 V) at_112 (pc' := 114) rfl ?_
      refine G.iand H1 at_114 (pc' := 115) rfl ?_
      refine G.aload H1 at_115 (pc' := 117) rfl rfl rfl ?_
      refine G.arrlen H1 F9 at_117 (pc' := 118) rfl ?_
      refine G.irem H1 at_118 (pc' := 119) rfl (by decide) ?_
      refine G.iload H1 at_119 (pc' := 121) rfl rfl ?_
      exact cut73_121 V ((x1 &&& 2147483647) % 17) x0 x1 x2 x3 x4 x800340 a5 k6 ((H1.less all0).mono (C' := 1) (S' := 17) (by decide) (by decide)) (own_r17 _) F9 na5
  ·
    refine G.iload H at_87 (pc' := 89) rfl rfl ?_
    refine G.iload H at_89 (pc' := 91) rfl rfl ?_
    refine G.iload H at_91 (pc' := 93) rfl rfl ?_
    refine G.callS H (m32_base V ((XT.ushr x2 8) &&& 255) h0 H.old (own_u16 (own_and255 _))) (wd1 V) (wd2 V) (wd3 V) (wd4 V) (by decide) (argsL := [(.int 2), (.int 1), (.int ((XT.ushr x2 8) &&& 255))]) (rest := []) (W := 0) rfl rfl (lenOf (pd_0) rfl) rfl rfl at_93 (pc' := 96) rfl (by decide) (by decide) (by decide) (by decide) all0 ?_
    intro T12 h12_ v13 s14 H12 Q15
    obtain ⟨a16, k17, rfl, rfl, K18, g19, F20, F21⟩ := Q15
    have na16 : n0 ≤ a16 := Nat.le_trans H.le g19
    show Go p e below _ (T12.setTop (mkF m 96 #[.val (.int x0), .val (.int x1), .val (.int x2), .val (.int x3), .val (.int x4), .val (.int 2), .val (.int 1), .val (.int x800340), .val (.int (x2 &&& 255)), .val (.int ((XT.ushr x2 8) &&& 255)), .unset, .unset] [(.ref a16)]))
    refine G.astore H12 (L' := #[.val (.int x0), .val (.int x1), .val (.int x2), .val (.int x3), .val (.int x4), .val (.int 2), .val (.int 1), .val (.int x800340), .val (.int (x2 &&& 255)), .val (.int ((XT.ushr x2 8) &&& 255)), .unset, .val (.ref a16)]) at_96 (pc' := 98) rfl rfl rfl ?_
    refine G.iload H12 at_98 (pc' := 100) rfl rfl ?_
    by_cases c22 : x800340 = 0
    ·
      refine G.ifYes H12 at_100 (XT.i0_eq_t c22) (by decide) (pc' := 122) rfl ?_
      exact cut35_122 V x0 x1 x2 x3 x4 2 1 x800340 (x2 &&& 255) ((XT.ushr x2 8) &&& 255) a16 k17 99 108 105 101 110 116 45 105 110 100 105 118 105 100 117 97 108 ((XT.ushr x2 8) &&& 255) ((H12.less all0).mono (C' := 1) (S' := 18) (by decide) (by decide)) (by decide) (by decide) (by decide) (by decide) (by decide) (by decide) (by decide) (by decide) (by decide) (by decide) (by decide) (by decide) (by decide) (by decide) (by decide) (by decide) (by decide) (own_and255 _) F20
    ·
      refine G.ifNo H12 at_100 (pc' := 103) rfl (XT.i0_eq_f c22) ?_
      refine G.aload H12 at_103 (pc' := 105) rfl rfl rfl ?_
      refine G.arrlen H12 F20 at_105 (pc' := 106) rfl ?_
      refine G.ifNo H12 at_106 (pc' := 109) rfl (by decide) ?_
      refine G.aload H12 at_109 (pc' := 111) rfl rfl rfl ?_
      refine G.iloadN H12 at_111 (pc' := 112) rfl rfl ?_
      refine G.ldcI H12 (wd0 V) at_112 (pc' := 114) rfl ?_
      refine G.iand H12 at_114 (pc' := 115) rfl ?_
      refine G.aload H12 at_115 (pc' := 117) rfl rfl rfl ?_
      refine G.arrlen H12 F20 at_117 (pc' := 118) rfl ?_
      refine G.irem H12 at_118 (pc' := 119) rfl (by decide) ?_
      refine G.iload H12 at_119 (pc' := 121) rfl rfl ?_
      exact cut74_121 V ((x1 &&& 2147483647) % 18) x0 x1 x2 x3 x4 x800340 a16 k17 ((H12.less all0).mono (C' := 1) (S' := 18) (by decide) (by decide)) (own_r18 _) F20 na16
  ·
    refine G.iload H at_87 (pc' := 89) rfl rfl ?_
    refine G.iload H at_89 (pc' := 91) rfl rfl ?_
    refine G.iload H at_91 (pc' := 93) rfl rfl ?_
    refine G.callS H (m36_base V ((XT.ushr x2 8) &&& 255) h0 H.old) (wd1 V) (wd2 V) (wd3 V) (wd4 V) (by decide) (argsL := [(.int 2), (.int 2), (.int ((XT.ushr x2 8) &&& 255))]) (rest := []) (W := 0) rfl rfl (lenOf (pd_0) rfl) rfl rfl at_93 (pc' := 96) rfl (by decide) (by decide) (by decide) (by decide) all0 ?_
    intro T23 h23_ v24 s25 H23 Q26
    obtain ⟨a27, k28, rfl, rfl, K29, g30, F31, F32⟩ := Q26
    have na27 : n0 ≤ a27 := Nat.le_trans H.le g30
    show Go p e below _ (T23.setTop (mkF m 96 #[.val (.int x0), .val (.int x1), .val (.int x2), .val (.int x3), .val (.int x4), .val (.int 2), .val (.int 2), .val (.int x800340), .val (.int (x2 &&& 255)), .val (.int ((XT.ushr x2 8) &&& 255)), .unset, .unset] [(.ref a27)]))
    refine G.astore H23 (L' := #[.val (.int x0), .val (.int x1), .val (.int x2), .val (.int x3), .val (.int x4), .val (.int 2), .val (.int 2), .val (.int x800340), .val (.int (x2 &&& 255)), .val (.int ((XT.ushr x2 8) &&& 255)), .unset, .val (.ref a27)]) at_96 (pc' := 98) rfl rfl rfl ?_
    refine G.iload H23 at_98 (pc' := 100) rfl rfl ?_
    by_cases c33 : x800340 = 0
    ·
      refine G.ifYes H23 at_100 (XT.i0_eq_t c33) (by decide) (pc' := 122) rfl ?_
      exact cut39_122 V x0 x1 x2 x3 x4 2 2 x800340 (x2 &&& 255) ((XT.ushr x2 8) &&& 255) a27 k28 99 108 105 101 110 116 45 105 110 100 105 118 105 100 117 97 ((H23.less all0).mono (C' := 1) (S' := 16) (by decide) (by decide)) (by decide) (by decide) (by decide) (by decide) (by decide) (by decide) (by decide) (by decide) (by decide) (by decide) (by decide) (by decide) (by decide) (by decide) (by decide) (by decide) F31
    ·
      refine G.ifNo H23 at_100 (pc' := 103) rfl (XT.i0_eq_f c33) ?_
      refine G.aload H23 at_103 (pc' := 105) rfl rfl rfl ?_
      refine G.arrlen H23 F31 at_105 (pc' := 106) rfl ?_
      refine G.ifNo H23 at_106 (pc' := 109) rfl (by decide) ?_
      refine G.aload H23 at_109 (pc' := 111) rfl rfl rfl ?_
      refine G.iloadN H23 at_111 (pc' := 112) rfl rfl ?_
      refine G.ldcI H23 (wd0 V) at_112 (pc' := 114) rfl ?_
      refine G.iand H23 at_114 (pc' := 115) rfl ?_
      refine G.aload H23 at_115 (pc' := 117) rfl rfl rfl ?_
      refine G.arrlen H23 F31 at_117 (pc' := 118) rfl ?_
      refine G.irem H23 at_118 (pc' := 119) rfl (by decide) ?_
      refine G.iload H23 at_119 (pc' := 121) rfl rfl ?_
      exact cut75_121 V ((x1 &&& 2147483647) % 16) x0 x1 x2 x3 x4 x800340 a27 k28 ((H23.less all0).mono (C' := 1) (S' := 16) (by decide) (by decide)) (own_r16 _) F31 na27
set_option maxRecDepth 65536 in
set_option maxHeartbeats 40000000 in
theorem cut77_121 (V : Env1 Z a0 n0 uu0 uu1 uu2 uu3 uu4 uu5 uu6 uu7 uu8 uu9 uu10 uu11 uu12 uu13 uu14 uu15) (x90121 : Int32) (x0 : Int32) (x1 : Int32) (x2 : Int32) (x3 : Int32) (x4 : Int32) (x800340 : Int32) (p0 : Addr) (c0 : ClassId) (H : Hs p l e room_1 s m as' below meth c Z a0 ELs True x.cls n0 code maxLocals ret x.name T h0 1 1 []) (sp : x90121 = 0) (f1 : Arv Z h0 p0 c0 .char 1 [(.int (x3 &&& 255))] (.int 0)) (g2 : n0 ≤ p0) :
    Go p e below (FinP s below Z ELs True n0 room_1.cells room_1.slots (fun v h so => v = some (.int 1))) (T.setTop (mkF m 121 #[.val (.int x0), .val (.int x1), .val (.int x2), .val (.int x3), .val (.int x4), .val (.int 3), .val (.int (((XT.ushr x0 8) &&& 255) % 3)), .val (.int x800340), .val (.int (x2 &&& 255)), .val (.int ((XT.ushr x2 8) &&& 255)), .unset, .val (.ref p0)] [(.int (x2 &&& 255)), (.int x90121), (.ref p0)])) := by
  rcases sp with rfl
  ·
    refine G.stC H f1 (by decide) (i := 0) rfl lB g2 (y := (x2 &&& 255)) (own_narC (own_u16 (own_and255 _))) at_121 (pc' := 122) rfl ?_
    intro T1 h1_ H1 W2 A3
    replace A3 : Arv Z h1_ p0 c0 .char 1 [(.int (x2 &&& 255))] (.int 0) := A3
    exact cut50_122 V x0 x1 x2 x3 x4 3 (((XT.ushr x0 8) &&& 255) % 3) x800340 (x2 &&& 255) ((XT.ushr x2 8) &&& 255) p0 c0 (x2 &&& 255) ((H1.less all0).mono (C' := 1) (S' := 1) (by decide) (by decide)) (own_and255 _) A3
set_option maxRecDepth 65536 in
set_option maxHeartbeats 40000000 in
theorem cut78_121 (V : Env1 Z a0 n0 uu0 uu1 uu2 uu3 uu4 uu5 uu6 uu7 uu8 uu9 uu10 uu11 uu12 uu13 uu14 uu15) (x90121 : Int32) (x0 : Int32) (x1 : Int32) (x2 : Int32) (x3 : Int32) (x4 : Int32) (x800340 : Int32) (p0 : Addr) (c0 : ClassId) (H : Hs p l e room_1 s m as' below meth c Z a0 ELs True x.cls n0 code maxLocals ret x.name T h0 1 2 []) (sp : x90121 = 0 ∨ x90121 = 1) (f1 : Arv Z h0 p0 c0 .char 2 [(.int (x3 &&& 255)), (.int ((XT.ushr x3 8) &&& 255))] (.int 0)) (g2 : n0 ≤ p0) :
    Go p e below (FinP s below Z ELs True n0 room_1.cells room_1.slots (fun v h so => v = some (.int 1))) (T.setTop (mkF m 121 #[.val (.int x0), .val (.int x1), .val (.int x2), .val (.int x3), .val (.int x4), .val (.int 3), .val (.int (((XT.ushr x0 8) &&& 255) % 3)), .val (.int x800340), .val (.int (x2 &&& 255)), .val (.int ((XT.ushr x2 8) &&& 255)), .unset, .val (.ref p0)] [(.int (x2 &&& 255)), (.int x90121), (.ref p0)])) := by
  rcases sp with rfl | rfl
  ·
    refine G.stC H f1 (by decide) (i := 0) rfl lB g2 (y := (x2 &&& 255)) (own_narC (own_u16 (own_and255 _))) at_121 (pc' := 122) rfl ?_
    intro T1 h1_ H1 W2 A3
    replace A3 : Arv Z h1_ p0 c0 .char 2 [(.int (x2 &&& 255)), (.int ((XT.ushr x3 8) &&& 255))] (.int 0) := A3
    exact cut54_122 V x0 x1 x2 x3 x4 3 (((XT.ushr x0 8) &&& 255) % 3) x800340 (x2 &&& 255) ((XT.ushr x2 8) &&& 255) p0 c0 (x2 &&& 255) ((XT.ushr x3 8) &&& 255) ((H1.less all0).mono (C' := 1) (S' := 2) (by decide) (by decide)) (own_and255 _) (own_and255 _) A3
  ·
    refine G.stC H f1 (by decide) (i := 1) rfl lB g2 (y := (x2 &&& 255)) (own_narC (own_u16 (own_and255 _))) at_121 (pc' := 122) rfl ?_
    intro T4 h4_ H4 W5 A6
    replace A6 : Arv Z h4_ p0 c0 .char 2 [(.int (x3 &&& 255)), (.int (x2 &&& 255))] (.int 0) := A6
    exact cut54_122 V x0 x1 x2 x3 x4 3 (((XT.ushr x0 8) &&& 255) % 3) x800340 (x2 &&& 255) ((XT.ushr x2 8) &&& 255) p0 c0 (x3 &&& 255) (x2 &&& 255) ((H4.less all0).mono (C' := 1) (S' := 2) (by decide) (by decide)) (own_and255 _) (own_and255 _) A6
set_option maxRecDepth 65536 in
set_option maxHeartbeats 40000000 in
theorem cut79_121 (V : Env1 Z a0 n0 uu0 uu1 uu2 uu3 uu4 uu5 uu6 uu7 uu8 uu9 uu10 uu11 uu12 uu13 uu14 uu15) (x90121 : Int32) (x0 : Int32) (x1 : Int32) (x2 : Int32) (x3 : Int32) (x4 : Int32) (x800340 : Int32) (p0 : Addr) (c0 : ClassId) (H : Hs p l e room_1 s m as' below meth c Z a0 ELs True x.cls n0 code maxLocals ret x.name T h0 1 3 []) (sp : x90121 = 0 ∨ x90121 = 1 ∨ x90121 = 2) (f1 : Arv Z h0 p0 c0 .char 3 [(.int (x3 &&& 255)), (.int ((XT.ushr x3 8) &&& 255)), (.int ((XT.ushr x3 16) &&& 255))] (.int 0)) (g2 : n0 ≤ p0) :
    Go p e below (FinP s below Z ELs True n0 room_1.cells room_1.slots (fun v h so => v = some (.int 1))) (T.setTop (mkF m 121 #[.val (.int x0), .val (.int x1), .val (.int x2), .val (.int x3), .val (.int x4), .val (.int 3), .val (.int (((XT.ushr x0 8) &&& 255) % 3)), .val (.int x800340), .val (.int (x2 &&& 255)), .val (.int ((XT.ushr x2 8) &&& 255)), .unset, .val (.ref p0)] [(.int (x2 &&& 255)), (.int x90121), (.ref p0)])) := by
  rcases sp with rfl | rfl | rfl
  ·
    refine G.stC H f1 (by decide) (i := 0) rfl lB g2 (y := (x2 &&& 255)) (own_narC (own_u16 (own_and255 _))) at_121 (pc' := 122) rfl ?_
    intro T1 h1_ H1 W2 A3
    replace A3 : Arv Z h1_ p0 c0 .char 3 [(.int (x2 &&& 255)), (.int ((XT.ushr x3 8) &&& 255)), (.int ((XT.ushr x3 16) &&& 255))] (.int 0) := A3
    exact cut14_122 V x0 x1 x2 x3 x4 3 (((XT.ushr x0 8) &&& 255) % 3) x800340 (x2 &&& 255) ((XT.ushr x2 8) &&& 255) p0 c0 (x2 &&& 255) ((XT.ushr x3 8) &&& 255) ((XT.ushr x3 16) &&& 255) ((H1.less all0).mono (C' := 1) (S' := 3) (by decide) (by decide)) (own_and255 _) (own_and255 _) (own_and255 _) A3
  ·
    refine G.stC H f1 (by decide) (i := 1) rfl lB g2 (y := (x2 &&& 255)) (own_narC (own_u16 (own_and255 _))) at_121 (pc' := 122) rfl ?_
    intro T4 h4_ H4 W5 A6
    replace A6 : Arv Z h4_ p0 c0 .char 3 [(.int (x3 &&& 255)), (.int (x2 &&& 255)), (.int ((XT.ushr x3 16) &&& 255))] (.int 0) := A6
    exact cut14_122 V x0 x1 x2 x3 x4 3 (((XT.ushr x0 8) &&& 255) % 3) x800340 (x2 &&& 255) ((XT.ushr x2 8) &&& 255) p0 c0 (x3 &&& 255) (x2 &&& 255) ((XT.ushr x3 16) &&& 255) ((H4.less all0).mono (C' := 1) (S' := 3) (by decide) (by decide)) (own_and255 _) (own_and255 _) (own_and255 _) A6
  ·
    refine G.stC H f1 (by decide) (i := 2) rfl lB g2 (y := (x2 &&& 255)) (own_narC (own_u16 (own_and255 _))) at_121 (pc' := 122) rfl ?_
    intro T7 h7_ H7 W8 A9
    replace A9 : Arv Z h7_ p0 c0 .char 3 [(.int (x3 &&& 255)), (.int ((XT.ushr x3 8) &&& 255)), (.int (x2 &&& 255))] (.int 0) := A9
    exact cut14_122 V x0 x1 x2 x3 x4 3 (((XT.ushr x0 8) &&& 255) % 3) x800340 (x2 &&& 255) ((XT.ushr x2 8) &&& 255) p0 c0 (x3 &&& 255) ((XT.ushr x3 8) &&& 255) (x2 &&& 255) ((H7.less all0).mono (C' := 1) (S' := 3) (by decide) (by decide)) (own_and255 _) (own_and255 _) (own_and255 _) A9
set_option maxRecDepth 65536 in
set_option maxHeartbeats 40000000 in
theorem cut80_121 (V : Env1 Z a0 n0 uu0 uu1 uu2 uu3 uu4 uu5 uu6 uu7 uu8 uu9 uu10 uu11 uu12 uu13 uu14 uu15) (x90121 : Int32) (x0 : Int32) (x1 : Int32) (x2 : Int32) (x3 : Int32) (x4 : Int32) (x800340 : Int32) (p0 : Addr) (c0 : ClassId) (H : Hs p l e room_1 s m as' below meth c Z a0 ELs True x.cls n0 code maxLocals ret x.name T h0 1 4 []) (sp : x90121 = 0 ∨ x90121 = 1 ∨ x90121 = 2 ∨ x90121 = 3) (f1 : Arv Z h0 p0 c0 .char 4 [(.int (x3 &&& 255)), (.int ((XT.ushr x3 8) &&& 255)), (.int ((XT.ushr x3 16) &&& 255)), (.int ((XT.ushr x3 24) &&& 255))] (.int 0)) (g2 : n0 ≤ p0) :
    Go p e below (FinP s below Z ELs True n0 room_1.cells room_1.slots (fun v h so => v = some (.int 1))) (T.setTop (mkF m 121 #[.val (.int x0), .val (.int x1), .val (.int x2), .val (.int x3), .val (.int x4), .val (.int 3), .val (.int (((XT.ushr x0 8) &&& 255) % 3)), .val (.int x800340), .val (.int (x2 &&& 255)), .val (.int ((XT.ushr x2 8) &&& 255)), .unset, .val (.ref p0)] [(.int (x2 &&& 255)), (.int x90121), (.ref p0)])) := by
  rcases sp with rfl | rfl | rfl | rfl
  ·
    refine G.stC H f1 (by decide) (i := 0) rfl lB g2 (y := (x2 &&& 255)) (own_narC (own_u16 (own_and255 _))) at_121 (pc' := 122) rfl ?_
    intro T1 h1_ H1 W2 A3
    replace A3 : Arv Z h1_ p0 c0 .char 4 [(.int (x2 &&& 255)), (.int ((XT.ushr x3 8) &&& 255)), (.int ((XT.ushr x3 16) &&& 255)), (.int ((XT.ushr x3 24) &&& 255))] (.int 0) := A3
    exact cut6_122 V x0 x1 x2 x3 x4 3 (((XT.ushr x0 8) &&& 255) % 3) x800340 (x2 &&& 255) ((XT.ushr x2 8) &&& 255) p0 c0 (x2 &&& 255) ((XT.ushr x3 8) &&& 255) ((XT.ushr x3 16) &&& 255) ((XT.ushr x3 24) &&& 255) ((H1.less all0).mono (C' := 1) (S' := 4) (by decide) (by decide)) (own_and255 _) (own_and255 _) (own_and255 _) (own_and255 _) A3
  ·
    refine G.stC H f1 (by decide) (i := 1) rfl lB g2 (y := (x2 &&& 255)) (own_narC (own_u16 (own_and255 _))) at_121 (pc' := 122) rfl ?_
    intro T4 h4_ H4 W5 A6
    replace A6 : Arv Z h4_ p0 c0 .char 4 [(.int (x3 &&& 255)), (.int (x2 &&& 255)), (.int ((XT.ushr x3 16) &&& 255)), (.int ((XT.ushr x3 24) &&& 255))] (.int 0) := A6
    exact cut6_122 V x0 x1 x2 x3 x4 3 (((XT.ushr x0 8) &&& 255) % 3) x800340 (x2 &&& 255) ((XT.ushr x2 8) &&& 255) p0 c0 (x3 &&& 255) (x2 &&& 255) ((XT.ushr x3 16) &&& 255) ((XT.ushr x3 24) &&& 255) ((H4.less all0).mono (C' := 1) (S' := 4) (by decide) (by decide)) (own_and255 _) (own_and255 _) (own_and255 _) (own_and255 _) A6
  ·
    refine G.stC H f1 (by decide) (i := 2) rfl lB g2 (y := (x2 &&& 255)) (own_narC (own_u16 (own_and255 _))) at_121 (pc' := 122) rfl ?_
    intro T7 h7_ H7 W8 A9
    replace A9 : Arv Z h7_ p0 c0 .char 4 [(.int (x3 &&& 255)), (.int ((XT.ushr x3 8) &&& 255)), (.int (x2 &&& 255)), (.int ((XT.ushr x3 24) &&& 255))] (.int 0) := A9
    exact cut6_122 V x0 x1 x2 x3 x4 3 (((XT.ushr x0 8) &&& 255) % 3) x800340 (x2 &&& 255) ((XT.ushr x2 8) &&& 255) p0 c0 (x3 &&& 255) ((XT.ushr x3 8) &&& 255) (x2 &&& 255) ((XT.ushr x3 24) &&& 255) ((H7.less all0).mono (C' := 1) (S' := 4) (by decide) (by decide)) (own_and255 _) (own_and255 _) (own_and255 _) (own_and255 _) A9
  ·
    refine G.stC H f1 (by decide) (i := 3) rfl lB g2 (y := (x2 &&& 255)) (own_narC (own_u16 (own_and255 _))) at_121 (pc' := 122) rfl ?_
    intro T10 h10_ H10 W11 A12
    replace A12 : Arv Z h10_ p0 c0 .char 4 [(.int (x3 &&& 255)), (.int ((XT.ushr x3 8) &&& 255)), (.int ((XT.ushr x3 16) &&& 255)), (.int (x2 &&& 255))] (.int 0) := A12
    exact cut6_122 V x0 x1 x2 x3 x4 3 (((XT.ushr x0 8) &&& 255) % 3) x800340 (x2 &&& 255) ((XT.ushr x2 8) &&& 255) p0 c0 (x3 &&& 255) ((XT.ushr x3 8) &&& 255) ((XT.ushr x3 16) &&& 255) (x2 &&& 255) ((H10.less all0).mono (C' := 1) (S' := 4) (by decide) (by decide)) (own_and255 _) (own_and255 _) (own_and255 _) (own_and255 _) A12
set_option maxRecDepth 65536 in
set_option maxHeartbeats 40000000 in
theorem cut81_80 (V : Env1 Z a0 n0 uu0 uu1 uu2 uu3 uu4 uu5 uu6 uu7 uu8 uu9 uu10 uu11 uu12 uu13 uu14 uu15) (x90080 : Int32) (x0 : Int32) (x1 : Int32) (x2 : Int32) (x3 : Int32) (x4 : Int32) (x800340 : Int32) (H : Hs p l e room_1 s m as' below meth c Z a0 ELs True x.cls n0 code maxLocals ret x.name T h0 0 0 []) (sp : x90080 = 0 ∨ x90080 = 1 ∨ x90080 = 2 ∨ x90080 = 3 ∨ x90080 = 4) :
    Go p e below (FinP s below Z ELs True n0 room_1.cells room_1.slots (fun v h so => v = some (.int 1))) (T.setTop (mkF m 80 #[.val (.int x0), .val (.int x1), .val (.int x2), .val (.int x3), .val (.int x4), .val (.int 3), .val (.int (((XT.ushr x0 8) &&& 255) % 3)), .val (.int x800340), .val (.int (x2 &&& 255)), .val (.int ((XT.ushr x2 8) &&& 255)), .unset, .unset] [(.int x90080)])) := by
  rcases sp with rfl | rfl | rfl | rfl | rfl
  ·
    refine G.iloadN H at_80 (pc' := 81) rfl rfl ?_
    refine G.callS H (m41_drawn V x3 h0 H.old) (wd77 V) (wd78 V) (wd3 V) (wd79 V) (by decide) (argsL := [(.int 0), (.int x3)]) (rest := []) (W := 0) rfl rfl (lenOf (pd_3) rfl) rfl rfl at_81 (pc' := 84) rfl (by decide) (by decide) (by decide) (by decide) all0 ?_
    intro T1 h1_ v2 s3 H1 Q4
    obtain ⟨a5, k6, rfl, rfl, K7, g8, F9, F10⟩ := Q4
    have na5 : n0 ≤ a5 := Nat.le_trans H.le g8
    show Go p e below _ (T1.setTop (mkF m 84 #[.val (.int x0), .val (.int x1), .val (.int x2), .val (.int x3), .val (.int x4), .val (.int 3), .val (.int (((XT.ushr x0 8) &&& 255) % 3)), .val (.int x800340), .val (.int (x2 &&& 255)), .val (.int ((XT.ushr x2 8) &&& 255)), .unset, .unset] [(.ref a5)]))
    refine G.goto H1 at_84 (by decide) (pc' := 96) rfl ?_
    refine G.astore H1 (L' := #[.val (.int x0), .val (.int x1), .val (.int x2), .val (.int x3), .val (.int x4), .val (.int 3), .val (.int (((XT.ushr x0 8) &&& 255) % 3)), .val (.int x800340), .val (.int (x2 &&& 255)), .val (.int ((XT.ushr x2 8) &&& 255)), .unset, .val (.ref a5)]) at_96 (pc' := 98) rfl rfl rfl ?_
    refine G.iload H1 at_98 (pc' := 100) rfl rfl ?_
    by_cases c11 : x800340 = 0
    ·
      refine G.ifYes H1 at_100 (XT.i0_eq_t c11) (by decide) (pc' := 122) rfl ?_
      exact cut46_122 V x0 x1 x2 x3 x4 3 (((XT.ushr x0 8) &&& 255) % 3) x800340 (x2 &&& 255) ((XT.ushr x2 8) &&& 255) a5 k6 ((H1.less all0).mono (C' := 1) (S' := 0) (by decide) (by decide)) F9
    ·
      refine G.ifNo H1 at_100 (pc' := 103) rfl (XT.i0_eq_f c11) ?_
      refine G.aload H1 at_103 (pc' := 105) rfl rfl rfl ?_
      refine G.arrlen H1 F9 at_105 (pc' := 106) rfl ?_
      refine G.ifYes H1 at_106 (by decide) (by decide) (pc' := 122) rfl ?_
      exact cut46_122 V x0 x1 x2 x3 x4 3 (((XT.ushr x0 8) &&& 255) % 3) x800340 (x2 &&& 255) ((XT.ushr x2 8) &&& 255) a5 k6 ((H1.less all0).mono (C' := 1) (S' := 0) (by decide) (by decide)) F9
  ·
    refine G.iloadN H at_80 (pc' := 81) rfl rfl ?_
    refine G.callS H (m47_drawn V x3 h0 H.old) (wd77 V) (wd78 V) (wd3 V) (wd79 V) (by decide) (argsL := [(.int 1), (.int x3)]) (rest := []) (W := 0) rfl rfl (lenOf (pd_3) rfl) rfl rfl at_81 (pc' := 84) rfl (by decide) (by decide) (by decide) (by decide) all0 ?_
    intro T12 h12_ v13 s14 H12 Q15
    obtain ⟨a16, k17, rfl, rfl, K18, g19, F20, F21⟩ := Q15
    have na16 : n0 ≤ a16 := Nat.le_trans H.le g19
    show Go p e below _ (T12.setTop (mkF m 84 #[.val (.int x0), .val (.int x1), .val (.int x2), .val (.int x3), .val (.int x4), .val (.int 3), .val (.int (((XT.ushr x0 8) &&& 255) % 3)), .val (.int x800340), .val (.int (x2 &&& 255)), .val (.int ((XT.ushr x2 8) &&& 255)), .unset, .unset] [(.ref a16)]))
    refine G.goto H12 at_84 (by decide) (pc' := 96) rfl ?_
    refine G.astore H12 (L' := #[.val (.int x0), .val (.int x1), .val (.int x2), .val (.int x3), .val (.int x4), .val (.int 3), .val (.int (((XT.ushr x0 8) &&& 255) % 3)), .val (.int x800340), .val (.int (x2 &&& 255)), .val (.int ((XT.ushr x2 8) &&& 255)), .unset, .val (.ref a16)]) at_96 (pc' := 98) rfl rfl rfl ?_
    refine G.iload H12 at_98 (pc' := 100) rfl rfl ?_
    by_cases c22 : x800340 = 0
    ·
      refine G.ifYes H12 at_100 (XT.i0_eq_t c22) (by decide) (pc' := 122) rfl ?_
      exact cut50_122 V x0 x1 x2 x3 x4 3 (((XT.ushr x0 8) &&& 255) % 3) x800340 (x2 &&& 255) ((XT.ushr x2 8) &&& 255) a16 k17 (x3 &&& 255) ((H12.less all0).mono (C' := 1) (S' := 1) (by decide) (by decide)) (own_and255 _) F20
    ·
      refine G.ifNo H12 at_100 (pc' := 103) rfl (XT.i0_eq_f c22) ?_
      refine G.aload H12 at_103 (pc' := 105) rfl rfl rfl ?_
      refine G.arrlen H12 F20 at_105 (pc' := 106) rfl ?_
      refine G.ifNo H12 at_106 (pc' := 109) rfl (by decide) ?_
      refine G.aload H12 at_109 (pc' := 111) rfl rfl rfl ?_
      refine G.iloadN H12 at_111 (pc' := 112) rfl rfl ?_
      refine G.ldcI H12 (wd0 V) at_112 (pc' := 114) rfl ?_
      refine G.iand H12 at_114 (pc' := 115) rfl ?_
      refine G.aload H12 at_115 (pc' := 117) rfl rfl rfl ?_
      refine G.arrlen H12 F20 at_117 (pc' := 118) rfl ?_
      refine G.irem H12 at_118 (pc' := 119) rfl (by decide) ?_
      refine G.iload H12 at_119 (pc' := 121) rfl rfl ?_
      exact cut77_121 V ((x1 &&& 2147483647) % 1) x0 x1 x2 x3 x4 x800340 a16 k17 ((H12.less all0).mono (C' := 1) (S' := 1) (by decide) (by decide)) (own_r1 _) F20 na16
  ·
    refine G.iloadN H at_80 (pc' := 81) rfl rfl ?_
    refine G.callS H (m51_drawn V x3 h0 H.old) (wd77 V) (wd78 V) (wd3 V) (wd79 V) (by decide) (argsL := [(.int 2), (.int x3)]) (rest := []) (W := 0) rfl rfl (lenOf (pd_3) rfl) rfl rfl at_81 (pc' := 84) rfl (by decide) (by decide) (by decide) (by decide) all0 ?_
    intro T23 h23_ v24 s25 H23 Q26
    obtain ⟨a27, k28, rfl, rfl, K29, g30, F31, F32⟩ := Q26
    have na27 : n0 ≤ a27 := Nat.le_trans H.le g30
    show Go p e below _ (T23.setTop (mkF m 84 #[.val (.int x0), .val (.int x1), .val (.int x2), .val (.int x3), .val (.int x4), .val (.int 3), .val (.int (((XT.ushr x0 8) &&& 255) % 3)), .val (.int x800340), .val (.int (x2 &&& 255)), .val (.int ((XT.ushr x2 8) &&& 255)), .unset, .unset] [(.ref a27)]))
    refine G.goto H23 at_84 (by decide) (pc' := 96) rfl ?_
    refine G.astore H23 (L' := #[.val (.int x0), .val (.int x1), .val (.int x2), .val (.int x3), .val (.int x4), .val (.int 3), .val (.int (((XT.ushr x0 8) &&& 255) % 3)), .val (.int x800340), .val (.int (x2 &&& 255)), .val (.int ((XT.ushr x2 8) &&& 255)), .unset, .val (.ref a27)]) at_96 (pc' := 98) rfl rfl rfl ?_
    refine G.iload H23 at_98 (pc' := 100) rfl rfl ?_
    by_cases c33 : x800340 = 0
    ·
      refine G.ifYes H23 at_100 (XT.i0_eq_t c33) (by decide) (pc' := 122) rfl ?_
      exact cut54_122 V x0 x1 x2 x3 x4 3 (((XT.ushr x0 8) &&& 255) % 3) x800340 (x2 &&& 255) ((XT.ushr x2 8) &&& 255) a27 k28 (x3 &&& 255) ((XT.ushr x3 8) &&& 255) ((H23.less all0).mono (C' := 1) (S' := 2) (by decide) (by decide)) (own_and255 _) (own_and255 _) F31
    ·
      refine G.ifNo H23 at_100 (pc' := 103) rfl (XT.i0_eq_f c33) ?_
      refine G.aload H23 at_103 (pc' := 105) rfl rfl rfl ?_
      refine G.arrlen H23 F31 at_105 (pc' := 106) rfl ?_
      refine G.ifNo H23 at_106 (pc' := 109) rfl (by decide) ?_
      refine G.aload H23 at_109 (pc' := 111) rfl rfl rfl ?_
      refine G.iloadN H23 at_111 (pc' := 112) rfl rfl ?_
      refine G.ldcI H23 (wd0 V) at_112 (pc' := 114) rfl ?_
      refine G.iand H23 at_114 (pc' := 115) rfl ?_
      refine G.aload H23 at_115 (pc' := 117) rfl rfl rfl ?_
      refine G.arrlen H23 F31 at_117 (pc' := 118) rfl ?_
      refine G.irem H23 at_118 (pc' := 119) rfl (by decide) ?_
      refine G.iload H23 at_119 (pc' := 121) rfl rfl ?_
      exact cut78_121 V ((x1 &&& 2147483647) % 2) x0 x1 x2 x3 x4 x800340 a27 k28 ((H23.less all0).mono (C' := 1) (S' := 2) (by decide) (by decide)) (own_r2 _) F31 na27
  ·
    refine G.iloadN H at_80 (pc' := 81) rfl rfl ?_
    refine G.callS H (m55_drawn V x3 h0 H.old) (wd77 V) (wd78 V) (wd3 V) (wd79 V) (by decide) (argsL := [(.int 3), (.int x3)]) (rest := []) (W := 0) rfl rfl (lenOf (pd_3) rfl) rfl rfl at_81 (pc' := 84) rfl (by decide) (by decide) (by decide) (by decide) all0 ?_
    intro T34 h34_ v35 s36 H34 Q37
    obtain ⟨a38, k39, rfl, rfl, K40, g41, F42, F43⟩ := Q37
    have na38 : n0 ≤ a38 := Nat.le_trans H.le g41
    show Go p e below _ (T34.setTop (mkF m 84 #[.val (.int x0), .val (.int x1), .val (.int x2), .val (.int x3), .val (.int x4), .val (.int 3), .val (.int (((XT.ushr x0 8) &&& 255) % 3)), .val (.int x800340), .val (.int (x2 &&& 255)), .val (.int ((XT.ushr x2 8) &&& 255)), .unset, .unset] [(.ref a38)]))
    refine G.goto H34 at_84 (by decide) (pc' := 96) rfl ?_
    refine G.astore H34 (L' := #[.val (.int x0), .val (.int x1), .val (.int x2), .val (.int x3), .val (.int x4), .val (.int 3), .val (.int (((XT.ushr x0 8) &&& 255) % 3)), .val (.int x800340), .val (.int (x2 &&& 255)), .val (.int ((XT.ushr x2 8) &&& 255)), .unset, .val (.ref a38)]) at_96 (pc' := 98) rfl rfl rfl ?_
    refine G.iload H34 at_98 (pc' := 100) rfl rfl ?_
    by_cases c44 : x800340 = 0
    ·
      refine G.ifYes H34 at_100 (XT.i0_eq_t c44) (by decide) (pc' := 122) rfl ?_
      exact cut14_122 V x0 x1 x2 x3 x4 3 (((XT.ushr x0 8) &&& 255) % 3) x800340 (x2 &&& 255) ((XT.ushr x2 8) &&& 255) a38 k39 (x3 &&& 255) ((XT.ushr x3 8) &&& 255) ((XT.ushr x3 16) &&& 255) ((H34.less all0).mono (C' := 1) (S' := 3) (by decide) (by decide)) (own_and255 _) (own_and255 _) (own_and255 _) F42
    ·
      refine G.ifNo H34 at_100 (pc' := 103) rfl (XT.i0_eq_f c44) ?_
      refine G.aload H34 at_103 (pc' := 105) rfl rfl rfl ?_
      refine G.arrlen H34 F42 at_105 (pc' := 106) rfl ?_
      refine G.ifNo H34 at_106 (pc' := 109) rfl (by decide) ?_
      refine G.aload H34 at_109 (pc' := 111) rfl rfl rfl ?_
      refine G.iloadN H34 at_111 (pc' := 112) rfl rfl ?_
      refine G.ldcI H34 (wd0 V) at_112 (pc' := 114) rfl ?_
      refine G.iand H34 at_114 (pc' := 115) rfl ?_
      refine G.aload H34 at_115 (pc' := 117) rfl rfl rfl ?_
      refine G.arrlen H34 F42 at_117 (pc' := 118) rfl ?_
      refine G.irem H34 at_118 (pc' := 119) rfl (by decide) ?_
      refine G.iload H34 at_119 (pc' := 121) rfl rfl ?_
      exact cut79_121 V ((x1 &&& 2147483647) % 3) x0 x1 x2 x3 x4 x800340 a38 k39 ((H34.less all0).mono (C' := 1) (S' := 3) (by decide) (by decide)) (own_r3 _) F42 na38
  ·
    refine G.iloadN H at_80 (pc' := 81) rfl rfl ?_
    refine G.callS H (m56_drawn V x3 h0 H.old) (wd77 V) (wd78 V) (wd3 V) (wd79 V) (by decide) (argsL := [(.int 4), (.int x3)]) (rest := []) (W := 0) rfl rfl (lenOf (pd_3) rfl) rfl rfl at_81 (pc' := 84) rfl (by decide) (by decide) (by decide) (by decide) all0 ?_
    intro T45 h45_ v46 s47 H45 Q48
    obtain ⟨a49, k50, rfl, rfl, K51, g52, F53, F54⟩ := Q48
    have na49 : n0 ≤ a49 := Nat.le_trans H.le g52
    show Go p e below _ (T45.setTop (mkF m 84 #[.val (.int x0), .val (.int x1), .val (.int x2), .val (.int x3), .val (.int x4), .val (.int 3), .val (.int (((XT.ushr x0 8) &&& 255) % 3)), .val (.int x800340), .val (.int (x2 &&& 255)), .val (.int ((XT.ushr x2 8) &&& 255)), .unset, .unset] [(.ref a49)]))
    refine G.goto H45 at_84 (by decide) (pc' := 96) rfl ?_
    refine G.astore H45 (L' := #[.val (.int x0), .val (.int x1), .val (.int x2), .val (.int x3), .val (.int x4), .val (.int 3), .val (.int (((XT.ushr x0 8) &&& 255) % 3)), .val (.int x800340), .val (.int (x2 &&& 255)), .val (.int ((XT.ushr x2 8) &&& 255)), .unset, .val (.ref a49)]) at_96 (pc' := 98) rfl rfl rfl ?_
    refine G.iload H45 at_98 (pc' := 100) rfl rfl ?_
    by_cases c55 : x800340 = 0
    ·
      refine G.ifYes H45 at_100 (XT.i0_eq_t c55) (by decide) (pc' := 122) rfl ?_
      exact cut6_122 V x0 x1 x2 x3 x4 3 (((XT.ushr x0 8) &&& 255) % 3) x800340 (x2 &&& 255) ((XT.ushr x2 8) &&& 255) a49 k50 (x3 &&& 255) ((XT.ushr x3 8) &&& 255) ((XT.ushr x3 16) &&& 255) ((XT.ushr x3 24) &&& 255) ((H45.less all0).mono (C' := 1) (S' := 4) (by decide) (by decide)) (own_and255 _) (own_and255 _) (own_and255 _) (own_and255 _) F53
    ·
      refine G.ifNo H45 at_100 (pc' := 103) rfl (XT.i0_eq_f c55) ?_
      refine G.aload H45 at_103 (pc' := 105) rfl rfl rfl ?_
      refine G.arrlen H45 F53 at_105 (pc' := 106) rfl ?_
      refine G.ifNo H45 at_106 (pc' := 109) rfl (by decide) ?_
      refine G.aload H45 at_109 (pc' := 111) rfl rfl rfl ?_
      refine G.iloadN H45 at_111 (pc' := 112) rfl rfl ?_
      refine G.ldcI H45 (wd0 V) at_112 (pc' := 114) rfl ?_
      refine G.iand H45 at_114 (pc' := 115) rfl ?_
      refine G.aload H45 at_115 (pc' := 117) rfl rfl rfl ?_
      refine G.arrlen H45 F53 at_117 (pc' := 118) rfl ?_
      refine G.irem H45 at_118 (pc' := 119) rfl (by decide) ?_
      refine G.iload H45 at_119 (pc' := 121) rfl rfl ?_
      exact cut80_121 V ((x1 &&& 2147483647) % 4) x0 x1 x2 x3 x4 x800340 a49 k50 ((H45.less all0).mono (C' := 1) (S' := 4) (by decide) (by decide)) (own_r4 _) F53 na49
set_option maxRecDepth 65536 in
set_option maxHeartbeats 40000000 in
theorem cut82_55 (V : Env1 Z a0 n0 uu0 uu1 uu2 uu3 uu4 uu5 uu6 uu7 uu8 uu9 uu10 uu11 uu12 uu13 uu14 uu15) (x90055 : Int32) (x0 : Int32) (x1 : Int32) (x2 : Int32) (x3 : Int32) (x4 : Int32) (x800340 : Int32) (H : Hs p l e room_1 s m as' below meth c Z a0 ELs True x.cls n0 code maxLocals ret x.name T h0 0 0 []) (sp : x90055 = 0 ∨ x90055 = 1 ∨ x90055 = 2 ∨ x90055 = 3 ∨ x90055 = 4) :
    Go p e below (FinP s below Z ELs True n0 room_1.cells room_1.slots (fun v h so => v = some (.int 1))) (T.setTop (mkF m 55 #[.val (.int x0), .val (.int x1), .val (.int x2), .val (.int x3), .val (.int x4), .val (.int x90055), .val (.int (((XT.ushr x0 8) &&& 255) % 3)), .val (.int x800340), .val (.int (x2 &&& 255)), .val (.int ((XT.ushr x2 8) &&& 255)), .unset, .unset] [])) := by
  rcases sp with rfl | rfl | rfl | rfl | rfl
  ·
    refine G.iload H at_55 (pc' := 57) rfl rfl ?_
    refine G.iconst H at_57 (pc' := 58) rfl (v := 4) rfl ?_
    refine G.icmpYes H at_58 (by decide) (by decide) (pc' := 67) rfl ?_
    refine G.iload H at_67 (pc' := 69) rfl rfl ?_
    refine G.iconst H at_69 (pc' := 70) rfl (v := 3) rfl ?_
    refine G.icmpYes H at_70 (by decide) (by decide) (pc' := 87) rfl ?_
    exact cut68_87 V (((XT.ushr x0 8) &&& 255) % 3) x0 x1 x2 x3 x4 x800340 ((H.less all0).mono (C' := 0) (S' := 0) (by decide) (by decide)) (own_v3 _)
  ·
    refine G.iload H at_55 (pc' := 57) rfl rfl ?_
    refine G.iconst H at_57 (pc' := 58) rfl (v := 4) rfl ?_
    refine G.icmpYes H at_58 (by decide) (by decide) (pc' := 67) rfl ?_
    refine G.iload H at_67 (pc' := 69) rfl rfl ?_
    refine G.iconst H at_69 (pc' := 70) rfl (v := 3) rfl ?_
    refine G.icmpYes H at_70 (by decide) (by decide) (pc' := 87) rfl ?_
    exact cut72_87 V (((XT.ushr x0 8) &&& 255) % 3) x0 x1 x2 x3 x4 x800340 ((H.less all0).mono (C' := 0) (S' := 0) (by decide) (by decide)) (own_v3 _)
  ·
    refine G.iload H at_55 (pc' := 57) rfl rfl ?_
    refine G.iconst H at_57 (pc' := 58) rfl (v := 4) rfl ?_
    refine G.icmpYes H at_58 (by decide) (by decide) (pc' := 67) rfl ?_
    refine G.iload H at_67 (pc' := 69) rfl rfl ?_
    refine G.iconst H at_69 (pc' := 70) rfl (v := 3) rfl ?_
    refine G.icmpYes H at_70 (by decide) (by decide) (pc' := 87) rfl ?_
    exact cut76_87 V (((XT.ushr x0 8) &&& 255) % 3) x0 x1 x2 x3 x4 x800340 ((H.less all0).mono (C' := 0) (S' := 0) (by decide) (by decide)) (own_v3 _)
  ·
    refine G.iload H at_55 (pc' := 57) rfl rfl ?_
    refine G.iconst H at_57 (pc' := 58) rfl (v := 4) rfl ?_
    refine G.icmpYes H at_58 (by decide) (by decide) (pc' := 67) rfl ?_
    refine G.iload H at_67 (pc' := 69) rfl rfl ?_
    refine G.iconst H at_69 (pc' := 70) rfl (v := 3) rfl ?_
    refine G.icmpNo H at_70 (pc' := 73) rfl (by decide) ?_
    refine G.iload H at_73 (pc' := 75) rfl rfl ?_
    refine G.ldcI H (wd0 V) at_75 (pc' := 77) rfl ?_
    refine G.iand H at_77 (pc' := 78) rfl ?_
    refine G.iconst H at_78 (pc' := 79) rfl (v := 5) rfl ?_
    refine G.irem H at_79 (pc' := 80) rfl (by decide) ?_
    exact cut81_80 V ((x4 &&& 2147483647) % 5) x0 x1 x2 x3 x4 x800340 ((H.less all0).mono (C' := 0) (S' := 0) (by decide) (by decide)) (own_r5 _)
  ·
    refine G.iload H at_55 (pc' := 57) rfl rfl ?_
    refine G.iconst H at_57 (pc' := 58) rfl (v := 4) rfl ?_
    refine G.icmpNo H at_58 (pc' := 61) rfl (by decide) ?_
    refine G.aconstNull H at_61 (pc' := 62) rfl ?_
    refine G.astore H (L' := #[.val (.int x0), .val (.int x1), .val (.int x2), .val (.int x3), .val (.int x4), .val (.int 4), .val (.int (((XT.ushr x0 8) &&& 255) % 3)), .val (.int x800340), .val (.int (x2 &&& 255)), .val (.int ((XT.ushr x2 8) &&& 255)), .val .null, .unset]) at_62 (pc' := 64) rfl rfl rfl ?_
    refine G.goto H at_64 (by decide) (pc' := 133) rfl ?_
    refine G.aload H at_133 (pc' := 135) rfl rfl rfl ?_
    refine G.callS H (m61_named V h0 H.old) (wd35 V) (wd36 V) (wd37 V) (wd38 V) (by decide) (argsL := [.null]) (rest := []) (W := 0) rfl rfl (lenOf (pd_2) rfl) rfl rfl at_135 (pc' := 138) rfl (by decide) (by decide) (by decide) (by decide) all0 ?_
    intro T1 h1_ v2 s3 H1 Q4
    obtain ⟨rfl, rfl, K5⟩ := Q4
    show Go p e below _ (T1.setTop (mkF m 138 #[.val (.int x0), .val (.int x1), .val (.int x2), .val (.int x3), .val (.int x4), .val (.int 4), .val (.int (((XT.ushr x0 8) &&& 255) % 3)), .val (.int x800340), .val (.int (x2 &&& 255)), .val (.int ((XT.ushr x2 8) &&& 255)), .val .null, .unset] [.null]))
    refine G.astore H1 (L' := #[.val (.int x0), .val (.int x1), .val (.int x2), .val (.int x3), .val (.int x4), .val (.int 4), .val (.int (((XT.ushr x0 8) &&& 255) % 3)), .val (.int x800340), .val (.int (x2 &&& 255)), .val (.int ((XT.ushr x2 8) &&& 255)), .val .null, .val .null]) at_138 (pc' := 140) rfl rfl rfl ?_
    refine G.aload H1 at_140 (pc' := 142) rfl rfl rfl ?_
    refine G.aload H1 at_142 (pc' := 144) rfl rfl rfl ?_
    refine G.callS H1 (m62_expected V h1_ H1.old) (wd69 V) (wd70 V) (wd3 V) (wd71 V) (by decide) (argsL := [.null]) (rest := [.null]) (W := 1) rfl rfl (lenOf (pd_2) rfl) rfl rfl at_144 (pc' := 147) rfl (by decide) (by decide) (by decide) (by decide) all0 ?_
    intro T6 h6_ v7 s8 H6 Q9
    obtain ⟨rfl, rfl, rfl⟩ := Q9
    show Go p e below _ (T6.setTop (mkF m 147 #[.val (.int x0), .val (.int x1), .val (.int x2), .val (.int x3), .val (.int x4), .val (.int 4), .val (.int (((XT.ushr x0 8) &&& 255) % 3)), .val (.int x800340), .val (.int (x2 &&& 255)), .val (.int ((XT.ushr x2 8) &&& 255)), .val .null, .val .null] [.null, .null]))
    refine G.acmpNo H6 at_147 (pc' := 150) rfl rfl rfl (XT.aa_ne_f rfl) ?_
    refine G.iconst H6 at_150 (pc' := 151) rfl (v := 1) rfl ?_
    refine G.goto H6 at_151 (by decide) (pc' := 155) rfl ?_
    exact G.retN H6 (t := .boolean) rfl (by decide) at_155 (so := []) all0 (by decide) (by decide) rfl
set_option maxRecDepth 65536 in
set_option maxHeartbeats 40000000 in
theorem cut83_34 (V : Env1 Z a0 n0 uu0 uu1 uu2 uu3 uu4 uu5 uu6 uu7 uu8 uu9 uu10 uu11 uu12 uu13 uu14 uu15) (x0 : Int32) (x1 : Int32) (x2 : Int32) (x3 : Int32) (x4 : Int32) (x800340 : Int32) (H : Hs p l e room_1 s m as' below meth c Z a0 ELs True x.cls n0 code maxLocals ret x.name T h0 0 0 []) (bo_x800340 : x800340 = 0 ∨ x800340 = 1) :
    Go p e below (FinP s below Z ELs True n0 room_1.cells room_1.slots (fun v h so => v = some (.int 1))) (T.setTop (mkF m 34 #[.val (.int x0), .val (.int x1), .val (.int x2), .val (.int x3), .val (.int x4), .val (.int ((x0 &&& 2147483647) % 5)), .val (.int (((XT.ushr x0 8) &&& 255) % 3)), .unset, .unset, .unset, .unset, .unset] [(.int x800340)])) := by
  refine G.istore H (L' := #[.val (.int x0), .val (.int x1), .val (.int x2), .val (.int x3), .val (.int x4), .val (.int ((x0 &&& 2147483647) % 5)), .val (.int (((XT.ushr x0 8) &&& 255) % 3)), .val (.int x800340), .unset, .unset, .unset, .unset]) at_34 (pc' := 36) rfl rfl ?_
  refine G.iloadN H at_36 (pc' := 37) rfl rfl ?_
  refine G.sipush H at_37 (pc' := 40) rfl (v := 255) rfl ?_
  refine G.iand H at_40 (pc' := 41) rfl ?_
  refine G.i2c H (y := (x2 &&& 255)) at_41 (pc' := 42) rfl (own_c16 (own_u16 (own_and255 _))) ?_
  refine G.istore H (L' := #[.val (.int x0), .val (.int x1), .val (.int x2), .val (.int x3), .val (.int x4), .val (.int ((x0 &&& 2147483647) % 5)), .val (.int (((XT.ushr x0 8) &&& 255) % 3)), .val (.int x800340), .val (.int (x2 &&& 255)), .unset, .unset, .unset]) at_42 (pc' := 44) rfl rfl ?_
  refine G.iloadN H at_44 (pc' := 45) rfl rfl ?_
  refine G.bipush H at_45 (pc' := 47) rfl (v := 8) rfl ?_
  refine G.iushr H at_47 (pc' := 48) rfl ?_
  refine G.sipush H at_48 (pc' := 51) rfl (v := 255) rfl ?_
  refine G.iand H at_51 (pc' := 52) rfl ?_
  refine G.i2c H (y := ((XT.ushr x2 8) &&& 255)) at_52 (pc' := 53) rfl (own_c16 (own_u16 (own_and255 _))) ?_
  refine G.istore H (L' := #[.val (.int x0), .val (.int x1), .val (.int x2), .val (.int x3), .val (.int x4), .val (.int ((x0 &&& 2147483647) % 5)), .val (.int (((XT.ushr x0 8) &&& 255) % 3)), .val (.int x800340), .val (.int (x2 &&& 255)), .val (.int ((XT.ushr x2 8) &&& 255)), .unset, .unset]) at_53 (pc' := 55) rfl rfl ?_
  exact cut82_55 V ((x0 &&& 2147483647) % 5) x0 x1 x2 x3 x4 x800340 ((H.less all0).mono (C' := 0) (S' := 0) (by decide) (by decide)) (own_r5 _)
set_option maxRecDepth 65536 in
set_option maxHeartbeats 40000000 in
theorem rmLaw (V : Env1 Z a0 n0 uu0 uu1 uu2 uu3 uu4 uu5 uu6 uu7 uu8 uu9 uu10 uu11 uu12 uu13 uu14 uu15) (x0 : Int32) (x1 : Int32) (x2 : Int32) (x3 : Int32) (x4 : Int32) (h0 : Heap) (hO : Old Z n0 h0) :
    Met Z a0 ELs True n0 l x code maxLocals ret room_1 #[(.int x0), (.int x1), (.int x2), (.int x3), (.int x4)] h0 [] (fun v h so => v = some (.int 1)) := by
  refine Met.of (EWl V) (by first | decide +kernel | rfl) hO (L0 := #[.val (.int x0), .val (.int x1), .val (.int x2), .val (.int x3), .val (.int x4), .unset, .unset, .unset, .unset, .unset, .unset, .unset]) rfl ?_
  intro p e s m below meth c T H
  show Go p e below _ (T.setTop (mkF m 0 #[.val (.int x0), .val (.int x1), .val (.int x2), .val (.int x3), .val (.int x4), .unset, .unset, .unset, .unset, .unset, .unset, .unset] []))
  refine G.iloadN H at_0 (pc' := 1) rfl rfl ?_
  refine G.ldcI H (wd0 V) at_1 (pc' := 3) rfl ?_
  refine G.iand H at_3 (pc' := 4) rfl ?_
  refine G.iconst H at_4 (pc' := 5) rfl (v := 5) rfl ?_
  refine G.irem H at_5 (pc' := 6) rfl (by decide) ?_
  refine G.istore H (L' := #[.val (.int x0), .val (.int x1), .val (.int x2), .val (.int x3), .val (.int x4), .val (.int ((x0 &&& 2147483647) % 5)), .unset, .unset, .unset, .unset, .unset, .unset]) at_6 (pc' := 8) rfl rfl ?_
  refine G.iloadN H at_8 (pc' := 9) rfl rfl ?_
  refine G.bipush H at_9 (pc' := 11) rfl (v := 8) rfl ?_
  refine G.iushr H at_11 (pc' := 12) rfl ?_
  refine G.sipush H at_12 (pc' := 15) rfl (v := 255) rfl ?_
  refine G.iand H at_15 (pc' := 16) rfl ?_
  refine G.iconst H at_16 (pc' := 17) rfl (v := 3) rfl ?_
  refine G.irem H at_17 (pc' := 18) rfl (by decide) ?_
  refine G.istore H (L' := #[.val (.int x0), .val (.int x1), .val (.int x2), .val (.int x3), .val (.int x4), .val (.int ((x0 &&& 2147483647) % 5)), .val (.int (((XT.ushr x0 8) &&& 255) % 3)), .unset, .unset, .unset, .unset, .unset]) at_18 (pc' := 20) rfl rfl ?_
  refine G.iloadN H at_20 (pc' := 21) rfl rfl ?_
  refine G.bipush H at_21 (pc' := 23) rfl (v := 16) rfl ?_
  refine G.iushr H at_23 (pc' := 24) rfl ?_
  refine G.iconst H at_24 (pc' := 25) rfl (v := 1) rfl ?_
  refine G.iand H at_25 (pc' := 26) rfl ?_
  by_cases c1 : ((XT.ushr x0 16) &&& 1) = 0
  ·
    refine G.ifYes H at_26 (XT.i0_eq_t c1) (by decide) (pc' := 33) rfl ?_
    refine G.iconst H at_33 (pc' := 34) rfl (v := 0) rfl ?_
    exact cut64_34 V x0 x1 x2 x3 x4 0 ((H.less all0).mono (C' := 0) (S' := 0) (by decide) (by decide)) (Or.inl rfl) rfl
  ·
    refine G.ifNo H at_26 (pc' := 29) rfl (XT.i0_eq_f c1) ?_
    refine G.iconst H at_29 (pc' := 30) rfl (v := 1) rfl ?_
    refine G.goto H at_30 (by decide) (pc' := 34) rfl ?_
    exact cut83_34 V x0 x1 x2 x3 x4 1 ((H.less all0).mono (C' := 0) (S' := 0) (by decide) (by decide)) (Or.inr rfl)

set_option maxRecDepth 65536 in
set_option maxHeartbeats 40000000 in
theorem comes_1 {Post : Tables → Env → Array Value → State → Outcome → State → Prop} (hpost : ∀ tb e args s v u, (limb_1_1.after args s (.returned v) u = true ∧ limb_1_2.after args s (.returned v) u = true ∧ True) → ReturnedEndW s (.returned v) u (Jvm.fieldLocs frame_1_writes args s ++ Jvm.arrayLocs frame_1_arrays args s ++ Jvm.staticLocs frame_1_statics s) 24 4288 → Post tb e args s (.returned v) u) :
    ArmFor flags0 classFile x code maxLocals ret World_1 tables_1 room_1 Calls_1 rest_1 Pre_1 Post := by
  intro l hfl _ _ p e ha hc hk s m args below hf hA hF happ hP
  obtain ⟨hcalls, hrest, hpre⟩ := hP
  obtain ⟨-, -, -, hnamed, -, -, -, hat⟩ := (Spec.applies_iff hf).mp happ
  obtain ⟨hg, hn⟩ := and_e (Cond.before_iff.mp (show (Jvm.Cond.and given_1 narrow_1).before args s = true from hpre))
  obtain ⟨hg0, hg1⟩ := and_e hg
  obtain ⟨ha0, hg2⟩ := and_e hg1
  obtain ⟨ha1, hg3⟩ := and_e hg2
  obtain ⟨ha2, hg4⟩ := and_e hg3
  obtain ⟨ha3, hg5⟩ := and_e hg4
  have ha4 := hg5
  obtain ⟨w0, w1, w2, w3, w4, rfl⟩ : ∃ w0 w1 w2 w3 w4 : Value, args = #[w0, w1, w2, w3, w4] := by
    have hs : args.size = 5 := by simpa [Cond.value, given_1] using hg0
    obtain ⟨L⟩ := args
    match L, hs with
    | [w0, w1, w2, w3, w4], _ => exact ⟨w0, w1, w2, w3, w4, rfl⟩
  have hw := fun d (hd : d ∈ tables_1) => atoms_spec (ws := Jvm.Cond.code x code maxLocals ret :: tables_1) hat d (List.mem_cons_of_mem _ hd)
  obtain ⟨hsets, hown0⟩ := atoms_of _ (rest_1_c_eq ▸ (show rest_1_c.before _ s = true from hrest))
  have hr0 := Cond.before_iff.mp hown0
  have hfit : Fit s := fun {y c} hc i hi => by
    obtain ⟨ha, rfl⟩ := Array.getElem?_eq_some_iff.mp hc
    have q := List.all_eq_true.mp ((Array.all_eq_true_iff_forall_mem.mp hF) _ (Array.getElem_mem ha)) i (List.mem_range.mpr hi)
    simpa [Array.getElem?_eq_getElem hi] using q
  obtain ⟨i0, e0⟩ := is_v ha0
  obtain rfl : w0 = (.int i0) := Option.some.inj e0
  obtain ⟨i1, e1⟩ := is_v ha1
  obtain rfl : w1 = (.int i1) := Option.some.inj e1
  obtain ⟨i2, e2⟩ := is_v ha2
  obtain rfl : w2 = (.int i2) := Option.some.inj e2
  obtain ⟨i3, e3⟩ := is_v ha3
  obtain rfl : w3 = (.int i3) := Option.some.inj e3
  obtain ⟨i4, e4⟩ := is_v ha4
  obtain rfl : w4 = (.int i4) := Option.some.inj e4
  obtain ⟨nr0, hn0⟩ := and_e hn
  obtain ⟨nr1, hn1⟩ := and_e hn0
  obtain ⟨nr2, hn2⟩ := and_e hn1
  obtain ⟨nr3, hn3⟩ := and_e hn2
  obtain ⟨nr4, hn4⟩ := and_e hn3
  obtain ⟨nr5, hn5⟩ := and_e hn4
  obtain ⟨nr6, hn6⟩ := and_e hn5
  obtain ⟨nr7, hn7⟩ := and_e hn6
  obtain ⟨nr8, hn8⟩ := and_e hn7
  obtain ⟨nr9, hn9⟩ := and_e hn8
  obtain ⟨nr10, hn10⟩ := and_e hn9
  obtain ⟨nr11, hn11⟩ := and_e hn10
  obtain ⟨nr12, hn12⟩ := and_e hn11
  obtain ⟨nr13, hn13⟩ := and_e hn12
  obtain ⟨nr14, hn14⟩ := and_e hn13
  obtain ⟨nr15, hn15⟩ := and_e hn14
  obtain ⟨nr16, hn16⟩ := and_e hn15
  obtain ⟨nr17, hn17⟩ := and_e hn16
  obtain ⟨nr18, hn18⟩ := and_e hn17
  obtain ⟨nr19, hn19⟩ := and_e hn18
  obtain ⟨nr20, hn20⟩ := and_e hn19
  obtain ⟨nr21, hn21⟩ := and_e hn20
  obtain ⟨nr22, hn22⟩ := and_e hn21
  obtain ⟨nr23, hn23⟩ := and_e hn22
  obtain ⟨nr24, hn24⟩ := and_e hn23
  obtain ⟨nr25, hn25⟩ := and_e hn24
  obtain ⟨nr26, hn26⟩ := and_e hn25
  obtain ⟨nr27, hn27⟩ := and_e hn26
  obtain ⟨nr28, hn28⟩ := and_e hn27
  obtain ⟨nr29, hn29⟩ := and_e hn28
  obtain ⟨nr30, hn30⟩ := and_e hn29
  obtain ⟨nr31, hn31⟩ := and_e hn30
  obtain ⟨nr32, hn32⟩ := and_e hn31
  obtain ⟨nr33, hn33⟩ := and_e hn32
  obtain ⟨nr34, hn34⟩ := and_e hn33
  obtain ⟨nr35, hn35⟩ := and_e hn34
  obtain ⟨nr36, hn36⟩ := and_e hn35
  obtain ⟨nr37, hn37⟩ := and_e hn36
  obtain ⟨nr38, hn38⟩ := and_e hn37
  obtain ⟨nr39, hn39⟩ := and_e hn38
  obtain ⟨nr40, hn40⟩ := and_e hn39
  obtain ⟨nr41, hn41⟩ := and_e hn40
  obtain ⟨nr42, hn42⟩ := and_e hn41
  obtain ⟨nr43, hn43⟩ := and_e hn42
  obtain ⟨nr44, hn44⟩ := and_e hn43
  obtain ⟨nr45, hn45⟩ := and_e hn44
  obtain ⟨nr46, hn46⟩ := and_e hn45
  have nr47 := hn46
  obtain ⟨uu0, e__VALUES⟩ := exa_v nr1
  have hv0 := Sta.start e__VALUES (Or.inr ⟨hw _ (List.mem_of_getElem? (i := 37) rfl), hw _ (List.mem_of_getElem? (i := 43) rfl)⟩)
  have hv1 := Exa.start e__VALUES nr1
  obtain ⟨uu1, e_AUTO⟩ := exa_v nr3
  have hv2 := Sta.start e_AUTO (Or.inr ⟨hw _ (List.mem_of_getElem? (i := 37) rfl), hw _ (List.mem_of_getElem? (i := 51) rfl)⟩)
  have hv3 := Exa.start e_AUTO nr3
  obtain ⟨uu2, e_CLIENT⟩ := exa_v nr5
  have hv4 := Sta.start e_CLIENT (Or.inr ⟨hw _ (List.mem_of_getElem? (i := 37) rfl), hw _ (List.mem_of_getElem? (i := 52) rfl)⟩)
  have hv5 := Exa.start e_CLIENT nr5
  obtain ⟨uu3, e_CLIENT_INDIVIDUAL⟩ := exa_v nr7
  have hv6 := Sta.start e_CLIENT_INDIVIDUAL (Or.inr ⟨hw _ (List.mem_of_getElem? (i := 37) rfl), hw _ (List.mem_of_getElem? (i := 53) rfl)⟩)
  have hv7 := Exa.start e_CLIENT_INDIVIDUAL nr7
  obtain ⟨uu4, e_CLIENT_INDIVIDUAL_header⟩ := exa_v nr21
  have hv8 := Fld.start ((fld_at e_CLIENT_INDIVIDUAL).symm.trans e_CLIENT_INDIVIDUAL_header)
  have hv9 := Exa.start e_CLIENT_INDIVIDUAL_header nr21
  obtain ⟨uu5, e_CLIENT_header⟩ := exa_v nr17
  have hv10 := Fld.start ((fld_at e_CLIENT).symm.trans e_CLIENT_header)
  have hv11 := Exa.start e_CLIENT_header nr17
  obtain ⟨uu6, e_AUTO_header⟩ := exa_v nr9
  have hv12 := Fld.start ((fld_at e_AUTO).symm.trans e_AUTO_header)
  have hv13 := Exa.start e_AUTO_header nr9
  obtain ⟨uu7, e_CLIENT_INDIVIDUAL_header_value⟩ := arr_v nr23
  have hv14 := Fld.start ((fld_at e_CLIENT_INDIVIDUAL_header).symm.trans e_CLIENT_INDIVIDUAL_header_value)
  obtain ⟨uu8, e_AUTO_header_value⟩ := arr_v nr11
  have hv15 := Fld.start ((fld_at e_AUTO_header).symm.trans e_AUTO_header_value)
  obtain ⟨uu9, e_CLIENT_header_value⟩ := arr_v nr19
  have hv16 := Fld.start ((fld_at e_CLIENT_header).symm.trans e_CLIENT_header_value)
  obtain ⟨cl__VALUES, Ar__VALUES⟩ := Arr.start e__VALUES nr0
  obtain ⟨sz__VALUES, ln__VALUES⟩ := own_len e__VALUES Ar__VALUES nr2
  have hv17 : Arv s s.heap uu0 cl__VALUES.cls (.object "bindery/server/stomp/StompConnection$AckMode") (3 : Int32) [(.ref uu1), (.ref uu2), (.ref uu3)] .null := Arv.start hfit Ar__VALUES sz__VALUES ln__VALUES (by decide) rfl ⟨own_el e__VALUES Ar__VALUES (own_evR e_AUTO nr4) rfl, own_el e__VALUES Ar__VALUES (own_evR e_CLIENT nr6) rfl, own_el e__VALUES Ar__VALUES (own_evR e_CLIENT_INDIVIDUAL nr8) rfl, trivial⟩
  obtain ⟨cl_CLIENT_INDIVIDUAL_header_value, Ar_CLIENT_INDIVIDUAL_header_value⟩ := Arr.start e_CLIENT_INDIVIDUAL_header_value nr23
  obtain ⟨sz_CLIENT_INDIVIDUAL_header_value, ln_CLIENT_INDIVIDUAL_header_value⟩ := own_len e_CLIENT_INDIVIDUAL_header_value Ar_CLIENT_INDIVIDUAL_header_value nr24
  have hv18 : Arv s s.heap uu7 cl_CLIENT_INDIVIDUAL_header_value.cls .byte (17 : Int32) [(.int (99 : Int32)), (.int (108 : Int32)), (.int (105 : Int32)), (.int (101 : Int32)), (.int (110 : Int32)), (.int (116 : Int32)), (.int (45 : Int32)), (.int (105 : Int32)), (.int (110 : Int32)), (.int (100 : Int32)), (.int (105 : Int32)), (.int (118 : Int32)), (.int (105 : Int32)), (.int (100 : Int32)), (.int (117 : Int32)), (.int (97 : Int32)), (.int (108 : Int32))] (.int 0) := Arv.start hfit Ar_CLIENT_INDIVIDUAL_header_value sz_CLIENT_INDIVIDUAL_header_value ln_CLIENT_INDIVIDUAL_header_value (by decide) rfl ⟨own_el e_CLIENT_INDIVIDUAL_header_value Ar_CLIENT_INDIVIDUAL_header_value (own_evI nr31) rfl, own_el e_CLIENT_INDIVIDUAL_header_value Ar_CLIENT_INDIVIDUAL_header_value (own_evI nr32) rfl, own_el e_CLIENT_INDIVIDUAL_header_value Ar_CLIENT_INDIVIDUAL_header_value (own_evI nr33) rfl, own_el e_CLIENT_INDIVIDUAL_header_value Ar_CLIENT_INDIVIDUAL_header_value (own_evI nr34) rfl, own_el e_CLIENT_INDIVIDUAL_header_value Ar_CLIENT_INDIVIDUAL_header_value (own_evI nr35) rfl, own_el e_CLIENT_INDIVIDUAL_header_value Ar_CLIENT_INDIVIDUAL_header_value (own_evI nr36) rfl, own_el e_CLIENT_INDIVIDUAL_header_value Ar_CLIENT_INDIVIDUAL_header_value (own_evI nr37) rfl, own_el e_CLIENT_INDIVIDUAL_header_value Ar_CLIENT_INDIVIDUAL_header_value (own_evI nr38) rfl, own_el e_CLIENT_INDIVIDUAL_header_value Ar_CLIENT_INDIVIDUAL_header_value (own_evI nr39) rfl, own_el e_CLIENT_INDIVIDUAL_header_value Ar_CLIENT_INDIVIDUAL_header_value (own_evI nr40) rfl, own_el e_CLIENT_INDIVIDUAL_header_value Ar_CLIENT_INDIVIDUAL_header_value (own_evI nr41) rfl, own_el e_CLIENT_INDIVIDUAL_header_value Ar_CLIENT_INDIVIDUAL_header_value (own_evI nr42) rfl, own_el e_CLIENT_INDIVIDUAL_header_value Ar_CLIENT_INDIVIDUAL_header_value (own_evI nr43) rfl, own_el e_CLIENT_INDIVIDUAL_header_value Ar_CLIENT_INDIVIDUAL_header_value (own_evI nr44) rfl, own_el e_CLIENT_INDIVIDUAL_header_value Ar_CLIENT_INDIVIDUAL_header_value (own_evI nr45) rfl, own_el e_CLIENT_INDIVIDUAL_header_value Ar_CLIENT_INDIVIDUAL_header_value (own_evI nr46) rfl, own_el e_CLIENT_INDIVIDUAL_header_value Ar_CLIENT_INDIVIDUAL_header_value (own_evI nr47) rfl, trivial⟩
  obtain ⟨cl_AUTO_header_value, Ar_AUTO_header_value⟩ := Arr.start e_AUTO_header_value nr11
  obtain ⟨sz_AUTO_header_value, ln_AUTO_header_value⟩ := own_len e_AUTO_header_value Ar_AUTO_header_value nr12
  have hv19 : Arv s s.heap uu8 cl_AUTO_header_value.cls .byte (4 : Int32) [(.int (97 : Int32)), (.int (117 : Int32)), (.int (116 : Int32)), (.int (111 : Int32))] (.int 0) := Arv.start hfit Ar_AUTO_header_value sz_AUTO_header_value ln_AUTO_header_value (by decide) rfl ⟨own_el e_AUTO_header_value Ar_AUTO_header_value (own_evI nr13) rfl, own_el e_AUTO_header_value Ar_AUTO_header_value (own_evI nr14) rfl, own_el e_AUTO_header_value Ar_AUTO_header_value (own_evI nr15) rfl, own_el e_AUTO_header_value Ar_AUTO_header_value (own_evI nr16) rfl, trivial⟩
  obtain ⟨cl_CLIENT_header_value, Ar_CLIENT_header_value⟩ := Arr.start e_CLIENT_header_value nr19
  obtain ⟨sz_CLIENT_header_value, ln_CLIENT_header_value⟩ := own_len e_CLIENT_header_value Ar_CLIENT_header_value nr20
  have hv20 : Arv s s.heap uu9 cl_CLIENT_header_value.cls .byte (6 : Int32) [(.int (99 : Int32)), (.int (108 : Int32)), (.int (105 : Int32)), (.int (101 : Int32)), (.int (110 : Int32)), (.int (116 : Int32))] (.int 0) := Arv.start hfit Ar_CLIENT_header_value sz_CLIENT_header_value ln_CLIENT_header_value (by decide) rfl ⟨own_el e_CLIENT_header_value Ar_CLIENT_header_value (own_evI nr25) rfl, own_el e_CLIENT_header_value Ar_CLIENT_header_value (own_evI nr26) rfl, own_el e_CLIENT_header_value Ar_CLIENT_header_value (own_evI nr27) rfl, own_el e_CLIENT_header_value Ar_CLIENT_header_value (own_evI nr28) rfl, own_el e_CLIENT_header_value Ar_CLIENT_header_value (own_evI nr29) rfl, own_el e_CLIENT_header_value Ar_CLIENT_header_value (own_evI nr30) rfl, trivial⟩
  have hv21 := own_fldeq e_AUTO_header nr10
  have hv22 := own_fldeq e_CLIENT_header nr18
  have hv23 := own_fldeq e_CLIENT_INDIVIDUAL_header nr22
  obtain ⟨uu14, ez_COMPACT_STRINGS⟩ := is_v (Cond.before_iff.mp (hsets _ (List.mem_of_getElem? (i := 1) rfl)))
  have hv24 := Sta.start ez_COMPACT_STRINGS (Or.inl (hsets _ (List.mem_of_getElem? (i := 0) rfl)))
  have hv25 : ¬ (uu14 = (0 : Int32)) := gotF (Cond.eq_ints ez_COMPACT_STRINGS (Term.int_eval (0))) (not_v (Cond.before_iff.mp (hsets _ (List.mem_of_getElem? (i := 2) rfl))))
  obtain ⟨uu15, ez_SIOOBE_FORMATTER, hv27⟩ := isR_v (Cond.before_iff.mp (hsets _ (List.mem_of_getElem? (i := 8) rfl)))
  have hv26 := Sta.start ez_SIOOBE_FORMATTER (Or.inl (hsets _ (List.mem_of_getElem? (i := 7) rfl)))
  have hv28 : Str s s.heap uu4 uu7 cl_CLIENT_INDIVIDUAL_header_value.cls [(99 : Int32), (108 : Int32), (105 : Int32), (101 : Int32), (110 : Int32), (116 : Int32), (45 : Int32), (105 : Int32), (110 : Int32), (100 : Int32), (105 : Int32), (118 : Int32), (105 : Int32), (100 : Int32), (117 : Int32), (97 : Int32), (108 : Int32)] := ⟨hv9, hv23, hv14, hv18, by decide, by decide⟩
  have hv29 : Str s s.heap uu5 uu9 cl_CLIENT_header_value.cls [(99 : Int32), (108 : Int32), (105 : Int32), (101 : Int32), (110 : Int32), (116 : Int32)] := ⟨hv11, hv22, hv16, hv20, by decide, by decide⟩
  have hv30 : Str s s.heap uu6 uu8 cl_AUTO_header_value.cls [(97 : Int32), (117 : Int32), (116 : Int32), (111 : Int32)] := ⟨hv13, hv21, hv15, hv19, by decide, by decide⟩
  have V : Env1 s _ s.heap.size uu0 uu1 uu2 uu3 uu4 uu5 uu6 uu7 uu8 uu9 cl__VALUES.cls cl_CLIENT_INDIVIDUAL_header_value.cls cl_AUTO_header_value.cls cl_CLIENT_header_value.cls uu14 uu15 := ⟨hw, (EW.cons (hw _ (List.mem_of_getElem? (i := 72) rfl)) (by decide) (EW.cons (hw _ (List.mem_of_getElem? (i := 80) rfl)) (by decide) (EW.cons (hw _ (List.mem_of_getElem? (i := 81) rfl)) (by decide) (EW.cons (hw _ (List.mem_of_getElem? (i := 84) rfl)) (by decide) EW.nil)))), hv0, hv1, hv2, hv3, hv4, hv5, hv6, hv7, hv8, hv9, hv10, hv11, hv12, hv13, hv14, hv15, hv16, hv17, hv18, hv19, hv20, hv21, hv22, hv23, hv24, hv25, hv26, hv27, hv28, hv29, hv30, trivial⟩
  have hCH : CHv s ELs s.vm s.heap := CHv.start (EWl V) (fun q hq => hcalls.1 q hq) (hsets _ (List.mem_of_getElem? (i := 2) rfl)) (hw _ (List.mem_of_getElem? (i := 24) rfl)) (hw _ (List.mem_of_getElem? (i := 7) rfl))
  obtain ⟨n, o, g1, g2, g3, v, L, so, rfl, rfl, -, N, -, -, hq, hq2⟩ := rmLaw (l := l) V i0 i1 i2 i3 i4 s.heap (Old.start s) tables_1 p e ha hc hk s m _ below hf ((Spec.applies_iff_loose hf).mp happ).1 ⟨rfl, State.Warmed39.refl s, rfl, hCH, fun _ q => nomatch q⟩ trivial
  refine ⟨n, _, g1, g2, g3, hpost _ _ _ _ _ _ ⟨Cond.after_iff.mpr rfl, Cond.after_iff.mpr (eq_i res_at (Term.int_eval (1)) rfl), trivial⟩ ⟨hq.1, hq.2.1, hq.2.2.1, (hq.2.2.2.sift fun y hy => Or.inr (N y hy)).mono (by decide) (by decide)⟩⟩
theorem main_1_1 : Claimed_1_1 := comes_1 fun _ _ _ _ _ _ h hF => ⟨h.1, hF⟩
theorem main_1_2 : Claimed_1_2 := comes_1 fun _ _ _ _ _ _ h hF => ⟨h.2.1, hF⟩
end Jvm.Pilot.@@N@@
namespace Jvm.Pilot.@@N@@
open Jvm Jvm.ClassFile Sem Op Lib Jvm.Free Jvm.Stand Jvm.Pilot.@@N@@.Jvm.D
/-! MADE BY PROGRAM (witnessworld.py) out of the Statement's table words and the real class files: 22 classes; the members and pool entries that the words name. The judged class is class 1, her method 1. -/
namespace start1
open Jvm.ClassFile
def u (s : String) : CpInfo := .utf8 (stringToUtf16 s)
/-- a pool by its gaps: so many unusable entries, then the entry; so many at the end -/
def gap : Nat → List CpInfo → List CpInfo
  | 0, r => r
  | n + 1, r => .unusable :: gap n r
def poolList (es : List (Nat × CpInfo)) (last : Nat) : List CpInfo := es.foldr (fun e r => gap e.1 (e.2 :: r)) (gap last [])
def pool (es : List (Nat × CpInfo)) (last : Nat) : Array CpInfo := ⟨poolList es last⟩
def fileOf (pool : Array CpInfo) (this : Nat) (attrs : Array Attribute := #[]) (ms : Array MethodInfo := #[]) (fl : Nat := 33) (sup : Nat := 0) (ifs : Array Nat := #[]) (fds : Array FieldInfo := #[]) : ClassFile where
  minorVersion := 0
  majorVersion := 65
  constantPool := pool
  accessFlags := fl
  thisClass := this
  superClass := sup
  interfaces := ifs
  fields := fds
  methods := ms
  attributes := attrs
def plain (name : String) (sup : Option ClassId) : Class where
  name := name
  kind := .ordinary
  loader := none
  accessFlags := 33
  super := sup
  interfaces := #[]
  cf := none
  fields := #[]
  methods := #[]
  instanceTypes := #[]
  staticTypes := #[]
  resolved := #[]
  callSites := []
  init := .initialized
  statics := none
  mirror := none

def pool0 : Array CpInfo := pool [(5, u "<init>"), (0, u "()V"), (1, .class_ 10), (1, u "java/lang/Object"), (85, u "clone"), (0, u "()Ljava/lang/Object;")] 26

def k0c0 : Code := { maxStack := 0, maxLocals := 1, code := object_method_1_code, exceptionTable := #[], attributes := #[] }
def k0m0 : Method := { name := "<init>", desc := "()V", sig := { parameters := [], returnType := none }, accessFlags := 1, code := some k0c0 }
def k0m1 : Method := { name := "clone", desc := "()Ljava/lang/Object;", sig := { parameters := [], returnType := some (.object "java/lang/Object") }, accessFlags := 260, code := none }
/-- java/lang/Object -/
def k0 : Class := { plain "java/lang/Object" none with
  accessFlags := 33
  interfaces := #[]
  cf := some (fileOf pool0 8 #[] #[{ accessFlags := 1, nameIndex := 5, descriptorIndex := 6, attributes := #[] }, { accessFlags := 260, nameIndex := 96, descriptorIndex := 97, attributes := #[] }] 33 0 #[] #[])
  fields := #[]
  methods := #[k0m0, k0m1]
  instanceTypes := #[]
  staticTypes := #[]
  resolved := Array.replicate 124 none
  statics := none }

def pool1 : Array CpInfo := pool [(2, .class_ 4), (1, u "java/lang/Object"), (0, u "<init>"), (0, u "()V"), (0, .integer 2147483647), (0, .methodref 9 10), (0, .class_ 11), (0, .nameAndType 12 13), (0, u "bindery/server/stomp/AckModeNamedPinLaw"), (0, u "drawn"), (0, u "(II)[C"), (0, .methodref 9 15), (0, .nameAndType 16 17), (0, u "base"), (0, u "(IIC)[C"), (0, .class_ 19), (0, u "java/lang/String"), (0, .methodref 18 21), (0, .nameAndType 5 22), (0, u "([C)V"), (0, .methodref 24 25), (0, .class_ 26), (0, .nameAndType 27 28), (0, u "bindery/server/stomp/StompConnection$AckMode"), (0, u "named"), (0, u "(Ljava/lang/String;)Lbindery/server/stomp/StompConnection$AckMode;"), (0, .methodref 9 30), (0, .nameAndType 31 28), (0, u "expected"), (0, .string 33), (0, u "auto"), (0, .methodref 18 35), (0, .nameAndType 36 37), (0, u "equals"), (0, u "(Ljava/lang/Object;)Z"), (0, .fieldref 24 39), (0, .nameAndType 40 41), (0, u "AUTO"), (0, u "Lbindery/server/stomp/StompConnection$AckMode;"), (0, .string 43), (0, u "client"), (0, .fieldref 24 45), (0, .nameAndType 46 41), (0, u "CLIENT"), (0, .string 48), (0, u "client-individual"), (0, .fieldref 24 50), (0, .nameAndType 51 41), (0, u "CLIENT_INDIVIDUAL"), (2, u "law"), (0, u "(IIIII)Z")] 9

def k1m0 : Method := { name := "<init>", desc := "()V", sig := { parameters := [], returnType := none }, accessFlags := 1, code := none }
def k1c1 : Code := { maxStack := 3, maxLocals := 12, code := code, exceptionTable := #[], attributes := #[] }
def k1m1 : Method := { name := "law", desc := "(IIIII)Z", sig := { parameters := [.int, .int, .int, .int, .int], returnType := some .boolean }, accessFlags := 9, code := some k1c1 }
def k1c2 : Code := { maxStack := 2, maxLocals := 1, code := method_3_code, exceptionTable := #[], attributes := #[] }
def k1m2 : Method := { name := "expected", desc := "(Ljava/lang/String;)Lbindery/server/stomp/StompConnection$AckMode;", sig := { parameters := [(.object "java/lang/String")], returnType := some (.object "bindery/server/stomp/StompConnection$AckMode") }, accessFlags := 10, code := some k1c2 }
def k1c3 : Code := { maxStack := 4, maxLocals := 3, code := method_4_code, exceptionTable := #[], attributes := #[] }
def k1m3 : Method := { name := "drawn", desc := "(II)[C", sig := { parameters := [.int, .int], returnType := some (.array .char) }, accessFlags := 10, code := some k1c3 }
def k1c4 : Code := { maxStack := 4, maxLocals := 3, code := method_5_code, exceptionTable := #[], attributes := #[] }
def k1m4 : Method := { name := "base", desc := "(IIC)[C", sig := { parameters := [.int, .int, .char], returnType := some (.array .char) }, accessFlags := 10, code := some k1c4 }
/-- bindery/server/stomp/AckModeNamedPinLaw -/
def k1 : Class := { plain "bindery/server/stomp/AckModeNamedPinLaw" (some 0) with
  accessFlags := 49
  interfaces := #[]
  cf := some (fileOf pool1 9 #[] #[{ accessFlags := 1, nameIndex := 5, descriptorIndex := 6, attributes := #[] }, { accessFlags := 9, nameIndex := 54, descriptorIndex := 55, attributes := #[] }, { accessFlags := 10, nameIndex := 31, descriptorIndex := 28, attributes := #[] }, { accessFlags := 10, nameIndex := 12, descriptorIndex := 13, attributes := #[] }, { accessFlags := 10, nameIndex := 16, descriptorIndex := 17, attributes := #[] }] 49 2 #[] #[])
  fields := #[]
  methods := #[k1m0, k1m1, k1m2, k1m3, k1m4]
  instanceTypes := #[]
  staticTypes := #[]
  resolved := Array.replicate 65 none
  statics := none }

def pool2 : Array CpInfo := pool [(1, .class_ 2), (0, u "java/io/Serializable"), (0, .class_ 4), (0, u "java/lang/Object")] 2

/-- java/io/Serializable -/
def k2 : Class := { plain "java/io/Serializable" (some 0) with
  accessFlags := 1537
  interfaces := #[]
  cf := some (fileOf pool2 1 #[] #[] 1537 3 #[] #[])
  fields := #[]
  methods := #[]
  instanceTypes := #[]
  staticTypes := #[]
  resolved := Array.replicate 7 none
  statics := none }

def pool3 : Array CpInfo := pool [(1, .class_ 2), (0, u "java/lang/Comparable"), (0, .class_ 4), (0, u "java/lang/Object")] 7

/-- java/lang/Comparable -/
def k3 : Class := { plain "java/lang/Comparable" (some 0) with
  accessFlags := 1537
  interfaces := #[]
  cf := some (fileOf pool3 1 #[] #[] 1537 3 #[] #[])
  fields := #[]
  methods := #[]
  instanceTypes := #[]
  staticTypes := #[]
  resolved := Array.replicate 12 none
  statics := none }

def pool4 : Array CpInfo := pool [(2, .class_ 4), (1, u "java/lang/CharSequence"), (42, .class_ 48), (0, u "java/lang/CharSequence$1CodePointIterator"), (10, .class_ 60), (0, u "java/lang/CharSequence$1CharIterator"), (5, .class_ 67), (0, u "java/lang/Object")] 63

/-- java/lang/CharSequence -/
def k4 : Class := { plain "java/lang/CharSequence" (some 0) with
  accessFlags := 1537
  interfaces := #[]
  cf := some (fileOf pool4 2 #[.nestMembers #[47, 59]] #[] 1537 66 #[] #[])
  fields := #[]
  methods := #[]
  instanceTypes := #[]
  staticTypes := #[]
  resolved := Array.replicate 131 none
  statics := none }

def pool5 : Array CpInfo := pool [(1, .class_ 2), (0, u "java/lang/constant/Constable"), (0, .class_ 4), (0, u "java/lang/Object")] 6

/-- java/lang/constant/Constable -/
def k5 : Class := { plain "java/lang/constant/Constable" (some 0) with
  accessFlags := 1537
  interfaces := #[]
  cf := some (fileOf pool5 1 #[] #[] 1537 3 #[] #[])
  fields := #[]
  methods := #[]
  instanceTypes := #[]
  staticTypes := #[]
  resolved := Array.replicate 11 none
  statics := none }

def pool6 : Array CpInfo := pool [(1, .class_ 2), (0, u "java/lang/constant/ConstantDesc"), (0, .class_ 4), (0, u "java/lang/Object")] 32

/-- java/lang/constant/ConstantDesc -/
def k6 : Class := { plain "java/lang/constant/ConstantDesc" (some 0) with
  accessFlags := 1537
  interfaces := #[]
  cf := some (fileOf pool6 1 #[] #[] 1537 3 #[] #[])
  fields := #[]
  methods := #[]
  instanceTypes := #[]
  staticTypes := #[]
  resolved := Array.replicate 37 none
  statics := none }

def pool7 : Array CpInfo := pool [(1, .methodref 2 3), (0, .class_ 4), (0, .nameAndType 5 6), (0, u "java/lang/Object"), (0, u "<init>"), (0, u "()V"), (0, .string 8), (0, u ""), (0, .fieldref 10 11), (0, .class_ 12), (0, .nameAndType 13 14), (0, u "java/lang/String"), (0, u "value"), (0, u "[B"), (0, .fieldref 10 16), (0, .nameAndType 17 18), (0, u "coder"), (0, u "B"), (2, u "hash"), (0, u "I"), (2, u "hashIsZero"), (0, u "Z"), (0, .methodref 10 28), (0, .nameAndType 5 29), (0, u "([CIILjava/lang/Void;)V"), (8, .fieldref 10 39), (0, .nameAndType 40 26), (0, u "COMPACT_STRINGS"), (1, .class_ 44), (1, u "java/lang/StringUTF16"), (0, u "compress"), (1, .methodref 42 48), (0, .nameAndType 49 50), (0, u "coderFromArrayLen"), (0, u "([BI)B"), (56, .class_ 109), (1, u "java/lang/StringLatin1"), (67, .methodref 42 178), (0, .nameAndType 45 179), (0, u "([CII)[B"), (361, .methodref 107 542), (0, .nameAndType 543 544), (0, u "equals"), (0, u "([B[B)Z"), (28, u "(Ljava/lang/Object;)Z"), (1, .class_ 576), (0, u "java/lang/CharSequence"), (22, u "CASE_INSENSITIVE_ORDER"), (0, u "Ljava/util/Comparator;"), (409, u "([C)V"), (90, u "serialPersistentFields"), (0, u "[Ljava/io/ObjectStreamField;"), (0, .class_ 1104), (0, u "java/lang/String$CaseInsensitiveComparator"), (1, .class_ 1107), (0, u "java/io/Serializable"), (0, .class_ 1109), (0, u "java/lang/Comparable"), (0, .class_ 1111), (0, u "java/lang/constant/Constable"), (0, .class_ 1113), (0, u "java/lang/constant/ConstantDesc"), (2, u "serialVersionUID"), (0, u "J"), (3, u "REPL"), (0, u "C"), (2, u "LATIN1"), (1, u "UTF16")] 323

def k7m0 : Method := { name := "<init>", desc := "()V", sig := { parameters := [], returnType := none }, accessFlags := 1, code := none }
def k7c1 : Code := { maxStack := 5, maxLocals := 2, code := jdk_42_method_3_code, exceptionTable := #[], attributes := #[] }
def k7m1 : Method := { name := "<init>", desc := "([C)V", sig := { parameters := [(.array .char)], returnType := none }, accessFlags := 1, code := some k7c1 }
def k7c2 : Code := { maxStack := 2, maxLocals := 3, code := jdk_42_method_66_code, exceptionTable := #[], attributes := #[] }
def k7m2 : Method := { name := "equals", desc := "(Ljava/lang/Object;)Z", sig := { parameters := [(.object "java/lang/Object")], returnType := some .boolean }, accessFlags := 1, code := some k7c2 }
def k7c3 : Code := { maxStack := 4, maxLocals := 6, code := jdk_42_method_149_code, exceptionTable := #[], attributes := #[] }
def k7m3 : Method := { name := "<init>", desc := "([CIILjava/lang/Void;)V", sig := { parameters := [(.array .char), .int, .int, (.object "java/lang/Void")], returnType := none }, accessFlags := 2, code := some k7c3 }
/-- java/lang/String -/
def k7 : Class := { plain "java/lang/String" (some 0) with
  accessFlags := 49
  interfaces := #[2, 3, 4, 5, 6]
  cf := some (fileOf pool7 10 #[.nestMembers #[1103]] #[{ accessFlags := 1, nameIndex := 5, descriptorIndex := 6, attributes := #[] }, { accessFlags := 1, nameIndex := 5, descriptorIndex := 1010, attributes := #[] }, { accessFlags := 1, nameIndex := 543, descriptorIndex := 573, attributes := #[] }, { accessFlags := 2, nameIndex := 5, descriptorIndex := 29, attributes := #[] }] 49 2 #[1106, 1108, 575, 1110, 1112] #[{ accessFlags := 18, nameIndex := 13, descriptorIndex := 14, attributes := #[] }, { accessFlags := 18, nameIndex := 17, descriptorIndex := 18, attributes := #[] }, { accessFlags := 2, nameIndex := 21, descriptorIndex := 22, attributes := #[] }, { accessFlags := 2, nameIndex := 25, descriptorIndex := 26, attributes := #[] }, { accessFlags := 26, nameIndex := 1116, descriptorIndex := 1117, attributes := #[] }, { accessFlags := 24, nameIndex := 40, descriptorIndex := 26, attributes := #[] }, { accessFlags := 26, nameIndex := 1101, descriptorIndex := 1102, attributes := #[] }, { accessFlags := 26, nameIndex := 1121, descriptorIndex := 1122, attributes := #[] }, { accessFlags := 25, nameIndex := 599, descriptorIndex := 600, attributes := #[] }, { accessFlags := 24, nameIndex := 1125, descriptorIndex := 18, attributes := #[] }, { accessFlags := 24, nameIndex := 1127, descriptorIndex := 18, attributes := #[] }])
  fields := #[{ name := "value", type := (.array .byte), accessFlags := 18, slot := 0, constantValue := 0 }, { name := "coder", type := .byte, accessFlags := 18, slot := 1, constantValue := 0 }, { name := "hash", type := .int, accessFlags := 2, slot := 2, constantValue := 0 }, { name := "hashIsZero", type := .boolean, accessFlags := 2, slot := 3, constantValue := 0 }, { name := "serialVersionUID", type := .long, accessFlags := 26, slot := 0, constantValue := 0 }, { name := "COMPACT_STRINGS", type := .boolean, accessFlags := 24, slot := 1, constantValue := 0 }, { name := "serialPersistentFields", type := (.array (.object "java/io/ObjectStreamField")), accessFlags := 26, slot := 2, constantValue := 0 }, { name := "REPL", type := .char, accessFlags := 26, slot := 3, constantValue := 0 }, { name := "CASE_INSENSITIVE_ORDER", type := (.object "java/util/Comparator"), accessFlags := 25, slot := 4, constantValue := 0 }, { name := "LATIN1", type := .byte, accessFlags := 24, slot := 5, constantValue := 0 }, { name := "UTF16", type := .byte, accessFlags := 24, slot := 6, constantValue := 0 }]
  methods := #[k7m0, k7m1, k7m2, k7m3]
  instanceTypes := #[(.array .byte), .byte, .int, .boolean]
  staticTypes := #[.long, .boolean, (.array (.object "java/io/ObjectStreamField")), .char, (.object "java/util/Comparator"), .byte, .byte]
  resolved := Array.replicate 1451 none
  statics := some 0 }

def pool8 : Array CpInfo := pool [(6, .class_ 8), (1, u "java/lang/Object"), (0, u "<init>"), (0, u "()V"), (1, .class_ 14), (1, u "java/lang/StringUTF16"), (31, u "$assertionsDisabled"), (0, u "Z"), (13, u "HI_BYTE_SHIFT"), (0, u "I"), (2, u "LO_BYTE_SHIFT"), (49, .methodref 12 116), (0, .nameAndType 117 118), (0, u "compress"), (0, u "([CI[BII)I"), (3, u "([CII)[B"), (138, u "coderFromArrayLen"), (0, u "([BI)B"), (106, .class_ 371), (1, u "java/lang/StringUTF16$LinesSpliterator"), (58, u "MAX_LENGTH"), (196, .class_ 628), (0, u "java/lang/StringUTF16$CodePointsSpliterator"), (0, .class_ 630), (0, u "java/lang/StringUTF16$CharsSpliterator")] 4

def k8m0 : Method := { name := "<init>", desc := "()V", sig := { parameters := [], returnType := none }, accessFlags := 0, code := none }
def k8c1 : Code := { maxStack := 2, maxLocals := 2, code := jdk_52_method_15_code, exceptionTable := #[], attributes := #[] }
def k8m1 : Method := { name := "coderFromArrayLen", desc := "([BI)B", sig := { parameters := [(.array .byte), .int], returnType := some .byte }, accessFlags := 8, code := some k8c1 }
def k8c2 : Code := { maxStack := 5, maxLocals := 6, code := jdk_52_method_16_code, exceptionTable := #[], attributes := #[] }
def k8m2 : Method := { name := "compress", desc := "([CII)[B", sig := { parameters := [(.array .char), .int, .int], returnType := some (.array .byte) }, accessFlags := 9, code := some k8c2 }
def k8c3 : Code := { maxStack := 3, maxLocals := 7, code := jdk_52_method_21_code, exceptionTable := #[], attributes := #[] }
def k8m3 : Method := { name := "compress", desc := "([CI[BII)I", sig := { parameters := [(.array .char), .int, (.array .byte), .int, .int], returnType := some .int }, accessFlags := 9, code := some k8c3 }
/-- java/lang/StringUTF16 -/
def k8 : Class := { plain "java/lang/StringUTF16" (some 0) with
  accessFlags := 48
  interfaces := #[]
  cf := some (fileOf pool8 12 #[.nestMembers #[627, 629, 369]] #[{ accessFlags := 0, nameIndex := 9, descriptorIndex := 10, attributes := #[] }, { accessFlags := 8, nameIndex := 261, descriptorIndex := 262, attributes := #[] }, { accessFlags := 9, nameIndex := 117, descriptorIndex := 122, attributes := #[] }, { accessFlags := 9, nameIndex := 117, descriptorIndex := 118, attributes := #[] }] 48 6 #[] #[{ accessFlags := 26, nameIndex := 61, descriptorIndex := 62, attributes := #[] }, { accessFlags := 26, nameIndex := 65, descriptorIndex := 62, attributes := #[] }, { accessFlags := 24, nameIndex := 430, descriptorIndex := 62, attributes := #[] }, { accessFlags := 4120, nameIndex := 46, descriptorIndex := 47, attributes := #[] }])
  fields := #[{ name := "HI_BYTE_SHIFT", type := .int, accessFlags := 26, slot := 0, constantValue := 0 }, { name := "LO_BYTE_SHIFT", type := .int, accessFlags := 26, slot := 1, constantValue := 0 }, { name := "MAX_LENGTH", type := .int, accessFlags := 24, slot := 2, constantValue := 0 }, { name := "$assertionsDisabled", type := .boolean, accessFlags := 4120, slot := 3, constantValue := 0 }]
  methods := #[k8m0, k8m1, k8m2, k8m3]
  instanceTypes := #[]
  staticTypes := #[.int, .int, .int, .boolean]
  resolved := Array.replicate 635 none
  statics := none }

def pool9 : Array CpInfo := pool [(2, .class_ 4), (1, u "java/lang/Enum"), (0, u "name"), (0, u "Ljava/lang/String;"), (2, u "ordinal"), (0, u "I"), (1, .class_ 14), (1, u "java/lang/Object"), (4, u "hash"), (86, .class_ 108), (1, u "java/lang/Enum$EnumDesc"), (2, .class_ 112), (0, u "java/lang/constant/Constable"), (0, .class_ 114), (0, u "java/lang/Comparable"), (0, .class_ 116), (0, u "java/io/Serializable")] 87

/-- java/lang/Enum -/
def k9 : Class := { plain "java/lang/Enum" (some 0) with
  accessFlags := 1057
  interfaces := #[5, 3, 2]
  cf := some (fileOf pool9 2 #[.nestMembers #[106]] #[] 1057 12 #[111, 113, 115] #[{ accessFlags := 18, nameIndex := 5, descriptorIndex := 6, attributes := #[] }, { accessFlags := 18, nameIndex := 9, descriptorIndex := 10, attributes := #[] }, { accessFlags := 2, nameIndex := 19, descriptorIndex := 10, attributes := #[] }])
  fields := #[{ name := "name", type := (.object "java/lang/String"), accessFlags := 18, slot := 0, constantValue := 0 }, { name := "ordinal", type := .int, accessFlags := 18, slot := 1, constantValue := 0 }, { name := "hash", type := .int, accessFlags := 2, slot := 2, constantValue := 0 }]
  methods := #[]
  instanceTypes := #[(.object "java/lang/String"), .int, .int]
  staticTypes := #[]
  resolved := Array.replicate 204 none
  statics := none }

def pool10 : Array CpInfo := pool [(1, .class_ 2), (0, u "bindery/server/stomp/StompConnection$AckMode"), (2, u "AUTO"), (0, u "Lbindery/server/stomp/StompConnection$AckMode;"), (2, u "CLIENT"), (2, u "CLIENT_INDIVIDUAL"), (0, .fieldref 1 14), (0, .nameAndType 15 16), (0, u "$VALUES"), (0, u "[Lbindery/server/stomp/StompConnection$AckMode;"), (0, .methodref 18 19), (0, .class_ 16), (0, .nameAndType 20 21), (0, u "clone"), (0, u "()Ljava/lang/Object;"), (1, .class_ 25), (1, u "java/lang/Enum"), (6, .fieldref 1 33), (0, .nameAndType 34 35), (0, u "header"), (0, u "Ljava/lang/String;"), (0, .methodref 1 37), (0, .nameAndType 38 39), (0, u "values"), (0, u "()[Lbindery/server/stomp/StompConnection$AckMode;"), (0, .methodref 41 42), (0, .class_ 43), (0, .nameAndType 44 45), (0, u "java/lang/String"), (0, u "equals"), (0, u "(Ljava/lang/Object;)Z"), (17, u "(Ljava/lang/String;)Lbindery/server/stomp/StompConnection$AckMode;"), (3, u "named"), (7, .class_ 76), (0, u "bindery/server/stomp/StompConnection")] 2

def k10c0 : Code := { maxStack := 1, maxLocals := 0, code := prog_93_method_1_code, exceptionTable := #[], attributes := #[] }
def k10m0 : Method := { name := "values", desc := "()[Lbindery/server/stomp/StompConnection$AckMode;", sig := { parameters := [], returnType := some (.array (.object "bindery/server/stomp/StompConnection$AckMode")) }, accessFlags := 9, code := some k10c0 }
def k10c1 : Code := { maxStack := 2, maxLocals := 5, code := prog_93_method_4_code, exceptionTable := #[], attributes := #[] }
def k10m1 : Method := { name := "named", desc := "(Ljava/lang/String;)Lbindery/server/stomp/StompConnection$AckMode;", sig := { parameters := [(.object "java/lang/String")], returnType := some (.object "bindery/server/stomp/StompConnection$AckMode") }, accessFlags := 8, code := some k10c1 }
/-- bindery/server/stomp/StompConnection$AckMode -/
def k10 : Class := { plain "bindery/server/stomp/StompConnection$AckMode" (some 9) with
  accessFlags := 16432
  interfaces := #[]
  cf := some (fileOf pool10 1 #[.nestHost 75] #[{ accessFlags := 9, nameIndex := 38, descriptorIndex := 39, attributes := #[] }, { accessFlags := 8, nameIndex := 67, descriptorIndex := 63, attributes := #[] }] 16432 23 #[] #[{ accessFlags := 16409, nameIndex := 5, descriptorIndex := 6, attributes := #[] }, { accessFlags := 16409, nameIndex := 9, descriptorIndex := 6, attributes := #[] }, { accessFlags := 16409, nameIndex := 12, descriptorIndex := 6, attributes := #[] }, { accessFlags := 16, nameIndex := 34, descriptorIndex := 35, attributes := #[] }, { accessFlags := 4122, nameIndex := 15, descriptorIndex := 16, attributes := #[] }])
  fields := #[{ name := "AUTO", type := (.object "bindery/server/stomp/StompConnection$AckMode"), accessFlags := 16409, slot := 0, constantValue := 0 }, { name := "CLIENT", type := (.object "bindery/server/stomp/StompConnection$AckMode"), accessFlags := 16409, slot := 1, constantValue := 0 }, { name := "CLIENT_INDIVIDUAL", type := (.object "bindery/server/stomp/StompConnection$AckMode"), accessFlags := 16409, slot := 2, constantValue := 0 }, { name := "header", type := (.object "java/lang/String"), accessFlags := 16, slot := 3, constantValue := 0 }, { name := "$VALUES", type := (.array (.object "bindery/server/stomp/StompConnection$AckMode")), accessFlags := 4122, slot := 3, constantValue := 0 }]
  methods := #[k10m0, k10m1]
  instanceTypes := #[(.object "java/lang/String"), .int, .int, (.object "java/lang/String")]
  staticTypes := #[(.object "bindery/server/stomp/StompConnection$AckMode"), (.object "bindery/server/stomp/StompConnection$AckMode"), (.object "bindery/server/stomp/StompConnection$AckMode"), (.array (.object "bindery/server/stomp/StompConnection$AckMode"))]
  resolved := Array.replicate 79 none
  statics := some 1 }

def pool11 : Array CpInfo := pool [(1, .class_ 2), (0, u "java/lang/Cloneable"), (0, .class_ 4), (0, u "java/lang/Object")] 2

/-- java/lang/Cloneable -/
def k11 : Class := { plain "java/lang/Cloneable" (some 0) with
  accessFlags := 1537
  interfaces := #[]
  cf := some (fileOf pool11 1 #[] #[] 1537 3 #[] #[])
  fields := #[]
  methods := #[]
  instanceTypes := #[]
  staticTypes := #[]
  resolved := Array.replicate 7 none
  statics := none }

def pool12 : Array CpInfo := pool [(4, .class_ 6), (1, u "java/lang/Object"), (0, u "<init>"), (0, u "()V"), (5, .class_ 16), (1, u "java/lang/StringLatin1"), (104, u "$assertionsDisabled"), (0, u "Z"), (98, .class_ 223), (1, u "java/lang/StringLatin1$LinesSpliterator"), (57, u "equals"), (0, u "([B[B)Z"), (107, .class_ 391), (0, u "java/lang/StringLatin1$CharsSpliterator")] 3

def k12m0 : Method := { name := "<init>", desc := "()V", sig := { parameters := [], returnType := none }, accessFlags := 0, code := none }
def k12c1 : Code := { maxStack := 3, maxLocals := 3, code := jdk_43_method_13_code, exceptionTable := #[], attributes := #[] }
def k12m1 : Method := { name := "equals", desc := "([B[B)Z", sig := { parameters := [(.array .byte), (.array .byte)], returnType := some .boolean }, accessFlags := 9, code := some k12c1 }
/-- java/lang/StringLatin1 -/
def k12 : Class := { plain "java/lang/StringLatin1" (some 0) with
  accessFlags := 48
  interfaces := #[]
  cf := some (fileOf pool12 14 #[.nestMembers #[390, 221]] #[{ accessFlags := 0, nameIndex := 7, descriptorIndex := 8, attributes := #[] }, { accessFlags := 9, nameIndex := 281, descriptorIndex := 282, attributes := #[] }] 48 4 #[] #[{ accessFlags := 4120, nameIndex := 121, descriptorIndex := 122, attributes := #[] }])
  fields := #[{ name := "$assertionsDisabled", type := .boolean, accessFlags := 4120, slot := 0, constantValue := 0 }]
  methods := #[k12m0, k12m1]
  instanceTypes := #[]
  staticTypes := #[.boolean]
  resolved := Array.replicate 395 none
  statics := none }

def pool13 : Array CpInfo := pool [(2, .class_ 4), (1, u "java/lang/Object"), (0, u "<init>"), (0, u "()V"), (17, .class_ 26), (1, u "jdk/internal/util/Preconditions"), (28, .class_ 56), (0, u "jdk/internal/util/Preconditions$4"), (57, .class_ 115), (0, u "jdk/internal/util/Preconditions$1"), (7, u "SIOOBE_FORMATTER"), (0, u "Ljava/util/function/BiFunction;"), (0, .class_ 126), (0, u "jdk/internal/util/Preconditions$2"), (3, u "AIOOBE_FORMATTER"), (0, .class_ 132), (0, u "jdk/internal/util/Preconditions$3"), (3, u "IOOBE_FORMATTER")] 57

def k13m0 : Method := { name := "<init>", desc := "()V", sig := { parameters := [], returnType := none }, accessFlags := 1, code := none }
/-- jdk/internal/util/Preconditions -/
def k13 : Class := { plain "jdk/internal/util/Preconditions" (some 0) with
  accessFlags := 33
  interfaces := #[]
  cf := some (fileOf pool13 24 #[.nestMembers #[55, 131, 125, 114]] #[{ accessFlags := 1, nameIndex := 5, descriptorIndex := 6, attributes := #[] }] 33 2 #[] #[{ accessFlags := 25, nameIndex := 123, descriptorIndex := 124, attributes := #[] }, { accessFlags := 25, nameIndex := 130, descriptorIndex := 124, attributes := #[] }, { accessFlags := 25, nameIndex := 136, descriptorIndex := 124, attributes := #[] }])
  fields := #[{ name := "SIOOBE_FORMATTER", type := (.object "java/util/function/BiFunction"), accessFlags := 25, slot := 0, constantValue := 0 }, { name := "AIOOBE_FORMATTER", type := (.object "java/util/function/BiFunction"), accessFlags := 25, slot := 1, constantValue := 0 }, { name := "IOOBE_FORMATTER", type := (.object "java/util/function/BiFunction"), accessFlags := 25, slot := 2, constantValue := 0 }]
  methods := #[k13m0]
  instanceTypes := #[]
  staticTypes := #[(.object "java/util/function/BiFunction"), (.object "java/util/function/BiFunction"), (.object "java/util/function/BiFunction")]
  resolved := Array.replicate 194 none
  statics := some 2 }

def pool14 : Array CpInfo := pool [(9, u "<init>"), (6, .class_ 18), (1, u "java/lang/Object"), (0, u "()V"), (1, .class_ 23), (1, u "jdk/internal/util/ArraysSupport"), (0, u "LOG2_ARRAY_LONG_INDEX_SCALE"), (0, u "I"), (2, u "U"), (0, u "Ljdk/internal/misc/Unsafe;"), (8, u "BIG_ENDIAN"), (0, u "Z"), (8, u "LOG2_BYTE_BIT_SIZE"), (4, u "LOG2_ARRAY_INT_INDEX_SCALE"), (54, u "JLA"), (0, u "Ljdk/internal/access/JavaLangAccess;"), (11, u "LOG2_ARRAY_BOOLEAN_INDEX_SCALE"), (9, u "LOG2_ARRAY_BYTE_INDEX_SCALE"), (5, u "LOG2_ARRAY_CHAR_INDEX_SCALE"), (5, u "LOG2_ARRAY_SHORT_INDEX_SCALE"), (18, u "LOG2_ARRAY_FLOAT_INDEX_SCALE"), (24, u "LOG2_ARRAY_DOUBLE_INDEX_SCALE"), (89, u "T_BOOLEAN"), (2, u "T_CHAR"), (1, u "T_FLOAT"), (1, u "T_DOUBLE"), (1, u "T_BYTE"), (1, u "T_SHORT"), (1, u "T_INT"), (1, u "T_LONG"), (1, u "SOFT_MAX_ARRAY_LENGTH")] 83

def k14m0 : Method := { name := "<init>", desc := "()V", sig := { parameters := [], returnType := none }, accessFlags := 2, code := none }
/-- jdk/internal/util/ArraysSupport -/
def k14 : Class := { plain "jdk/internal/util/ArraysSupport" (some 0) with
  accessFlags := 33
  interfaces := #[]
  cf := some (fileOf pool14 21 #[] #[{ accessFlags := 2, nameIndex := 9, descriptorIndex := 19, attributes := #[] }] 33 16 #[] #[{ accessFlags := 24, nameIndex := 28, descriptorIndex := 29, attributes := #[] }, { accessFlags := 26, nameIndex := 38, descriptorIndex := 39, attributes := #[] }, { accessFlags := 25, nameIndex := 121, descriptorIndex := 25, attributes := #[] }, { accessFlags := 25, nameIndex := 131, descriptorIndex := 25, attributes := #[] }, { accessFlags := 25, nameIndex := 137, descriptorIndex := 25, attributes := #[] }, { accessFlags := 25, nameIndex := 143, descriptorIndex := 25, attributes := #[] }, { accessFlags := 25, nameIndex := 53, descriptorIndex := 25, attributes := #[] }, { accessFlags := 25, nameIndex := 24, descriptorIndex := 25, attributes := #[] }, { accessFlags := 25, nameIndex := 162, descriptorIndex := 25, attributes := #[] }, { accessFlags := 25, nameIndex := 187, descriptorIndex := 25, attributes := #[] }, { accessFlags := 26, nameIndex := 48, descriptorIndex := 25, attributes := #[] }, { accessFlags := 25, nameIndex := 277, descriptorIndex := 25, attributes := #[] }, { accessFlags := 25, nameIndex := 280, descriptorIndex := 25, attributes := #[] }, { accessFlags := 25, nameIndex := 282, descriptorIndex := 25, attributes := #[] }, { accessFlags := 25, nameIndex := 284, descriptorIndex := 25, attributes := #[] }, { accessFlags := 25, nameIndex := 286, descriptorIndex := 25, attributes := #[] }, { accessFlags := 25, nameIndex := 288, descriptorIndex := 25, attributes := #[] }, { accessFlags := 25, nameIndex := 290, descriptorIndex := 25, attributes := #[] }, { accessFlags := 25, nameIndex := 292, descriptorIndex := 25, attributes := #[] }, { accessFlags := 26, nameIndex := 108, descriptorIndex := 109, attributes := #[] }, { accessFlags := 25, nameIndex := 294, descriptorIndex := 25, attributes := #[] }])
  fields := #[{ name := "U", type := (.object "jdk/internal/misc/Unsafe"), accessFlags := 24, slot := 0, constantValue := 0 }, { name := "BIG_ENDIAN", type := .boolean, accessFlags := 26, slot := 1, constantValue := 0 }, { name := "LOG2_ARRAY_BOOLEAN_INDEX_SCALE", type := .int, accessFlags := 25, slot := 2, constantValue := 0 }, { name := "LOG2_ARRAY_BYTE_INDEX_SCALE", type := .int, accessFlags := 25, slot := 3, constantValue := 0 }, { name := "LOG2_ARRAY_CHAR_INDEX_SCALE", type := .int, accessFlags := 25, slot := 4, constantValue := 0 }, { name := "LOG2_ARRAY_SHORT_INDEX_SCALE", type := .int, accessFlags := 25, slot := 5, constantValue := 0 }, { name := "LOG2_ARRAY_INT_INDEX_SCALE", type := .int, accessFlags := 25, slot := 6, constantValue := 0 }, { name := "LOG2_ARRAY_LONG_INDEX_SCALE", type := .int, accessFlags := 25, slot := 7, constantValue := 0 }, { name := "LOG2_ARRAY_FLOAT_INDEX_SCALE", type := .int, accessFlags := 25, slot := 8, constantValue := 0 }, { name := "LOG2_ARRAY_DOUBLE_INDEX_SCALE", type := .int, accessFlags := 25, slot := 9, constantValue := 0 }, { name := "LOG2_BYTE_BIT_SIZE", type := .int, accessFlags := 26, slot := 10, constantValue := 0 }, { name := "T_BOOLEAN", type := .int, accessFlags := 25, slot := 11, constantValue := 0 }, { name := "T_CHAR", type := .int, accessFlags := 25, slot := 12, constantValue := 0 }, { name := "T_FLOAT", type := .int, accessFlags := 25, slot := 13, constantValue := 0 }, { name := "T_DOUBLE", type := .int, accessFlags := 25, slot := 14, constantValue := 0 }, { name := "T_BYTE", type := .int, accessFlags := 25, slot := 15, constantValue := 0 }, { name := "T_SHORT", type := .int, accessFlags := 25, slot := 16, constantValue := 0 }, { name := "T_INT", type := .int, accessFlags := 25, slot := 17, constantValue := 0 }, { name := "T_LONG", type := .int, accessFlags := 25, slot := 18, constantValue := 0 }, { name := "JLA", type := (.object "jdk/internal/access/JavaLangAccess"), accessFlags := 26, slot := 19, constantValue := 0 }, { name := "SOFT_MAX_ARRAY_LENGTH", type := .int, accessFlags := 25, slot := 20, constantValue := 0 }]
  methods := #[k14m0]
  instanceTypes := #[]
  staticTypes := #[(.object "jdk/internal/misc/Unsafe"), .boolean, .int, .int, .int, .int, .int, .int, .int, .int, .int, .int, .int, .int, .int, .int, .int, .int, .int, (.object "jdk/internal/access/JavaLangAccess"), .int]
  resolved := Array.replicate 378 none
  statics := none }

/-- the primitive byte -/
def k15 : Class := { plain "byte" none with kind := .primitive 'B', accessFlags := 0x411 }
/-- [B -/
def k16 : Class := { plain "[B" (some 0) with kind := .array 15 .byte, interfaces := #[11, 2], accessFlags := 1041 }

/-- the primitive char -/
def k17 : Class := { plain "char" none with kind := .primitive 'C', accessFlags := 0x411 }
/-- [C -/
def k18 : Class := { plain "[C" (some 0) with kind := .array 17 .char, interfaces := #[11, 2], accessFlags := 1041 }

/-- the primitive int -/
def k19 : Class := { plain "int" none with kind := .primitive 'I', accessFlags := 0x411 }
/-- [I -/
def k20 : Class := { plain "[I" (some 0) with kind := .array 19 .int, interfaces := #[11, 2], accessFlags := 1041 }

/-- [Lbindery/server/stomp/StompConnection$AckMode; -/
def k21 : Class := { plain "[Lbindery/server/stomp/StompConnection$AckMode;" (some 0) with kind := .array 10 (.object "bindery/server/stomp/StompConnection$AckMode"), interfaces := #[11, 2], accessFlags := 1041 }

def heap : Heap := #[{ cls := 7, slots := #[.long 0, .int 1, .null, .int 0, .null, .int 0, .int 0], vm := .statics 7 },
  { cls := 10, slots := #[.ref 10, .ref 11, .ref 12, .ref 3], vm := .statics 10 },
  { cls := 13, slots := #[.null, .null, .null], vm := .statics 13 },
  { cls := 21, slots := #[.ref 10, .ref 11, .ref 12], vm := .none },
  { cls := 16, slots := #[.int 97, .int 117, .int 116, .int 111], vm := .none },
  { cls := 16, slots := #[.int 99, .int 108, .int 105, .int 101, .int 110, .int 116], vm := .none },
  { cls := 16, slots := #[.int 99, .int 108, .int 105, .int 101, .int 110, .int 116, .int 45, .int 105, .int 110, .int 100, .int 105, .int 118, .int 105, .int 100, .int 117, .int 97, .int 108], vm := .none },
  { cls := 7, slots := #[.ref 4, .int 0, .int 0, .int 0], vm := .none },
  { cls := 7, slots := #[.ref 5, .int 0, .int 0, .int 0], vm := .none },
  { cls := 7, slots := #[.ref 6, .int 0, .int 0, .int 0], vm := .none },
  { cls := 10, slots := #[.null, .int 0, .int 0, .ref 7], vm := .none },
  { cls := 10, slots := #[.null, .int 1, .int 0, .ref 8], vm := .none },
  { cls := 10, slots := #[.null, .int 2, .int 0, .ref 9], vm := .none }]
def classes : Array Class := #[k0, k1, k2, k3, k4, k5, k6, k7, k8, k9, k10, k11, k12, k13, k14, k15, k16, k17, k18, k19, k20, k21]
def interned : List (Array UInt16 × Addr) := []
def slotsUsed : Nat := 68
def theMethod : MethodId := ⟨1, 1⟩
def args0 : Array Value := #[.int 4, .int 7, .int 8, .int 1, .int 9]
def aboutOver (below : List Frame) : State where
  vm := { classes := classes, interned := interned.toArray }
  heap := heap
  slotsUsed := slotsUsed
  threads := #[{ frames := .invoking theMethod args0 :: below }]
def below0 : List Frame := [.native { method := ⟨0, 0⟩, args := #[] }]
def about1 : State := aboutOver below0
def p0 : Program := .bare "" "" ""
def e0 : Env := launch0.env 0 0 0
theorem w_frames : about1.frames = Frame.invoking theMethod args0 :: below0 := rfl
set_option maxRecDepth 65536 in
theorem w_args : argsFit about1.vm theMethod args0 = true := by decide +kernel
set_option maxRecDepth 65536 in
theorem w_heap : heapFits about1 = true := by decide +kernel
set_option maxRecDepth 65536 in
theorem w_runnable : about1.curStatus? = some .runnable := by decide +kernel
set_option maxRecDepth 65536 in
theorem w_alone : about1.alone = true := by decide +kernel
set_option maxRecDepth 65536 in
theorem w_named : about1.methodNamed? x = some theMethod := by decide +kernel
set_option maxRecDepth 65536 in
theorem w_hears : about1.hears theMethod below0 = true := by decide +kernel
set_option maxRecDepth 65536 in
theorem w_ripe : about1.ripe theMethod args0 below0 = true := by decide +kernel
theorem w_running : about1.status = .running := rfl
set_option maxRecDepth 65536 in
theorem w_room : about1.hasRoom e0.platform room_1 = true :=
  launch0.hasRoom_least _ room_1 (by decide +kernel) (by decide +kernel) (by decide +kernel) (by decide +kernel) (by decide +kernel) (by decide +kernel)
theorem allAtoms_all (ts : List Jvm.Cond) (a : Array Jvm.Value) (st : Jvm.State) : (allAtoms ts).before a st = ts.all (fun c => c.before a st) := by
  induction ts with
  | nil => rfl
  | cons c t ih =>
    show (Jvm.Cond.and c (allAtoms t)).before a st = _
    rw [Jvm.Cond.before_and, ih, List.all_cons]
def words1 : List Jvm.Cond := Jvm.Cond.code x code maxLocals ret :: tables_1
/-- a 'code' word, met by the world's own term for the bytes: nothing is compared byte by byte -/
theorem code_word {y : MethodName} {bytes : ByteArray} {mx : Nat} {rt : Option FieldType} {a : Array Value} {s : State} {m : MethodId} {meth : Method} {c : Code} (h1 : s.methodNamed? y = some m) (h2 : s.vm.method? m = some meth) (h3 : meth.code = some c) (h4 : c.code = bytes)
    (h5 : (c.maxLocals == mx && c.exceptionTable.isEmpty && decide (c.maxStack ≤ mostOperands) && decide (meth.sig.returnType = rt) && !meth.locks && decide (parseMethodDescriptor y.desc = some meth.sig)) = true) : (Jvm.Cond.code y bytes mx rt).before a s = true := by
  simp only [Bool.and_eq_true, beq_iff_eq, Bool.not_eq_true', decide_eq_true_eq] at h5
  obtain ⟨⟨⟨⟨⟨g1, g2⟩, g3⟩, g4⟩, g5⟩, g6⟩ := h5
  simp [Cond.before, Cond.holds, Cond.value, h1, h2, h3, h4, g1, g2, g3, g4, g5, g6]
def isCode : Jvm.Cond → Bool
  | .code _ _ _ _ => true
  | _ => false
theorem all_split {L : List Jvm.Cond} {P : Jvm.Cond → Bool} (h1 : L.all (fun c => isCode c || P c) = true) (h2 : ∀ c ∈ L.filter isCode, P c = true) : L.all P = true := by
  refine List.all_eq_true.mpr fun c hc => ?_
  have h := List.all_eq_true.mp h1 c hc
  rcases Bool.eq_false_or_eq_true (isCode c) with hi | hi
  · exact h2 c (List.mem_filter.mpr ⟨hc, hi⟩)
  · simpa [hi] using h
set_option maxRecDepth 65536 in
theorem w_c0 : (Jvm.Cond.code x code maxLocals ret).before args0 about1 = true := code_word (m := ⟨1, 1⟩) (meth := k1m1) (c := k1c1) (by decide +kernel) rfl rfl rfl (by decide +kernel)
set_option maxRecDepth 65536 in
theorem w_c1 : (Jvm.Cond.code ({ cls := "bindery/server/stomp/AckModeNamedPinLaw", name := "base", desc := "(IIC)[C" } : Jvm.MethodName) method_5_code (3 : Nat) (Option.some (Jvm.ClassFile.FieldType.array Jvm.ClassFile.FieldType.char))).before args0 about1 = true := code_word (m := ⟨1, 4⟩) (meth := k1m4) (c := k1c4) (by decide +kernel) rfl rfl rfl (by decide +kernel)
set_option maxRecDepth 65536 in
theorem w_c2 : (Jvm.Cond.code ({ cls := "java/lang/String", name := "<init>", desc := "([C)V" } : Jvm.MethodName) jdk_42_method_3_code (2 : Nat) (Option.none : Option Jvm.ClassFile.FieldType)).before args0 about1 = true := code_word (m := ⟨7, 1⟩) (meth := k7m1) (c := k7c1) (by decide +kernel) rfl rfl rfl (by decide +kernel)
set_option maxRecDepth 65536 in
theorem w_c3 : (Jvm.Cond.code ({ cls := "java/lang/String", name := "<init>", desc := "([CIILjava/lang/Void;)V" } : Jvm.MethodName) jdk_42_method_149_code (6 : Nat) (Option.none : Option Jvm.ClassFile.FieldType)).before args0 about1 = true := code_word (m := ⟨7, 3⟩) (meth := k7m3) (c := k7c3) (by decide +kernel) rfl rfl rfl (by decide +kernel)
set_option maxRecDepth 65536 in
theorem w_c4 : (Jvm.Cond.code ({ cls := "java/lang/Object", name := "<init>", desc := "()V" } : Jvm.MethodName) object_method_1_code (1 : Nat) (Option.none : Option Jvm.ClassFile.FieldType)).before args0 about1 = true := code_word (m := ⟨0, 0⟩) (meth := k0m0) (c := k0c0) (by decide +kernel) rfl rfl rfl (by decide +kernel)
set_option maxRecDepth 65536 in
theorem w_c5 : (Jvm.Cond.code ({ cls := "java/lang/StringUTF16", name := "compress", desc := "([CII)[B" } : Jvm.MethodName) jdk_52_method_16_code (6 : Nat) (Option.some (Jvm.ClassFile.FieldType.array Jvm.ClassFile.FieldType.byte))).before args0 about1 = true := code_word (m := ⟨8, 2⟩) (meth := k8m2) (c := k8c2) (by decide +kernel) rfl rfl rfl (by decide +kernel)
set_option maxRecDepth 65536 in
theorem w_c6 : (Jvm.Cond.code ({ cls := "java/lang/StringUTF16", name := "compress", desc := "([CI[BII)I" } : Jvm.MethodName) jdk_52_method_21_code (7 : Nat) (Option.some Jvm.ClassFile.FieldType.int)).before args0 about1 = true := code_word (m := ⟨8, 3⟩) (meth := k8m3) (c := k8c3) (by decide +kernel) rfl rfl rfl (by decide +kernel)
set_option maxRecDepth 65536 in
theorem w_c7 : (Jvm.Cond.code ({ cls := "java/lang/StringUTF16", name := "coderFromArrayLen", desc := "([BI)B" } : Jvm.MethodName) jdk_52_method_15_code (2 : Nat) (Option.some Jvm.ClassFile.FieldType.byte)).before args0 about1 = true := code_word (m := ⟨8, 1⟩) (meth := k8m1) (c := k8c1) (by decide +kernel) rfl rfl rfl (by decide +kernel)
set_option maxRecDepth 65536 in
theorem w_c8 : (Jvm.Cond.code ({ cls := "bindery/server/stomp/StompConnection$AckMode", name := "named", desc := "(Ljava/lang/String;)Lbindery/server/stomp/StompConnection$AckMode;" } : Jvm.MethodName) prog_93_method_4_code (5 : Nat) (Option.some (Jvm.ClassFile.FieldType.object "bindery/server/stomp/StompConnection$AckMode"))).before args0 about1 = true := code_word (m := ⟨10, 1⟩) (meth := k10m1) (c := k10c1) (by decide +kernel) rfl rfl rfl (by decide +kernel)
set_option maxRecDepth 65536 in
theorem w_c9 : (Jvm.Cond.code ({ cls := "bindery/server/stomp/StompConnection$AckMode", name := "values", desc := "()[Lbindery/server/stomp/StompConnection$AckMode;" } : Jvm.MethodName) prog_93_method_1_code (0 : Nat) (Option.some (Jvm.ClassFile.FieldType.array (Jvm.ClassFile.FieldType.object "bindery/server/stomp/StompConnection$AckMode")))).before args0 about1 = true := code_word (m := ⟨10, 0⟩) (meth := k10m0) (c := k10c0) (by decide +kernel) rfl rfl rfl (by decide +kernel)
set_option maxRecDepth 65536 in
theorem w_c10 : (Jvm.Cond.code ({ cls := "java/lang/String", name := "equals", desc := "(Ljava/lang/Object;)Z" } : Jvm.MethodName) jdk_42_method_66_code (3 : Nat) (Option.some Jvm.ClassFile.FieldType.boolean)).before args0 about1 = true := code_word (m := ⟨7, 2⟩) (meth := k7m2) (c := k7c2) (by decide +kernel) rfl rfl rfl (by decide +kernel)
set_option maxRecDepth 65536 in
theorem w_c11 : (Jvm.Cond.code ({ cls := "java/lang/StringLatin1", name := "equals", desc := "([B[B)Z" } : Jvm.MethodName) jdk_43_method_13_code (3 : Nat) (Option.some Jvm.ClassFile.FieldType.boolean)).before args0 about1 = true := code_word (m := ⟨12, 1⟩) (meth := k12m1) (c := k12c1) (by decide +kernel) rfl rfl rfl (by decide +kernel)
set_option maxRecDepth 65536 in
theorem w_c12 : (Jvm.Cond.code ({ cls := "bindery/server/stomp/AckModeNamedPinLaw", name := "expected", desc := "(Ljava/lang/String;)Lbindery/server/stomp/StompConnection$AckMode;" } : Jvm.MethodName) method_3_code (1 : Nat) (Option.some (Jvm.ClassFile.FieldType.object "bindery/server/stomp/StompConnection$AckMode"))).before args0 about1 = true := code_word (m := ⟨1, 2⟩) (meth := k1m2) (c := k1c2) (by decide +kernel) rfl rfl rfl (by decide +kernel)
set_option maxRecDepth 65536 in
theorem w_c13 : (Jvm.Cond.code ({ cls := "bindery/server/stomp/AckModeNamedPinLaw", name := "drawn", desc := "(II)[C" } : Jvm.MethodName) method_4_code (3 : Nat) (Option.some (Jvm.ClassFile.FieldType.array Jvm.ClassFile.FieldType.char))).before args0 about1 = true := code_word (m := ⟨1, 3⟩) (meth := k1m3) (c := k1c3) (by decide +kernel) rfl rfl rfl (by decide +kernel)
def codes1 : List Jvm.Cond := [Jvm.Cond.code x code maxLocals ret, Jvm.Cond.code ({ cls := "bindery/server/stomp/AckModeNamedPinLaw", name := "base", desc := "(IIC)[C" } : Jvm.MethodName) method_5_code (3 : Nat) (Option.some (Jvm.ClassFile.FieldType.array Jvm.ClassFile.FieldType.char)), Jvm.Cond.code ({ cls := "java/lang/String", name := "<init>", desc := "([C)V" } : Jvm.MethodName) jdk_42_method_3_code (2 : Nat) (Option.none : Option Jvm.ClassFile.FieldType), Jvm.Cond.code ({ cls := "java/lang/String", name := "<init>", desc := "([CIILjava/lang/Void;)V" } : Jvm.MethodName) jdk_42_method_149_code (6 : Nat) (Option.none : Option Jvm.ClassFile.FieldType), Jvm.Cond.code ({ cls := "java/lang/Object", name := "<init>", desc := "()V" } : Jvm.MethodName) object_method_1_code (1 : Nat) (Option.none : Option Jvm.ClassFile.FieldType), Jvm.Cond.code ({ cls := "java/lang/StringUTF16", name := "compress", desc := "([CII)[B" } : Jvm.MethodName) jdk_52_method_16_code (6 : Nat) (Option.some (Jvm.ClassFile.FieldType.array Jvm.ClassFile.FieldType.byte)), Jvm.Cond.code ({ cls := "java/lang/StringUTF16", name := "compress", desc := "([CI[BII)I" } : Jvm.MethodName) jdk_52_method_21_code (7 : Nat) (Option.some Jvm.ClassFile.FieldType.int), Jvm.Cond.code ({ cls := "java/lang/StringUTF16", name := "coderFromArrayLen", desc := "([BI)B" } : Jvm.MethodName) jdk_52_method_15_code (2 : Nat) (Option.some Jvm.ClassFile.FieldType.byte), Jvm.Cond.code ({ cls := "bindery/server/stomp/StompConnection$AckMode", name := "named", desc := "(Ljava/lang/String;)Lbindery/server/stomp/StompConnection$AckMode;" } : Jvm.MethodName) prog_93_method_4_code (5 : Nat) (Option.some (Jvm.ClassFile.FieldType.object "bindery/server/stomp/StompConnection$AckMode")), Jvm.Cond.code ({ cls := "bindery/server/stomp/StompConnection$AckMode", name := "values", desc := "()[Lbindery/server/stomp/StompConnection$AckMode;" } : Jvm.MethodName) prog_93_method_1_code (0 : Nat) (Option.some (Jvm.ClassFile.FieldType.array (Jvm.ClassFile.FieldType.object "bindery/server/stomp/StompConnection$AckMode"))), Jvm.Cond.code ({ cls := "java/lang/String", name := "equals", desc := "(Ljava/lang/Object;)Z" } : Jvm.MethodName) jdk_42_method_66_code (3 : Nat) (Option.some Jvm.ClassFile.FieldType.boolean), Jvm.Cond.code ({ cls := "java/lang/StringLatin1", name := "equals", desc := "([B[B)Z" } : Jvm.MethodName) jdk_43_method_13_code (3 : Nat) (Option.some Jvm.ClassFile.FieldType.boolean), Jvm.Cond.code ({ cls := "bindery/server/stomp/AckModeNamedPinLaw", name := "expected", desc := "(Ljava/lang/String;)Lbindery/server/stomp/StompConnection$AckMode;" } : Jvm.MethodName) method_3_code (1 : Nat) (Option.some (Jvm.ClassFile.FieldType.object "bindery/server/stomp/StompConnection$AckMode")), Jvm.Cond.code ({ cls := "bindery/server/stomp/AckModeNamedPinLaw", name := "drawn", desc := "(II)[C" } : Jvm.MethodName) method_4_code (3 : Nat) (Option.some (Jvm.ClassFile.FieldType.array Jvm.ClassFile.FieldType.char))]
set_option maxRecDepth 65536 in
theorem codes_eq : words1.filter isCode = codes1 := rfl
theorem w_codes : ∀ c ∈ words1.filter isCode, c.before args0 about1 = true := by
  rw [codes_eq]
  intro c hc
  simp only [codes1, List.mem_cons, List.not_mem_nil, or_false] at hc
  rcases hc with rfl | rfl | rfl | rfl | rfl | rfl | rfl | rfl | rfl | rfl | rfl | rfl | rfl | rfl
  · exact w_c0
  · exact w_c1
  · exact w_c2
  · exact w_c3
  · exact w_c4
  · exact w_c5
  · exact w_c6
  · exact w_c7
  · exact w_c8
  · exact w_c9
  · exact w_c10
  · exact w_c11
  · exact w_c12
  · exact w_c13
set_option maxRecDepth 65536 in
theorem w_t1 : (words1.take 24).all (fun c => isCode c || c.before args0 about1) = true := by decide +kernel
set_option maxRecDepth 65536 in
theorem w_t2 : ((words1.drop 24).take 24).all (fun c => isCode c || c.before args0 about1) = true := by decide +kernel
set_option maxRecDepth 65536 in
theorem w_t3 : (((words1.drop 24).drop 24).take 24).all (fun c => isCode c || c.before args0 about1) = true := by decide +kernel
set_option maxRecDepth 65536 in
theorem w_t4 : (((words1.drop 24).drop 24).drop 24).all (fun c => isCode c || c.before args0 about1) = true := by decide +kernel
theorem w_tables : (allAtoms (Jvm.Cond.code x code maxLocals ret :: tables_1)).before args0 about1 = true := by
  rw [allAtoms_all]
  show words1.all (fun c => c.before args0 about1) = true
  refine all_split ?_ w_codes
  rw [← List.take_append_drop 24 words1, List.all_append, w_t1, ← List.take_append_drop 24 (words1.drop 24), List.all_append, w_t2, ← List.take_append_drop 24 ((words1.drop 24).drop 24), List.all_append, w_t3, w_t4]
  rfl
set_option maxRecDepth 65536 in
theorem w_rest : rest_1_c.before args0 about1 = true := by decide +kernel
set_option maxRecDepth 65536 in
theorem w_case : (Jvm.Cond.and given_1 narrow_1).before args0 about1 = true := by decide +kernel
set_option maxRecDepth 65536 in
theorem w_consts : constsHeld consts_1 about1 := Jvm.Lit.constsHeldB_iff.mp (by decide +kernel)
theorem w_applies : (headSpec (Jvm.Cond.code x code maxLocals ret :: tables_1) room_1).applies x e0.platform about1 = true :=
  (Spec.applies_iff w_frames).mpr ⟨w_running, w_runnable, w_alone, w_named, w_hears, w_ripe, w_room, w_tables⟩
theorem atStart : AtStart classFile x code maxLocals ret World_1 tables_1 room_1 Calls_1 rest_1 Pre_1 launch0 p0 e0 about1 theMethod args0 below0 :=
  ⟨lists_1, trivial, launch0.admits_env _ _ _, launch0.least_env, fairChoices_fair.cas, fairChoices_fair.clock, w_frames, w_args, w_heap, w_applies, ⟨w_consts, trivial⟩, w_rest, w_case⟩
end start1
theorem witness_1 : WitnessClaimed_1 := ⟨start1.p0, start1.e0, start1.about1, start1.theMethod, start1.args0, start1.below0, start1.atStart⟩
end Jvm.Pilot.@@N@@
