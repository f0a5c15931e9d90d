import JvmDerived
import JvmDerived.Pilot.@@N@@Statement
import JvmDerived.Pilot.@@N@@Code
set_option linter.unusedVariables false
set_option linter.unusedSimpArgs false
namespace Jvm.OwnKit
open Sem ClassFile Op Lib Bundle Jvm.Stand Jvm.Free Jvm.LawKit Jvm.RoadKit
section Kit
variable {p : Program} {l : Launch} {e : Env} {R : Room} {s : State} {m : MethodId} {args : Array Value} {below : List Frame} {meth : Method} {c : Code} {Z : State} {a0 : Array Value} {EL : List (String × Nat)} {cw : Prop} {own : String} {n0 : Nat} {bytes : ByteArray} {maxL : Nat} {ret : Option FieldType} {nm : String} {T : State} {h : Heap} {C S : Nat} {sf : List Addr} {P : State → Outcome → Prop}

/-- from t the run comes to a state of which P speaks -/
def Go (p : Program) (e : Env) (below : List Frame) (P : State → Outcome → Prop) (t : State) : Prop := ∃ u o, Steps p.tables e below t u ∧ P u o
theorem Go.st {t t' : State} (k : ∀ target, Steps p.tables e below t' target → Steps p.tables e below t target) (G : Go p e below P t') : Go p e below P t := by
  obtain ⟨u, o, h1, h2⟩ := G; exact ⟨u, o, k _ h1, h2⟩
theorem Go.tr {t t' : State} (k : Steps p.tables e below t t') (G : Go p e below P t') : Go p e below P t := by
  obtain ⟨u, o, h1, h2⟩ := G; exact ⟨u, o, k.trans h1, h2⟩

/-- where the walk stands: all that the steps ask, in one word -/
def Hs (p : Program) (l : Launch) (e : Env) (R : Room) (s : State) (m : MethodId) (args : Array Value) (below : List Frame) (meth : Method) (c : Code) (Z : State) (a0 : Array Value) (EL : List (String × Nat)) (cw : Prop) (own : String) (n0 : Nat) (bytes : ByteArray) (maxL : Nat) (ret : Option FieldType) (nm : String) (T : State) (h : Heap) (C S : Nat) (sf : List Addr) : Prop :=
  (p.tables.exec = Jvm.exec ∧ EW Z a0 EL ∧ c.code = bytes ∧ c.maxLocals = maxL ∧ meth.sig.returnType = ret ∧ meth.locks = false ∧ meth.name = nm ∧ n0 ≤ s.heap.size) ∧
  ∃ (vm0 : Vm) (k0 : Nat) (locs : List Loc), Stand p l e R (s.setVm vm0) m args below meth c T locs C S ∧ T.heap = h ∧ s.Since vm0 k0 ∧ k0 ≤ h.size ∧ Z.Warmed39 vm0 ∧ vm0.findClass own = some m.cls ∧ Fr n0 locs ∧ CHr Z EL s.vm s.heap vm0 h ∧ (∀ x ∈ sf, x < h.size ∧ Safe Z EL vm0 h x) ∧ (cw ∨ s.WarmedH vm0) ∧ Old Z n0 h

theorem Hs.here (H : Hs p l e R s m args below meth c Z a0 EL cw own n0 bytes maxL ret nm T h C S sf) : At T m c below := by
  obtain ⟨-, vm0, k0, locs, X, -⟩ := H; exact X.here
theorem Hs.exec (H : Hs p l e R s m args below meth c Z a0 EL cw own n0 bytes maxL ret nm T h C S sf) : p.tables.exec = Jvm.exec := H.1.1
theorem Hs.dec (H : Hs p l e R s m args below meth c Z a0 EL cw own n0 bytes maxL ret nm T h C S sf) {pc : Nat} {r : Except ClassFile.DecodeError (ClassFile.Instr × Nat)} (hd : decode bytes pc = r) : decode c.code pc = r := by rw [H.1.2.2.1]; exact hd
theorem Hs.le (H : Hs p l e R s m args below meth c Z a0 EL cw own n0 bytes maxL ret nm T h C S sf) : n0 ≤ h.size := by
  obtain ⟨⟨-, -, -, -, -, -, -, hn⟩, vm0, k0, locs, -, -, -, -, -, -, -, hC, -⟩ := H
  exact Nat.le_trans hn hC.2.1
theorem Hs.old (H : Hs p l e R s m args below meth c Z a0 EL cw own n0 bytes maxL ret nm T h C S sf) : Old Z n0 h := by
  obtain ⟨-, vm0, k0, locs, -, -, -, -, -, -, -, -, -, -, hO⟩ := H; exact hO
theorem Hs.mono (H : Hs p l e R s m args below meth c Z a0 EL cw own n0 bytes maxL ret nm T h C S sf) {C' S' : Nat} (hc : C ≤ C') (hs : S ≤ S') : Hs p l e R s m args below meth c Z a0 EL cw own n0 bytes maxL ret nm T h C' S' sf := by
  obtain ⟨hM, vm0, k0, locs, X, r⟩ := H
  exact ⟨hM, vm0, k0, locs, X.mono hc hs, r⟩
theorem Hs.less (H : Hs p l e R s m args below meth c Z a0 EL cw own n0 bytes maxL ret nm T h C S sf) {sf' : List Addr} (hs : ∀ x ∈ sf', x ∈ sf) : Hs p l e R s m args below meth c Z a0 EL cw own n0 bytes maxL ret nm T h C S sf' := by
  obtain ⟨hM, vm0, k0, locs, X, h1, h2, h3, h4, h5, h6, h7, h8, h9, hO⟩ := H
  exact ⟨hM, vm0, k0, locs, X, h1, h2, h3, h4, h5, h6, h7, fun x hx => h8 x (hs x hx), h9, hO⟩
/-- a place that no constant of the list lies at -/
def Sf (Z : State) (EL : List (String × Nat)) (h : Heap) (sf : List Addr) (a : Addr) : Prop := a ∈ sf ∨ (∃ K, Exa Z h a K ∧ K ≠ "java/lang/String" ∧ K ≠ "[B") ∨ ∃ cl ty, Arr Z h a cl ty ∧ ty ≠ .byte
theorem Sf.mem {a : Addr} (q : a ∈ sf) : Sf Z EL h sf a := Or.inl q
theorem Sf.exa {a : Addr} {K : String} (E : Exa Z h a K) (h1 : K ≠ "java/lang/String" := by decide) (h2 : K ≠ "[B" := by decide) : Sf Z EL h sf a := Or.inr (Or.inl ⟨K, E, h1, h2⟩)
theorem Sf.arr {a : Addr} {k : ClassId} {ty : FieldType} {z : Int32} {vs : List Value} {dv : Value} (A : Arv Z h a k ty z vs dv) (ht : ty ≠ .byte := by decide) : Sf Z EL h sf a := by
  obtain ⟨cl, A, -⟩ := A; exact Or.inr (Or.inr ⟨cl, ty, A, ht⟩)
theorem Sf.safe {a : Addr} {vm0 : Vm} (hZ : Z.Warmed39 vm0) (hs : ∀ x ∈ sf, x < h.size ∧ Safe Z EL vm0 h x) (q : Sf Z EL h sf a) : Safe Z EL vm0 h a := by
  rcases q with q | ⟨K, E, h1, h2⟩ | ⟨cl, ty, A, ht⟩
  · exact (hs a q).2
  · exact Safe.exa hZ.alike E h1 h2
  · exact Safe.arr hZ.alike A ht

/-! ## what leaves the heap as it is -/
/-- a step of the library's that keeps the heap (T' in place of T) -/
theorem Hs.keepT {T' : State} (H : Hs p l e R s m args below meth c Z a0 EL cw own n0 bytes maxL ret nm T h C S sf)
    (k : ∀ (vm0 : Vm) (locs : List Loc), Stand p l e R (s.setVm vm0) m args below meth c T locs C S → Z.Warmed39 (s.setVm vm0).vm → (s.setVm vm0).vm.findClass own = some m.cls → T.heap = h → Stand p l e R (s.setVm vm0) m args below meth c T' locs C S ∧ T'.heap = h) : Hs p l e R s m args below meth c Z a0 EL cw own n0 bytes maxL ret nm T' h C S sf := by
  obtain ⟨hM, vm0, k0, locs, X, h1, h2, h3, h4, h5, h6, h7, h8, h9, hO⟩ := H
  obtain ⟨X', e'⟩ := k vm0 locs X h4 h5 h1
  exact ⟨hM, vm0, k0, locs, X', e', h2, h3, h4, h5, h6, h7, h8, h9, hO⟩
theorem G.getF (H : Hs p l e R s m args below meth c Z a0 EL cw own n0 bytes maxL ret nm T h C S sf) {R0 O n d : String} {index : Nat} (w : (Cond.fieldLink own index R0 n d).before a0 Z = true) (via : Via Z R0 O n d) {a : Addr} {v : Value} (F : Fld Z h a O n d v) {pc pc' : Nat} {L : Array Slot} {st : List Value} (hd : decode bytes pc = .ok (.getfield index, 3)) (hp : pc + 3 = pc')
    (k : ∀ T', Hs p l e R s m args below meth c Z a0 EL cw own n0 bytes maxL ret nm T' h C S sf → Go p e below P (T'.setTop (mkF m pc' L (v :: st)))) : Go p e below P (T.setTop (mkF m pc L (.ref a :: st))) := by
  subst hp
  obtain ⟨hM, vm0, k0, locs, X, h1, h2, h3, h4, h5, h6, h7, h8, h9, hO⟩ := id H
  obtain ⟨T', X', e', st'⟩ := RoadKit.getF X H.exec h4 (host := "") h5 (Or.inl w) via h1 F (g := mkF m pc L (.ref a :: st)) rfl rfl (H.dec hd)
  exact Go.st st' (k T' ⟨hM, vm0, k0, locs, X', e', h2, h3, h4, h5, h6, h7, h8, h9, hO⟩)
theorem G.getFN (H : Hs p l e R s m args below meth c Z a0 EL cw own n0 bytes maxL ret nm T h C S sf) {R0 O n d host : String} {index : Nat} (w : (Cond.fieldLinkNest own index R0 n d host).before a0 Z = true) (via : Via Z R0 O n d) {a : Addr} {v : Value} (F : Fld Z h a O n d v) {pc pc' : Nat} {L : Array Slot} {st : List Value} (hd : decode bytes pc = .ok (.getfield index, 3)) (hp : pc + 3 = pc')
    (k : ∀ T', Hs p l e R s m args below meth c Z a0 EL cw own n0 bytes maxL ret nm T' h C S sf → Go p e below P (T'.setTop (mkF m pc' L (v :: st)))) : Go p e below P (T.setTop (mkF m pc L (.ref a :: st))) := by
  subst hp
  obtain ⟨hM, vm0, k0, locs, X, h1, h2, h3, h4, h5, h6, h7, h8, h9, hO⟩ := id H
  obtain ⟨T', X', e', st'⟩ := RoadKit.getF X H.exec h4 h5 (Or.inr w) via h1 F (g := mkF m pc L (.ref a :: st)) rfl rfl (H.dec hd)
  exact Go.st st' (k T' ⟨hM, vm0, k0, locs, X', e', h2, h3, h4, h5, h6, h7, h8, h9, hO⟩)
theorem G.getS (H : Hs p l e R s m args below meth c Z a0 EL cw own n0 bytes maxL ret nm T h C S sf) {R0 O n d : String} {index : Nat} (w : (Cond.fieldLink own index R0 n d).before a0 Z = true) (via : Via Z R0 O n d) {v : Value} (F : Sta Z h O n d v) {pc pc' : Nat} {L : Array Slot} {st : List Value} (hd : decode bytes pc = .ok (.getstatic index, 3)) (hp : pc + 3 = pc')
    (k : ∀ T', Hs p l e R s m args below meth c Z a0 EL cw own n0 bytes maxL ret nm T' h C S sf → Go p e below P (T'.setTop (mkF m pc' L (v :: st)))) : Go p e below P (T.setTop (mkF m pc L st)) := by
  subst hp
  obtain ⟨hM, vm0, k0, locs, X, h1, h2, h3, h4, h5, h6, h7, h8, h9, hO⟩ := id H
  obtain ⟨T', X', e', st'⟩ := RoadKit.getS (host := "") X H.exec h4 h5 w via h1 F (g := mkF m pc L st) rfl (H.dec hd)
  exact Go.st st' (k T' ⟨hM, vm0, k0, locs, X', e', h2, h3, h4, h5, h6, h7, h8, h9, hO⟩)
theorem G.castY (H : Hs p l e R s m args below meth c Z a0 EL cw own n0 bytes maxL ret nm T h C S sf) {K : String} {index : Nat} (w : (Cond.classLink own index K).before a0 Z = true) {a : Addr} (F : Ins Z h a K true) {pc pc' : Nat} {L : Array Slot} {st : List Value} (hd : decode bytes pc = .ok (.checkcast index, 3)) (hp : pc + 3 = pc')
    (k : ∀ T', Hs p l e R s m args below meth c Z a0 EL cw own n0 bytes maxL ret nm T' h C S sf → Go p e below P (T'.setTop (mkF m pc' L (.ref a :: st)))) : Go p e below P (T.setTop (mkF m pc L (.ref a :: st))) := by
  subst hp
  obtain ⟨hM, vm0, k0, locs, X, h1, h2, h3, h4, h5, h6, h7, h8, h9, hO⟩ := id H
  obtain ⟨T', X', e', st'⟩ := RoadKit.castY X H.exec h4 h5 w h1 F (g := mkF m pc L (.ref a :: st)) rfl rfl (H.dec hd)
  exact Go.st st' (k T' ⟨hM, vm0, k0, locs, X', e', h2, h3, h4, h5, h6, h7, h8, h9, hO⟩)
theorem G.instY (H : Hs p l e R s m args below meth c Z a0 EL cw own n0 bytes maxL ret nm T h C S sf) {K : String} {index : Nat} (w : (Cond.classLink own index K).before a0 Z = true) {a : Addr} (F : Ins Z h a K true) {pc pc' : Nat} {L : Array Slot} {st : List Value} (hd : decode bytes pc = .ok (.instanceof index, 3)) (hp : pc + 3 = pc')
    (k : ∀ T', Hs p l e R s m args below meth c Z a0 EL cw own n0 bytes maxL ret nm T' h C S sf → Go p e below P (T'.setTop (mkF m pc' L (.int 1 :: st)))) : Go p e below P (T.setTop (mkF m pc L (.ref a :: st))) := by
  subst hp
  obtain ⟨hM, vm0, k0, locs, X, h1, h2, h3, h4, h5, h6, h7, h8, h9, hO⟩ := id H
  obtain ⟨T', X', e', st'⟩ := RoadKit.instY X H.exec h4 h5 w h1 F (g := mkF m pc L (.ref a :: st)) rfl rfl (H.dec hd)
  exact Go.st st' (k T' ⟨hM, vm0, k0, locs, X', e', h2, h3, h4, h5, h6, h7, h8, h9, hO⟩)
theorem G.instNo (H : Hs p l e R s m args below meth c Z a0 EL cw own n0 bytes maxL ret nm T h C S sf) {K D : String} {index : Nat} (w : (Cond.classLink own index K).before a0 Z = true) {a : Addr} (E : Exa Z h a D) (F : ∃ c t, Z.vm.findClass D = some c ∧ Z.vm.findClass K = some t ∧ Z.vm.assignable c t = false) {pc pc' : Nat} {L : Array Slot} {st : List Value} (hd : decode bytes pc = .ok (.instanceof index, 3)) (hp : pc + 3 = pc')
    (k : ∀ T', Hs p l e R s m args below meth c Z a0 EL cw own n0 bytes maxL ret nm T' h C S sf → Go p e below P (T'.setTop (mkF m pc' L (.int 0 :: st)))) : Go p e below P (T.setTop (mkF m pc L (.ref a :: st))) := by
  subst hp
  obtain ⟨hM, vm0, k0, locs, X, h1, h2, h3, h4, h5, h6, h7, h8, h9, hO⟩ := id H
  obtain ⟨T', X', e', st'⟩ := RoadKit.instNo X H.exec h4 h5 w h1 E F (g := mkF m pc L (.ref a :: st)) rfl rfl (H.dec hd)
  exact Go.st st' (k T' ⟨hM, vm0, k0, locs, X', e', h2, h3, h4, h5, h6, h7, h8, h9, hO⟩)
theorem G.initO (H : Hs p l e R s m args below meth c Z a0 EL cw own n0 bytes maxL ret nm T h C S sf) {index : Nat} (w1 : (Cond.methodLink own index Lib.objectInit).before a0 Z = true) (w2 : (Cond.instanceMethod Lib.objectInit).before a0 Z = true) (w3 : (Cond.code Lib.objectInit ⟨#[0xb1]⟩ 1 none).before a0 Z = true) {a : Addr} {pc pc' : Nat} {L : Array Slot} {st : List Value} (hL : L.size = maxL) (hd : decode bytes pc = .ok (.invokespecial index, 3)) (hp : pc + 3 = pc') (hf : 1 ≤ R.frames) {W : Nat} (hW : (st.map fun v => v.category).sum = W) (hl : W + 12 ≤ R.locals)
    (k : ∀ T', Hs p l e R s m args below meth c Z a0 EL cw own n0 bytes maxL ret nm T' h C S sf → Go p e below P (T'.setTop (mkF m pc' L st))) : Go p e below P (T.setTop (mkF m pc L (.ref a :: st))) := by
  subst hp
  obtain ⟨hM, vm0, k0, locs, X, h1, h2, h3, h4, h5, h6, h7, h8, h9, hO⟩ := id H
  obtain ⟨T', X', e', st'⟩ := RoadKit.initO X H.exec h4 h5 w1 w2 w3 h1 (g := mkF m pc L (.ref a :: st)) rfl (by rw [hM.2.2.2.1]; exact hL) rfl (H.dec hd) hf (W := W) (by show 2 * 0 + _ ≤ _; omega) hl
  exact Go.st st' (k T' ⟨hM, vm0, k0, locs, X', e', h2, h3, h4, h5, h6, h7, h8, h9, hO⟩)
theorem G.arrlen (H : Hs p l e R s m args below meth c Z a0 EL cw own n0 bytes maxL ret nm T h C S sf) {a : Addr} {kc : ClassId} {ty : FieldType} {z : Int32} {vs : List Value} {dv : Value} (A : Arv Z h a kc ty z vs dv) {pc pc' : Nat} {L : Array Slot} {st : List Value} (hd : decode bytes pc = .ok (.arraylength, 1)) (hp : pc + 1 = pc') (k : Go p e below P (T.setTop (mkF m pc' L (.int z :: st)))) : Go p e below P (T.setTop (mkF m pc L (.ref a :: st))) := by
  subst hp
  obtain ⟨hM, vm0, k0, locs, X, h1, h2, h3, h4, h5, h6, h7, h8, h9, hO⟩ := id H
  obtain ⟨cl, Ar, q1, S1, q3, H1, G1⟩ := A
  refine Go.st (fun t kk => X.arraylength H.exec (cell := cl) (by rw [h1]; exact Ar.1) (State.isArrayOf_alike (s := Z) h4.alike Ar.2.1) (g := mkF m pc L (.ref a :: st)) rfl rfl (H.dec hd) t ?_) k
  rw [len_of S1 q3]; exact kk
theorem G.ialoadG (H : Hs p l e R s m args below meth c Z a0 EL cw own n0 bytes maxL ret nm T h C S sf) {a : Addr} {kc : ClassId} {z : Int32} {vs : List Value} {dv : Value} (A : Arv Z h a kc .int z vs dv) {j : Int32} {v : Value} (hj : ¬ j < 0 ∧ j < z) (hv : vs.getD j.toNatClampNeg dv = v) {pc pc' : Nat} {L : Array Slot} {st : List Value} (hd : decode bytes pc = .ok (.iaload, 1)) (hp : pc + 1 = pc') (k : Go p e below P (T.setTop (mkF m pc' L (v :: st)))) : Go p e below P (T.setTop (mkF m pc L (.int j :: .ref a :: st))) := by
  subst hp
  obtain ⟨hM, vm0, k0, locs, X, h1, h2, h3, h4, h5, h6, h7, h8, h9, hO⟩ := id H
  obtain ⟨cl, Ar, q1, S1, q3, H1, G1⟩ := A
  exact Go.st (fun t kk => X.iaload H.exec (cell := cl) (by rw [h1]; exact Ar.1) (State.isArrayOf_alike (s := Z) h4.alike Ar.2.1) Ar.2.2 (inb_of S1 hj) (Has.at H1 (inb_of S1 hj) hv) (g := mkF m pc L (.int j :: .ref a :: st)) rfl rfl (H.dec hd) t kk) k
theorem G.caloadG (H : Hs p l e R s m args below meth c Z a0 EL cw own n0 bytes maxL ret nm T h C S sf) {a : Addr} {kc : ClassId} {z : Int32} {vs : List Value} {dv : Value} (A : Arv Z h a kc .char z vs dv) {j : Int32} {v : Value} (hj : ¬ j < 0 ∧ j < z) (hv : vs.getD j.toNatClampNeg dv = v) {pc pc' : Nat} {L : Array Slot} {st : List Value} (hd : decode bytes pc = .ok (.caload, 1)) (hp : pc + 1 = pc') (k : Go p e below P (T.setTop (mkF m pc' L (v :: st)))) : Go p e below P (T.setTop (mkF m pc L (.int j :: .ref a :: st))) := by
  subst hp
  obtain ⟨hM, vm0, k0, locs, X, h1, h2, h3, h4, h5, h6, h7, h8, h9, hO⟩ := id H
  obtain ⟨cl, Ar, q1, S1, q3, H1, G1⟩ := A
  exact Go.st (fun t kk => X.caload H.exec (cell := cl) (by rw [h1]; exact Ar.1) (State.isArrayOf_alike (s := Z) h4.alike Ar.2.1) Ar.2.2 (inb_of S1 hj) (Has.at H1 (inb_of S1 hj) hv) (g := mkF m pc L (.int j :: .ref a :: st)) rfl rfl (H.dec hd) t kk) k
theorem G.baloadG (H : Hs p l e R s m args below meth c Z a0 EL cw own n0 bytes maxL ret nm T h C S sf) {a : Addr} {kc : ClassId} {z : Int32} {vs : List Value} {dv : Value} (A : Arv Z h a kc .byte z vs dv) {j : Int32} {v : Value} (hj : ¬ j < 0 ∧ j < z) (hv : vs.getD j.toNatClampNeg dv = v) {pc pc' : Nat} {L : Array Slot} {st : List Value} (hd : decode bytes pc = .ok (.baload, 1)) (hp : pc + 1 = pc') (k : Go p e below P (T.setTop (mkF m pc' L (v :: st)))) : Go p e below P (T.setTop (mkF m pc L (.int j :: .ref a :: st))) := by
  subst hp
  obtain ⟨hM, vm0, k0, locs, X, h1, h2, h3, h4, h5, h6, h7, h8, h9, hO⟩ := id H
  obtain ⟨cl, Ar, q1, S1, q3, H1, G1⟩ := A
  exact Go.st (fun t kk => X.baloadBytes H.exec (cell := cl) (by rw [h1]; exact Ar.1) (State.isArrayOf_alike (s := Z) h4.alike Ar.2.1) Ar.2.2 (inb_of S1 hj) (Has.at H1 (inb_of S1 hj) hv) (g := mkF m pc L (.int j :: .ref a :: st)) rfl rfl (H.dec hd) t kk) k
theorem G.aaloadG (H : Hs p l e R s m args below meth c Z a0 EL cw own n0 bytes maxL ret nm T h C S sf) {a : Addr} {kc : ClassId} {ty : FieldType} {z : Int32} {vs : List Value} {dv : Value} (A : Arv Z h a kc ty z vs dv) (hty : ty.isReference = true) {j : Int32} {v : Value} (hj : ¬ j < 0 ∧ j < z) (hv : vs.getD j.toNatClampNeg dv = v) {pc pc' : Nat} {L : Array Slot} {st : List Value} (hd : decode bytes pc = .ok (.aaload, 1)) (hp : pc + 1 = pc') (k : Go p e below P (T.setTop (mkF m pc' L (v :: st)))) : Go p e below P (T.setTop (mkF m pc L (.int j :: .ref a :: st))) := by
  subst hp
  obtain ⟨hM, vm0, k0, locs, X, h1, h2, h3, h4, h5, h6, h7, h8, h9, hO⟩ := id H
  obtain ⟨cl, Ar, q1, S1, q3, H1, G1⟩ := A
  exact Go.st (fun t kk => X.aaload H.exec (cell := cl) (by rw [h1]; exact Ar.1) (State.isArrayOf_alike (s := Z) h4.alike Ar.2.1) hty Ar.2.2 (inb_of S1 hj) (Has.at H1 (inb_of S1 hj) hv) (g := mkF m pc L (.int j :: .ref a :: st)) rfl rfl (H.dec hd) t kk) k
theorem G.ldcI (H : Hs p l e R s m args below meth c Z a0 EL cw own n0 bytes maxL ret nm T h C S sf) {index : Nat} {v : Int32} (w : (Cond.constant own index v).before a0 Z = true) {pc pc' : Nat} {L : Array Slot} {st : List Value} (hd : decode bytes pc = .ok (.ldc index, 2)) (hp : pc + 2 = pc') (k : Go p e below P (T.setTop (mkF m pc' L (.int v :: st)))) : Go p e below P (T.setTop (mkF m pc L st)) := by
  subst hp
  obtain ⟨hM, vm0, k0, locs, X, h1, h2, h3, h4, h5, h6, h7, h8, h9, hO⟩ := id H
  exact Go.st (fun t kk => Jvm.Stand.ldcI X H.exec h5 (mv h4 w) (g := mkF m pc L st) rfl (H.dec hd) kk) k
theorem G.ldc2J (H : Hs p l e R s m args below meth c Z a0 EL cw own n0 bytes maxL ret nm T h C S sf) {index : Nat} {v : Int64} (w : (Cond.constantLong own index v).before a0 Z = true) {pc pc' : Nat} {L : Array Slot} {st : List Value} (hd : decode bytes pc = .ok (.ldc2_w index, 3)) (hp : pc + 3 = pc') (k : Go p e below P (T.setTop (mkF m pc' L (.long v :: st)))) : Go p e below P (T.setTop (mkF m pc L st)) := by
  subst hp
  obtain ⟨hM, vm0, k0, locs, X, h1, h2, h3, h4, h5, h6, h7, h8, h9, hO⟩ := id H
  exact Go.st (fun t kk => Jvm.Stand.ldc2J X H.exec h5 (mv h4 w) (g := mkF m pc L st) rfl (H.dec hd) kk) k
/-! ## the plain steps -/
theorem G.aloadN (H : Hs p l e R s m args below meth c Z a0 EL cw own n0 bytes maxL ret nm T h C S sf) {i : Fin 4} {v : Value} {pc pc' : Nat} {L : Array Slot} {st : List Value} (hd : decode bytes pc = .ok (.aload_n i, 1)) (hp : pc + 1 = pc') (hl : L[i.val]? = some (.val v)) (hv : v.isRef = true) (k : Go p e below P (T.setTop (mkF m pc' L (v :: st)))) : Go p e below P (T.setTop (mkF m pc L (st))) := by
  subst hp
  exact Go.st (fun t kk => XS.aloadN H.here H.exec (g := mkF m pc L (st)) rfl (H.dec hd) hl hv kk) k
theorem G.aload (H : Hs p l e R s m args below meth c Z a0 EL cw own n0 bytes maxL ret nm T h C S sf) {i : Nat} {v : Value} {pc pc' : Nat} {L : Array Slot} {st : List Value} (hd : decode bytes pc = .ok (.aload i, 2)) (hp : pc + 2 = pc') (hl : L[i]? = some (.val v)) (hv : v.isRef = true) (k : Go p e below P (T.setTop (mkF m pc' L (v :: st)))) : Go p e below P (T.setTop (mkF m pc L (st))) := by
  subst hp
  exact Go.st (fun t kk => XS.aload H.here H.exec (g := mkF m pc L (st)) rfl (H.dec hd) hl hv kk) k
theorem G.iloadN (H : Hs p l e R s m args below meth c Z a0 EL cw own n0 bytes maxL ret nm T h C S sf) {i : Fin 4} {v : Int32} {pc pc' : Nat} {L : Array Slot} {st : List Value} (hd : decode bytes pc = .ok (.iload_n i, 1)) (hp : pc + 1 = pc') (hl : L[i.val]? = some (.val (.int v))) (k : Go p e below P (T.setTop (mkF m pc' L (.int v :: st)))) : Go p e below P (T.setTop (mkF m pc L (st))) := by
  subst hp
  exact Go.st (fun t kk => XS.iloadN H.here H.exec (g := mkF m pc L (st)) rfl (H.dec hd) hl kk) k
theorem G.iload (H : Hs p l e R s m args below meth c Z a0 EL cw own n0 bytes maxL ret nm T h C S sf) {i : Nat} {v : Int32} {pc pc' : Nat} {L : Array Slot} {st : List Value} (hd : decode bytes pc = .ok (.iload i, 2)) (hp : pc + 2 = pc') (hl : L[i]? = some (.val (.int v))) (k : Go p e below P (T.setTop (mkF m pc' L (.int v :: st)))) : Go p e below P (T.setTop (mkF m pc L (st))) := by
  subst hp
  exact Go.st (fun t kk => XS.iload H.here H.exec (g := mkF m pc L (st)) rfl (H.dec hd) hl kk) k
theorem G.lloadN (H : Hs p l e R s m args below meth c Z a0 EL cw own n0 bytes maxL ret nm T h C S sf) {i : Fin 4} {v : Int64} {pc pc' : Nat} {L : Array Slot} {st : List Value} (hd : decode bytes pc = .ok (.lload_n i, 1)) (hp : pc + 1 = pc') (hl : L[i.val]? = some (.val (.long v))) (k : Go p e below P (T.setTop (mkF m pc' L (.long v :: st)))) : Go p e below P (T.setTop (mkF m pc L (st))) := by
  subst hp
  exact Go.st (fun t kk => XT.lloadN H.here H.exec (g := mkF m pc L (st)) rfl (H.dec hd) hl kk) k
theorem G.lload (H : Hs p l e R s m args below meth c Z a0 EL cw own n0 bytes maxL ret nm T h C S sf) {i : Nat} {v : Int64} {pc pc' : Nat} {L : Array Slot} {st : List Value} (hd : decode bytes pc = .ok (.lload i, 2)) (hp : pc + 2 = pc') (hl : L[i]? = some (.val (.long v))) (k : Go p e below P (T.setTop (mkF m pc' L (.long v :: st)))) : Go p e below P (T.setTop (mkF m pc L (st))) := by
  subst hp
  exact Go.st (fun t kk => XT.lload H.here H.exec (g := mkF m pc L (st)) rfl (H.dec hd) hl kk) k
theorem G.iconst (H : Hs p l e R s m args below meth c Z a0 EL cw own n0 bytes maxL ret nm T h C S sf) {i : Int} {v : Int32} {pc pc' : Nat} {L : Array Slot} {st : List Value} (hd : decode bytes pc = .ok (.iconst i, 1)) (hp : pc + 1 = pc') (hv : Int32.ofInt i = v) (k : Go p e below P (T.setTop (mkF m pc' L (.int v :: st)))) : Go p e below P (T.setTop (mkF m pc L (st))) := by
  subst hp; subst hv
  exact Go.st (fun t kk => XS.iconst H.here H.exec (g := mkF m pc L (st)) rfl (H.dec hd) kk) k
theorem G.bipush (H : Hs p l e R s m args below meth c Z a0 EL cw own n0 bytes maxL ret nm T h C S sf) {i : Int} {v : Int32} {pc pc' : Nat} {L : Array Slot} {st : List Value} (hd : decode bytes pc = .ok (.bipush i, 2)) (hp : pc + 2 = pc') (hv : (Int8.ofInt i).toInt32 = v) (k : Go p e below P (T.setTop (mkF m pc' L (.int v :: st)))) : Go p e below P (T.setTop (mkF m pc L (st))) := by
  subst hp; subst hv
  exact Go.st (fun t kk => XS.bipush H.here H.exec (g := mkF m pc L (st)) rfl (H.dec hd) kk) k
theorem G.sipush (H : Hs p l e R s m args below meth c Z a0 EL cw own n0 bytes maxL ret nm T h C S sf) {i : Int} {v : Int32} {pc pc' : Nat} {L : Array Slot} {st : List Value} (hd : decode bytes pc = .ok (.sipush i, 3)) (hp : pc + 3 = pc') (hv : (Int16.ofInt i).toInt32 = v) (k : Go p e below P (T.setTop (mkF m pc' L (.int v :: st)))) : Go p e below P (T.setTop (mkF m pc L (st))) := by
  subst hp; subst hv
  exact Go.st (fun t kk => XS.sipush H.here H.exec (g := mkF m pc L (st)) rfl (H.dec hd) kk) k
theorem G.aconstNull (H : Hs p l e R s m args below meth c Z a0 EL cw own n0 bytes maxL ret nm T h C S sf) {pc pc' : Nat} {L : Array Slot} {st : List Value} (hd : decode bytes pc = .ok (.aconst_null, 1)) (hp : pc + 1 = pc') (k : Go p e below P (T.setTop (mkF m pc' L (.null :: st)))) : Go p e below P (T.setTop (mkF m pc L (st))) := by
  subst hp
  exact Go.st (fun t kk => XS.aconstNull H.here H.exec (g := mkF m pc L (st)) rfl (H.dec hd) kk) k
theorem G.lconst (H : Hs p l e R s m args below meth c Z a0 EL cw own n0 bytes maxL ret nm T h C S sf) {i : Fin 2} {v : Int64} {pc pc' : Nat} {L : Array Slot} {st : List Value} (hd : decode bytes pc = .ok (.lconst i, 1)) (hp : pc + 1 = pc') (hv : Int64.ofNat i = v) (k : Go p e below P (T.setTop (mkF m pc' L (.long v :: st)))) : Go p e below P (T.setTop (mkF m pc L (st))) := by
  subst hp; subst hv
  exact Go.st (fun t kk => XT.lconst H.here H.exec (g := mkF m pc L (st)) rfl (H.dec hd) kk) k
theorem G.iadd (H : Hs p l e R s m args below meth c Z a0 EL cw own n0 bytes maxL ret nm T h C S sf) {x y : Int32} {pc pc' : Nat} {L : Array Slot} {st : List Value} (hd : decode bytes pc = .ok (.iadd, 1)) (hp : pc + 1 = pc') (k : Go p e below P (T.setTop (mkF m pc' L (.int (x + y) :: st)))) : Go p e below P (T.setTop (mkF m pc L (.int y :: .int x :: st))) := by
  subst hp
  exact Go.st (fun t kk => XS.iadd H.here H.exec (g := mkF m pc L (.int y :: .int x :: st)) rfl (H.dec hd) rfl kk) k
theorem G.isub (H : Hs p l e R s m args below meth c Z a0 EL cw own n0 bytes maxL ret nm T h C S sf) {x y : Int32} {pc pc' : Nat} {L : Array Slot} {st : List Value} (hd : decode bytes pc = .ok (.isub, 1)) (hp : pc + 1 = pc') (k : Go p e below P (T.setTop (mkF m pc' L (.int (x - y) :: st)))) : Go p e below P (T.setTop (mkF m pc L (.int y :: .int x :: st))) := by
  subst hp
  exact Go.st (fun t kk => XS.isub H.here H.exec (g := mkF m pc L (.int y :: .int x :: st)) rfl (H.dec hd) rfl kk) k
theorem G.iand (H : Hs p l e R s m args below meth c Z a0 EL cw own n0 bytes maxL ret nm T h C S sf) {x y : Int32} {pc pc' : Nat} {L : Array Slot} {st : List Value} (hd : decode bytes pc = .ok (.iand, 1)) (hp : pc + 1 = pc') (k : Go p e below P (T.setTop (mkF m pc' L (.int (x &&& y) :: st)))) : Go p e below P (T.setTop (mkF m pc L (.int y :: .int x :: st))) := by
  subst hp
  exact Go.st (fun t kk => XS.iand H.here H.exec (g := mkF m pc L (.int y :: .int x :: st)) rfl (H.dec hd) rfl kk) k
theorem G.imul (H : Hs p l e R s m args below meth c Z a0 EL cw own n0 bytes maxL ret nm T h C S sf) {x y : Int32} {pc pc' : Nat} {L : Array Slot} {st : List Value} (hd : decode bytes pc = .ok (.imul, 1)) (hp : pc + 1 = pc') (k : Go p e below P (T.setTop (mkF m pc' L (.int (x * y) :: st)))) : Go p e below P (T.setTop (mkF m pc L (.int y :: .int x :: st))) := by
  subst hp
  exact Go.st (fun t kk => XS.imul H.here H.exec (g := mkF m pc L (.int y :: .int x :: st)) rfl (H.dec hd) rfl kk) k
theorem G.ior (H : Hs p l e R s m args below meth c Z a0 EL cw own n0 bytes maxL ret nm T h C S sf) {x y : Int32} {pc pc' : Nat} {L : Array Slot} {st : List Value} (hd : decode bytes pc = .ok (.ior, 1)) (hp : pc + 1 = pc') (k : Go p e below P (T.setTop (mkF m pc' L (.int (x ||| y) :: st)))) : Go p e below P (T.setTop (mkF m pc L (.int y :: .int x :: st))) := by
  subst hp
  exact Go.st (fun t kk => XT.ior H.here H.exec (g := mkF m pc L (.int y :: .int x :: st)) rfl (H.dec hd) rfl kk) k
theorem G.ixor (H : Hs p l e R s m args below meth c Z a0 EL cw own n0 bytes maxL ret nm T h C S sf) {x y : Int32} {pc pc' : Nat} {L : Array Slot} {st : List Value} (hd : decode bytes pc = .ok (.ixor, 1)) (hp : pc + 1 = pc') (k : Go p e below P (T.setTop (mkF m pc' L (.int (x ^^^ y) :: st)))) : Go p e below P (T.setTop (mkF m pc L (.int y :: .int x :: st))) := by
  subst hp
  exact Go.st (fun t kk => XT.ixor H.here H.exec (g := mkF m pc L (.int y :: .int x :: st)) rfl (H.dec hd) rfl kk) k
theorem G.ishl (H : Hs p l e R s m args below meth c Z a0 EL cw own n0 bytes maxL ret nm T h C S sf) {x y : Int32} {pc pc' : Nat} {L : Array Slot} {st : List Value} (hd : decode bytes pc = .ok (.ishl, 1)) (hp : pc + 1 = pc') (k : Go p e below P (T.setTop (mkF m pc' L (.int (x <<< (y &&& 31)) :: st)))) : Go p e below P (T.setTop (mkF m pc L (.int y :: .int x :: st))) := by
  subst hp
  exact Go.st (fun t kk => XT.ishl H.here H.exec (g := mkF m pc L (.int y :: .int x :: st)) rfl (H.dec hd) rfl kk) k
theorem G.ishr (H : Hs p l e R s m args below meth c Z a0 EL cw own n0 bytes maxL ret nm T h C S sf) {x y : Int32} {pc pc' : Nat} {L : Array Slot} {st : List Value} (hd : decode bytes pc = .ok (.ishr, 1)) (hp : pc + 1 = pc') (k : Go p e below P (T.setTop (mkF m pc' L (.int (x >>> (y &&& 31)) :: st)))) : Go p e below P (T.setTop (mkF m pc L (.int y :: .int x :: st))) := by
  subst hp
  exact Go.st (fun t kk => XT.ishr H.here H.exec (g := mkF m pc L (.int y :: .int x :: st)) rfl (H.dec hd) rfl kk) k
theorem G.iushr (H : Hs p l e R s m args below meth c Z a0 EL cw own n0 bytes maxL ret nm T h C S sf) {x y : Int32} {pc pc' : Nat} {L : Array Slot} {st : List Value} (hd : decode bytes pc = .ok (.iushr, 1)) (hp : pc + 1 = pc') (k : Go p e below P (T.setTop (mkF m pc' L (.int (XT.ushr x y) :: st)))) : Go p e below P (T.setTop (mkF m pc L (.int y :: .int x :: st))) := by
  subst hp
  exact Go.st (fun t kk => XT.iushr H.here H.exec (g := mkF m pc L (.int y :: .int x :: st)) rfl (H.dec hd) rfl kk) k
theorem G.idiv (H : Hs p l e R s m args below meth c Z a0 EL cw own n0 bytes maxL ret nm T h C S sf) {x y : Int32} {pc pc' : Nat} {L : Array Slot} {st : List Value} (hd : decode bytes pc = .ok (.idiv, 1)) (hp : pc + 1 = pc') (hy : y ≠ 0) (k : Go p e below P (T.setTop (mkF m pc' L (.int (x / y) :: st)))) : Go p e below P (T.setTop (mkF m pc L (.int y :: .int x :: st))) := by
  subst hp
  exact Go.st (fun t kk => XS.idiv H.here H.exec (g := mkF m pc L (.int y :: .int x :: st)) rfl (H.dec hd) rfl hy kk) k
theorem G.ineg (H : Hs p l e R s m args below meth c Z a0 EL cw own n0 bytes maxL ret nm T h C S sf) {x : Int32} {pc pc' : Nat} {L : Array Slot} {st : List Value} (hd : decode bytes pc = .ok (.ineg, 1)) (hp : pc + 1 = pc') (k : Go p e below P (T.setTop (mkF m pc' L (.int (-x) :: st)))) : Go p e below P (T.setTop (mkF m pc L (.int x :: st))) := by
  subst hp
  exact Go.st (fun t kk => XS.ineg H.here H.exec (g := mkF m pc L (.int x :: st)) rfl (H.dec hd) rfl kk) k
theorem G.irem (H : Hs p l e R s m args below meth c Z a0 EL cw own n0 bytes maxL ret nm T h C S sf) {x y : Int32} {pc pc' : Nat} {L : Array Slot} {st : List Value} (hd : decode bytes pc = .ok (.irem, 1)) (hp : pc + 1 = pc') (hy : y ≠ 0) (k : Go p e below P (T.setTop (mkF m pc' L (.int (x % y) :: st)))) : Go p e below P (T.setTop (mkF m pc L (.int y :: .int x :: st))) := by
  subst hp
  obtain ⟨-, vm0, k0, locs, X, -⟩ := id H
  exact Go.st (fun t kk => iremM X H.exec (g := mkF m pc L (.int y :: .int x :: st)) rfl (H.dec hd) rfl hy kk) k
theorem G.ladd (H : Hs p l e R s m args below meth c Z a0 EL cw own n0 bytes maxL ret nm T h C S sf) {x y : Int64} {pc pc' : Nat} {L : Array Slot} {st : List Value} (hd : decode bytes pc = .ok (.ladd, 1)) (hp : pc + 1 = pc') (k : Go p e below P (T.setTop (mkF m pc' L (.long (x + y) :: st)))) : Go p e below P (T.setTop (mkF m pc L (.long y :: .long x :: st))) := by
  subst hp
  exact Go.st (fun t kk => XT.ladd H.here H.exec (g := mkF m pc L (.long y :: .long x :: st)) rfl (H.dec hd) rfl kk) k
theorem G.lsub (H : Hs p l e R s m args below meth c Z a0 EL cw own n0 bytes maxL ret nm T h C S sf) {x y : Int64} {pc pc' : Nat} {L : Array Slot} {st : List Value} (hd : decode bytes pc = .ok (.lsub, 1)) (hp : pc + 1 = pc') (k : Go p e below P (T.setTop (mkF m pc' L (.long (x - y) :: st)))) : Go p e below P (T.setTop (mkF m pc L (.long y :: .long x :: st))) := by
  subst hp
  exact Go.st (fun t kk => XT.lsub H.here H.exec (g := mkF m pc L (.long y :: .long x :: st)) rfl (H.dec hd) rfl kk) k
theorem G.land (H : Hs p l e R s m args below meth c Z a0 EL cw own n0 bytes maxL ret nm T h C S sf) {x y : Int64} {pc pc' : Nat} {L : Array Slot} {st : List Value} (hd : decode bytes pc = .ok (.land, 1)) (hp : pc + 1 = pc') (k : Go p e below P (T.setTop (mkF m pc' L (.long (x &&& y) :: st)))) : Go p e below P (T.setTop (mkF m pc L (.long y :: .long x :: st))) := by
  subst hp
  exact Go.st (fun t kk => XT.land H.here H.exec (g := mkF m pc L (.long y :: .long x :: st)) rfl (H.dec hd) rfl kk) k
theorem G.lor (H : Hs p l e R s m args below meth c Z a0 EL cw own n0 bytes maxL ret nm T h C S sf) {x y : Int64} {pc pc' : Nat} {L : Array Slot} {st : List Value} (hd : decode bytes pc = .ok (.lor, 1)) (hp : pc + 1 = pc') (k : Go p e below P (T.setTop (mkF m pc' L (.long (x ||| y) :: st)))) : Go p e below P (T.setTop (mkF m pc L (.long y :: .long x :: st))) := by
  subst hp
  exact Go.st (fun t kk => XT.lor H.here H.exec (g := mkF m pc L (.long y :: .long x :: st)) rfl (H.dec hd) rfl kk) k
theorem G.lxor (H : Hs p l e R s m args below meth c Z a0 EL cw own n0 bytes maxL ret nm T h C S sf) {x y : Int64} {pc pc' : Nat} {L : Array Slot} {st : List Value} (hd : decode bytes pc = .ok (.lxor, 1)) (hp : pc + 1 = pc') (k : Go p e below P (T.setTop (mkF m pc' L (.long (x ^^^ y) :: st)))) : Go p e below P (T.setTop (mkF m pc L (.long y :: .long x :: st))) := by
  subst hp
  exact Go.st (fun t kk => XT.lxor H.here H.exec (g := mkF m pc L (.long y :: .long x :: st)) rfl (H.dec hd) rfl kk) k
theorem G.lmul (H : Hs p l e R s m args below meth c Z a0 EL cw own n0 bytes maxL ret nm T h C S sf) {x y : Int64} {pc pc' : Nat} {L : Array Slot} {st : List Value} (hd : decode bytes pc = .ok (.lmul, 1)) (hp : pc + 1 = pc') (k : Go p e below P (T.setTop (mkF m pc' L (.long (x * y) :: st)))) : Go p e below P (T.setTop (mkF m pc L (.long y :: .long x :: st))) := by
  subst hp
  exact Go.st (fun t kk => XT.lmul H.here H.exec (g := mkF m pc L (.long y :: .long x :: st)) rfl (H.dec hd) rfl kk) k
theorem G.lushr (H : Hs p l e R s m args below meth c Z a0 EL cw own n0 bytes maxL ret nm T h C S sf) {x : Int64} {y : Int32} {pc pc' : Nat} {L : Array Slot} {st : List Value} (hd : decode bytes pc = .ok (.lushr, 1)) (hp : pc + 1 = pc') (k : Go p e below P (T.setTop (mkF m pc' L (.long (XT.ushrL x y) :: st)))) : Go p e below P (T.setTop (mkF m pc L (.int y :: .long x :: st))) := by
  subst hp
  exact Go.st (fun t kk => XT.lushr H.here H.exec (g := mkF m pc L (.int y :: .long x :: st)) rfl (H.dec hd) rfl kk) k
theorem G.i2l (H : Hs p l e R s m args below meth c Z a0 EL cw own n0 bytes maxL ret nm T h C S sf) {x : Int32} {pc pc' : Nat} {L : Array Slot} {st : List Value} (hd : decode bytes pc = .ok (.i2l, 1)) (hp : pc + 1 = pc') (k : Go p e below P (T.setTop (mkF m pc' L (.long (x.toInt64) :: st)))) : Go p e below P (T.setTop (mkF m pc L (.int x :: st))) := by
  subst hp
  exact Go.st (fun t kk => XT.i2l H.here H.exec (g := mkF m pc L (.int x :: st)) rfl (H.dec hd) rfl kk) k
theorem G.l2i (H : Hs p l e R s m args below meth c Z a0 EL cw own n0 bytes maxL ret nm T h C S sf) {x : Int64} {pc pc' : Nat} {L : Array Slot} {st : List Value} (hd : decode bytes pc = .ok (.l2i, 1)) (hp : pc + 1 = pc') (k : Go p e below P (T.setTop (mkF m pc' L (.int (x.toInt32) :: st)))) : Go p e below P (T.setTop (mkF m pc L (.long x :: st))) := by
  subst hp
  exact Go.st (fun t kk => XT.l2i H.here H.exec (g := mkF m pc L (.long x :: st)) rfl (H.dec hd) rfl kk) k
theorem G.i2b (H : Hs p l e R s m args below meth c Z a0 EL cw own n0 bytes maxL ret nm T h C S sf) {x : Int32} {pc pc' : Nat} {L : Array Slot} {st : List Value} (hd : decode bytes pc = .ok (.i2b, 1)) (hp : pc + 1 = pc') (k : Go p e below P (T.setTop (mkF m pc' L (.int (x.toInt8.toInt32) :: st)))) : Go p e below P (T.setTop (mkF m pc L (.int x :: st))) := by
  subst hp
  exact Go.st (fun t kk => XT.i2b H.here H.exec (g := mkF m pc L (.int x :: st)) rfl (H.dec hd) rfl kk) k
theorem G.i2s (H : Hs p l e R s m args below meth c Z a0 EL cw own n0 bytes maxL ret nm T h C S sf) {x : Int32} {pc pc' : Nat} {L : Array Slot} {st : List Value} (hd : decode bytes pc = .ok (.i2s, 1)) (hp : pc + 1 = pc') (k : Go p e below P (T.setTop (mkF m pc' L (.int (x.toInt16.toInt32) :: st)))) : Go p e below P (T.setTop (mkF m pc L (.int x :: st))) := by
  subst hp
  exact Go.st (fun t kk => XT.i2s H.here H.exec (g := mkF m pc L (.int x :: st)) rfl (H.dec hd) rfl kk) k
theorem G.i2c (H : Hs p l e R s m args below meth c Z a0 EL cw own n0 bytes maxL ret nm T h C S sf) {x y : Int32} {pc pc' : Nat} {L : Array Slot} {st : List Value} (hd : decode bytes pc = .ok (.i2c, 1)) (hp : pc + 1 = pc') (hy : x.toUInt32.toUInt16.toUInt32.toInt32 = y) (k : Go p e below P (T.setTop (mkF m pc' L (.int y :: st)))) : Go p e below P (T.setTop (mkF m pc L (.int x :: st))) := by
  subst hp; subst hy
  exact Go.st (fun t kk => XT.i2c H.here H.exec (g := mkF m pc L (.int x :: st)) rfl (H.dec hd) rfl kk) k
theorem G.lcmp (H : Hs p l e R s m args below meth c Z a0 EL cw own n0 bytes maxL ret nm T h C S sf) {x y : Int64} {pc pc' : Nat} {L : Array Slot} {st : List Value} (hd : decode bytes pc = .ok (.lcmp, 1)) (hp : pc + 1 = pc') (k : Go p e below P (T.setTop (mkF m pc' L (.int (XT.cmpL x y) :: st)))) : Go p e below P (T.setTop (mkF m pc L (.long y :: .long x :: st))) := by
  subst hp
  exact Go.st (fun t kk => XT.lcmp H.here H.exec (g := mkF m pc L (.long y :: .long x :: st)) rfl (H.dec hd) rfl kk) k
theorem G.pop (H : Hs p l e R s m args below meth c Z a0 EL cw own n0 bytes maxL ret nm T h C S sf) {x : Value} {pc pc' : Nat} {L : Array Slot} {st : List Value} (hd : decode bytes pc = .ok (.pop, 1)) (hp : pc + 1 = pc') (hc : x.category = 1) (k : Go p e below P (T.setTop (mkF m pc' L (st)))) : Go p e below P (T.setTop (mkF m pc L (x :: st))) := by
  subst hp
  exact Go.st (fun t kk => XT.pop H.here H.exec (g := mkF m pc L (x :: st)) rfl (H.dec hd) rfl hc kk) k
theorem G.dup (H : Hs p l e R s m args below meth c Z a0 EL cw own n0 bytes maxL ret nm T h C S sf) {x : Value} {pc pc' : Nat} {L : Array Slot} {st : List Value} (hd : decode bytes pc = .ok (.dup, 1)) (hp : pc + 1 = pc') (hc : x.category = 1) (k : Go p e below P (T.setTop (mkF m pc' L (x :: x :: st)))) : Go p e below P (T.setTop (mkF m pc L (x :: st))) := by
  subst hp
  exact Go.st (fun t kk => XS.dup H.here H.exec (g := mkF m pc L (x :: st)) rfl (H.dec hd) rfl hc kk) k
theorem G.dupX1 (H : Hs p l e R s m args below meth c Z a0 EL cw own n0 bytes maxL ret nm T h C S sf) {x y : Value} {pc pc' : Nat} {L : Array Slot} {st : List Value} (hd : decode bytes pc = .ok (.dup_x1, 1)) (hp : pc + 1 = pc') (hc : x.category = 1) (hc' : y.category = 1) (k : Go p e below P (T.setTop (mkF m pc' L (x :: y :: x :: st)))) : Go p e below P (T.setTop (mkF m pc L (x :: y :: st))) := by
  subst hp
  exact Go.st (fun t kk => XT.dupX1 H.here H.exec (g := mkF m pc L (x :: y :: st)) rfl (H.dec hd) rfl hc hc' kk) k
theorem G.dup2 (H : Hs p l e R s m args below meth c Z a0 EL cw own n0 bytes maxL ret nm T h C S sf) {x y : Value} {pc pc' : Nat} {L : Array Slot} {st : List Value} (hd : decode bytes pc = .ok (.dup2, 1)) (hp : pc + 1 = pc') (hc : x.category = 1) (hc' : y.category = 1) (k : Go p e below P (T.setTop (mkF m pc' L (x :: y :: x :: y :: st)))) : Go p e below P (T.setTop (mkF m pc L (x :: y :: st))) := by
  subst hp
  exact Go.st (fun t kk => XT.dup2 H.here H.exec (g := mkF m pc L (x :: y :: st)) rfl (H.dec hd) rfl hc hc' kk) k
theorem G.istoreN (H : Hs p l e R s m args below meth c Z a0 EL cw own n0 bytes maxL ret nm T h C S sf) {i : Fin 4} {x : Int32} {L' : Array Slot} {pc pc' : Nat} {L : Array Slot} {st : List Value} (hd : decode bytes pc = .ok (.istore_n i, 1)) (hp : pc + 1 = pc') (hl : storeLocals L i.val (.int x) = some L') (k : Go p e below P (T.setTop (mkF m pc' L' (st)))) : Go p e below P (T.setTop (mkF m pc L (.int x :: st))) := by
  subst hp
  exact Go.st (fun t kk => XS.istoreN H.here H.exec (g := mkF m pc L (.int x :: st)) rfl (H.dec hd) rfl hl kk) k
theorem G.istore (H : Hs p l e R s m args below meth c Z a0 EL cw own n0 bytes maxL ret nm T h C S sf) {i : Nat} {x : Int32} {L' : Array Slot} {pc pc' : Nat} {L : Array Slot} {st : List Value} (hd : decode bytes pc = .ok (.istore i, 2)) (hp : pc + 2 = pc') (hl : storeLocals L i (.int x) = some L') (k : Go p e below P (T.setTop (mkF m pc' L' (st)))) : Go p e below P (T.setTop (mkF m pc L (.int x :: st))) := by
  subst hp
  exact Go.st (fun t kk => XS.istore H.here H.exec (g := mkF m pc L (.int x :: st)) rfl (H.dec hd) rfl hl kk) k
theorem G.astoreN (H : Hs p l e R s m args below meth c Z a0 EL cw own n0 bytes maxL ret nm T h C S sf) {i : Fin 4} {x : Value} {L' : Array Slot} {pc pc' : Nat} {L : Array Slot} {st : List Value} (hd : decode bytes pc = .ok (.astore_n i, 1)) (hp : pc + 1 = pc') (hv : x.isRef = true) (hl : storeLocals L i.val x = some L') (k : Go p e below P (T.setTop (mkF m pc' L' (st)))) : Go p e below P (T.setTop (mkF m pc L (x :: st))) := by
  subst hp
  exact Go.st (fun t kk => XS.astoreN H.here H.exec (g := mkF m pc L (x :: st)) rfl (H.dec hd) rfl hv hl kk) k
theorem G.astore (H : Hs p l e R s m args below meth c Z a0 EL cw own n0 bytes maxL ret nm T h C S sf) {i : Nat} {x : Value} {L' : Array Slot} {pc pc' : Nat} {L : Array Slot} {st : List Value} (hd : decode bytes pc = .ok (.astore i, 2)) (hp : pc + 2 = pc') (hv : x.isRef = true) (hl : storeLocals L i x = some L') (k : Go p e below P (T.setTop (mkF m pc' L' (st)))) : Go p e below P (T.setTop (mkF m pc L (x :: st))) := by
  subst hp
  exact Go.st (fun t kk => XS.astore H.here H.exec (g := mkF m pc L (x :: st)) rfl (H.dec hd) rfl hv hl kk) k
theorem G.iinc (H : Hs p l e R s m args below meth c Z a0 EL cw own n0 bytes maxL ret nm T h C S sf) {i : Nat} {cst : Int} {x v : Int32} {L' : Array Slot} {pc pc' : Nat} {L : Array Slot} {st : List Value} (hd : decode bytes pc = .ok (.iinc i cst, 3)) (hp : pc + 3 = pc') (hl : L[i]? = some (.val (.int x))) (hv : x + Int32.ofInt cst = v) (hl' : storeLocals L i (.int v) = some L') (k : Go p e below P (T.setTop (mkF m pc' L' (st)))) : Go p e below P (T.setTop (mkF m pc L (st))) := by
  subst hp; subst hv
  exact Go.st (fun t kk => XS.iinc H.here H.exec (g := mkF m pc L (st)) rfl (H.dec hd) hl hl' kk) k
theorem G.goto (H : Hs p l e R s m args below meth c Z a0 EL cw own n0 bytes maxL ret nm T h C S sf) {o : Int} {pc pc' : Nat} {L : Array Slot} {st : List Value} (hd : decode bytes pc = .ok (.goto o, 3)) (ho : 0 ≤ (pc : Int) + o) (hp : ((pc : Int) + o).toNat = pc') (k : Go p e below P (T.setTop (mkF m pc' L (st)))) : Go p e below P (T.setTop (mkF m pc L (st))) :=
  Go.st (fun t kk => XS.goto H.here H.exec (g := mkF m pc L (st)) rfl (pc0 := pc) rfl (H.dec hd) ho hp kk) k
theorem G.ifYes (H : Hs p l e R s m args below meth c Z a0 EL cw own n0 bytes maxL ret nm T h C S sf) {cd : ClassFile.Cond} {x : Int32} {o : Int} {pc pc' : Nat} {L : Array Slot} {st : List Value} (hd : decode bytes pc = .ok (.ifCond cd o, 3)) (hc : ifCond.holds cd x = true) (ho : 0 ≤ (pc : Int) + o) (hp : ((pc : Int) + o).toNat = pc') (k : Go p e below P (T.setTop (mkF m pc' L (st)))) : Go p e below P (T.setTop (mkF m pc L (.int x :: st))) :=
  Go.st (fun t kk => XS.ifYes H.here H.exec (g := mkF m pc L (.int x :: st)) rfl (pc0 := pc) rfl (H.dec hd) rfl hc ho hp kk) k
theorem G.icmpYes (H : Hs p l e R s m args below meth c Z a0 EL cw own n0 bytes maxL ret nm T h C S sf) {cd : ClassFile.Cond} {x y : Int32} {o : Int} {pc pc' : Nat} {L : Array Slot} {st : List Value} (hd : decode bytes pc = .ok (.if_icmp cd o, 3)) (hc : if_icmp.holds cd x y = true) (ho : 0 ≤ (pc : Int) + o) (hp : ((pc : Int) + o).toNat = pc') (k : Go p e below P (T.setTop (mkF m pc' L (st)))) : Go p e below P (T.setTop (mkF m pc L (.int y :: .int x :: st))) :=
  Go.st (fun t kk => XS.icmpYes H.here H.exec (g := mkF m pc L (.int y :: .int x :: st)) rfl (pc0 := pc) rfl (H.dec hd) rfl hc ho hp kk) k
theorem G.ifnullYes (H : Hs p l e R s m args below meth c Z a0 EL cw own n0 bytes maxL ret nm T h C S sf) {o : Int} {pc pc' : Nat} {L : Array Slot} {st : List Value} (hd : decode bytes pc = .ok (.ifnull o, 3)) (ho : 0 ≤ (pc : Int) + o) (hp : ((pc : Int) + o).toNat = pc') (k : Go p e below P (T.setTop (mkF m pc' L (st)))) : Go p e below P (T.setTop (mkF m pc L (.null :: st))) :=
  Go.st (fun t kk => XS.ifnullYes H.here H.exec (g := mkF m pc L (.null :: st)) rfl (pc0 := pc) rfl (H.dec hd) rfl ho hp kk) k
theorem G.ifnonnullYes (H : Hs p l e R s m args below meth c Z a0 EL cw own n0 bytes maxL ret nm T h C S sf) {b : Addr} {o : Int} {pc pc' : Nat} {L : Array Slot} {st : List Value} (hd : decode bytes pc = .ok (.ifnonnull o, 3)) (ho : 0 ≤ (pc : Int) + o) (hp : ((pc : Int) + o).toNat = pc') (k : Go p e below P (T.setTop (mkF m pc' L (st)))) : Go p e below P (T.setTop (mkF m pc L (.ref b :: st))) :=
  Go.st (fun t kk => XT.ifnonnullYes H.here H.exec (g := mkF m pc L (.ref b :: st)) rfl (pc0 := pc) rfl (H.dec hd) rfl ho hp kk) k
theorem G.acmpYes (H : Hs p l e R s m args below meth c Z a0 EL cw own n0 bytes maxL ret nm T h C S sf) {cd : ClassFile.ACond} {x y : Value} {o : Int} {pc pc' : Nat} {L : Array Slot} {st : List Value} (hd : decode bytes pc = .ok (.if_acmp cd o, 3)) (hx' : x.isRef = true) (hy' : y.isRef = true) (hc : XT.acmp cd x y = true) (ho : 0 ≤ (pc : Int) + o) (hp : ((pc : Int) + o).toNat = pc') (k : Go p e below P (T.setTop (mkF m pc' L (st)))) : Go p e below P (T.setTop (mkF m pc L (y :: x :: st))) :=
  Go.st (fun t kk => XT.acmpYes H.here H.exec (g := mkF m pc L (y :: x :: st)) rfl (pc0 := pc) rfl (H.dec hd) rfl hx' hy' hc ho hp kk) k
theorem G.ifNo (H : Hs p l e R s m args below meth c Z a0 EL cw own n0 bytes maxL ret nm T h C S sf) {cd : ClassFile.Cond} {o : Int} {x : Int32} {pc pc' : Nat} {L : Array Slot} {st : List Value} (hd : decode bytes pc = .ok (.ifCond cd o, 3)) (hp : pc + 3 = pc') (hc : ifCond.holds cd x = false) (k : Go p e below P (T.setTop (mkF m pc' L (st)))) : Go p e below P (T.setTop (mkF m pc L (.int x :: st))) := by
  subst hp
  exact Go.st (fun t kk => XS.ifNo H.here H.exec (g := mkF m pc L (.int x :: st)) rfl (H.dec hd) rfl hc kk) k
theorem G.icmpNo (H : Hs p l e R s m args below meth c Z a0 EL cw own n0 bytes maxL ret nm T h C S sf) {cd : ClassFile.Cond} {o : Int} {x y : Int32} {pc pc' : Nat} {L : Array Slot} {st : List Value} (hd : decode bytes pc = .ok (.if_icmp cd o, 3)) (hp : pc + 3 = pc') (hc : if_icmp.holds cd x y = false) (k : Go p e below P (T.setTop (mkF m pc' L (st)))) : Go p e below P (T.setTop (mkF m pc L (.int y :: .int x :: st))) := by
  subst hp
  exact Go.st (fun t kk => XS.icmpNo H.here H.exec (g := mkF m pc L (.int y :: .int x :: st)) rfl (H.dec hd) rfl hc kk) k
theorem G.ifnullNo (H : Hs p l e R s m args below meth c Z a0 EL cw own n0 bytes maxL ret nm T h C S sf) {o : Int} {b : Addr} {pc pc' : Nat} {L : Array Slot} {st : List Value} (hd : decode bytes pc = .ok (.ifnull o, 3)) (hp : pc + 3 = pc') (k : Go p e below P (T.setTop (mkF m pc' L (st)))) : Go p e below P (T.setTop (mkF m pc L (.ref b :: st))) := by
  subst hp
  exact Go.st (fun t kk => XS.ifnullNo H.here H.exec (g := mkF m pc L (.ref b :: st)) rfl (H.dec hd) rfl kk) k
theorem G.ifnonnullNo (H : Hs p l e R s m args below meth c Z a0 EL cw own n0 bytes maxL ret nm T h C S sf) {o : Int} {pc pc' : Nat} {L : Array Slot} {st : List Value} (hd : decode bytes pc = .ok (.ifnonnull o, 3)) (hp : pc + 3 = pc') (k : Go p e below P (T.setTop (mkF m pc' L (st)))) : Go p e below P (T.setTop (mkF m pc L (.null :: st))) := by
  subst hp
  exact Go.st (fun t kk => XT.ifnonnullNo H.here H.exec (g := mkF m pc L (.null :: st)) rfl (H.dec hd) rfl kk) k
theorem G.acmpNo (H : Hs p l e R s m args below meth c Z a0 EL cw own n0 bytes maxL ret nm T h C S sf) {cd : ClassFile.ACond} {o : Int} {x y : Value} {pc pc' : Nat} {L : Array Slot} {st : List Value} (hd : decode bytes pc = .ok (.if_acmp cd o, 3)) (hp : pc + 3 = pc') (hx' : x.isRef = true) (hy' : y.isRef = true) (hc : XT.acmp cd x y = false) (k : Go p e below P (T.setTop (mkF m pc' L (st)))) : Go p e below P (T.setTop (mkF m pc L (y :: x :: st))) := by
  subst hp
  exact Go.st (fun t kk => XT.acmpNo H.here H.exec (g := mkF m pc L (y :: x :: st)) rfl (H.dec hd) rfl hx' hy' hc kk) k
theorem G.tswIn (H : Hs p l e R s m args below meth c Z a0 EL cw own n0 bytes maxL ret nm T h C S sf) {dflt low high : Int} {offs : Array Int} {len : Nat} {o : Int} {i : Int32} {pc pc' : Nat} {L : Array Slot} {st : List Value} (hd : decode bytes pc = .ok (.tableswitch dflt low high offs, len)) (hin : ¬ (i.toInt < low ∨ i.toInt > high)) (hoff : offs[(i.toInt - low).toNat]? = some o) (ho : 0 ≤ (pc : Int) + o) (hp : ((pc : Int) + o).toNat = pc') (k : Go p e below P (T.setTop (mkF m pc' L st))) : Go p e below P (T.setTop (mkF m pc L (.int i :: st))) :=
  Go.st (fun t kk => XS.tswIn H.here H.exec (g := mkF m pc L (.int i :: st)) rfl (pc0 := pc) rfl (H.dec hd) rfl hin hoff ho hp kk) k
theorem G.tswOut (H : Hs p l e R s m args below meth c Z a0 EL cw own n0 bytes maxL ret nm T h C S sf) {dflt low high : Int} {offs : Array Int} {len : Nat} {i : Int32} {pc pc' : Nat} {L : Array Slot} {st : List Value} (hd : decode bytes pc = .ok (.tableswitch dflt low high offs, len)) (hout : i.toInt < low ∨ i.toInt > high) (ho : 0 ≤ (pc : Int) + dflt) (hp : ((pc : Int) + dflt).toNat = pc') (k : Go p e below P (T.setTop (mkF m pc' L st))) : Go p e below P (T.setTop (mkF m pc L (.int i :: st))) :=
  Go.st (fun t kk => XS.tswOut H.here H.exec (g := mkF m pc L (.int i :: st)) rfl (pc0 := pc) rfl (H.dec hd) rfl hout ho hp kk) k
/-! ## what makes or writes -/
theorem Hs.ext {T' : State} {h' : Heap} {C' S' : Nat} {vm0 : Vm} {k0 : Nat} {locs : List Loc} (H : Hs p l e R s m args below meth c Z a0 EL cw own n0 bytes maxL ret nm T h C S sf) (X' : Stand p l e R (s.setVm vm0) m args below meth c T' locs C' S') (e' : T'.heap = h') (E : Ext h h') (h2 : s.Since vm0 k0) (h3 : k0 ≤ h.size) (h4 : Z.Warmed39 vm0) (h5 : vm0.findClass own = some m.cls) (h6 : Fr n0 locs) (h7 : CHr Z EL s.vm s.heap vm0 h) (h8 : ∀ x ∈ sf, x < h.size ∧ Safe Z EL vm0 h x) (h9 : cw ∨ s.WarmedH vm0) (hO : Old Z n0 h) (hlt : h.size < h'.size) : Hs p l e R s m args below meth c Z a0 EL cw own n0 bytes maxL ret nm T' h' C' S' (h.size :: sf) :=
  ⟨H.1, vm0, k0, locs, X', e', h2, Nat.le_trans h3 E.1, h4, h5, h6, h7.trans (CHr.ext E h7.1), fun x hx => by
    rcases List.mem_cons.mp hx with rfl | hx
    · exact ⟨hlt, Safe.ext E h7.1 (Safe.new (Nat.le_refl _))⟩
    · exact ⟨Nat.lt_of_lt_of_le (h8 x hx).1 E.1, Safe.ext E h7.1 (h8 x hx).2⟩, h9, hO.ext E⟩
theorem G.new (H : Hs p l e R s m args below meth c Z a0 EL cw own n0 bytes maxL ret nm T h C S sf) {K : String} {index n : Nat} (w : (Cond.classLink own index K).before a0 Z = true) (wi : (Cond.instantiable K n).before a0 Z = true) (wz : (Cond.initialized K).before a0 Z = true) {pc pc' : Nat} {L : Array Slot} {st : List Value} (hd : decode bytes pc = .ok (.new index, 3)) (hp : pc + 3 = pc') (hc : C + 1 ≤ R.cells) (hl : S + n ≤ R.slots)
    (k : ∀ T' h' a, a = h.size → Hs p l e R s m args below meth c Z a0 EL cw own n0 bytes maxL ret nm T' h' (C + 1) (S + n) (a :: sf) → Ext h h' → Exa Z h' a K → (∀ {O nm' d : String} {ty : FieldType}, Laid Z a0 K O nm' d → parseFieldDescriptor d = some ty → Fld Z h' a O nm' d (defaultValue ty)) → Go p e below P (T'.setTop (mkF m pc' L (.ref a :: st)))) : Go p e below P (T.setTop (mkF m pc L st)) := by
  subst hp
  obtain ⟨hM, vm0, k0, locs, X, h1, h2, h3, h4, h5, h6, h7, h8, h9, hO⟩ := id H
  obtain ⟨T', h', X', e', E, A, D, -, st'⟩ := RoadKit.newO X H.exec h4 h5 w wi wz h1 (g := mkF m pc L st) rfl (H.dec hd) hc hl
  exact Go.st st' (k T' h' _ rfl (H.ext X' e' E h2 h3 h4 h5 h6 h7 h8 h9 hO A.lt) E A D)
theorem G.newP (H : Hs p l e R s m args below meth c Z a0 EL cw own n0 bytes maxL ret nm T h C S sf) {aty : ArrayType} (w : (Cond.arrayClass (newarray.typeOf aty)).before a0 Z = true) {z : Int32} {pc pc' : Nat} {L : Array Slot} {st : List Value} (hd : decode bytes pc = .ok (.newarray aty, 2)) (hp : pc + 2 = pc') (hn : ¬ z < 0) {cap : Nat} (hcap : z.toNatClampNeg ≤ cap) (hb : cap * 8 ≤ 536870912) (hc : C + 1 ≤ R.cells) (hl : S + cap ≤ R.slots) {vs : List Value} (hvs : List.replicate z.toNatClampNeg (defaultValue (newarray.typeOf aty)) = vs)
    (k : ∀ T' h' a kc, a = h.size → Hs p l e R s m args below meth c Z a0 EL cw own n0 bytes maxL ret nm T' h' (C + 1) (S + cap) (a :: sf) → Ext h h' → Arv Z h' a kc (newarray.typeOf aty) z vs (defaultValue (newarray.typeOf aty)) → Go p e below P (T'.setTop (mkF m pc' L (.ref a :: st)))) : Go p e below P (T.setTop (mkF m pc L (.int z :: st))) := by
  subst hp
  obtain ⟨hM, vm0, k0, locs, X, h1, h2, h3, h4, h5, h6, h7, h8, h9, hO⟩ := id H
  obtain ⟨T', h', cA, X', e', E, A, st'⟩ := RoadKit.newP X H.exec h4 w h1 (g := mkF m pc L (.int z :: st)) rfl (H.dec hd) rfl hn hcap hb hc hl
  refine Go.st st' (k T' h' _ cA rfl (H.ext X' e' E h2 h3 h4 h5 h6 h7 h8 h9 hO A.lt) E ?_)
  subst hvs
  exact (Arv.new A hn).pad (fun i => by simpa using pad_rep [] (defaultValue (newarray.typeOf aty)) z.toNatClampNeg i)
theorem G.newR (H : Hs p l e R s m args below meth c Z a0 EL cw own n0 bytes maxL ret nm T h C S sf) {K : String} {index : Nat} (w1 : (Cond.classLink own index K).before a0 Z = true) (w2 : (Cond.arrayOver (.object K)).before a0 Z = true) {z : Int32} {pc pc' : Nat} {L : Array Slot} {st : List Value} (hd : decode bytes pc = .ok (.anewarray index, 3)) (hp : pc + 3 = pc') (hn : ¬ z < 0) {cap : Nat} (hcap : z.toNatClampNeg ≤ cap) (hb : cap * 8 ≤ 536870912) (hc : C + 1 ≤ R.cells) (hl : S + cap ≤ R.slots) {vs : List Value} (hvs : List.replicate z.toNatClampNeg Value.null = vs) {ad : String} (had : "[" ++ (FieldType.object K).toString = ad)
    (k : ∀ T' h' a kc, a = h.size → Hs p l e R s m args below meth c Z a0 EL cw own n0 bytes maxL ret nm T' h' (C + 1) (S + cap) (a :: sf) → Ext h h' → Arv Z h' a kc (.object K) z vs .null → Exa Z h' a ad → Ovr Z kc K → Go p e below P (T'.setTop (mkF m pc' L (.ref a :: st)))) : Go p e below P (T.setTop (mkF m pc L (.int z :: st))) := by
  subst hp
  obtain ⟨hM, vm0, k0, locs, X, h1, h2, h3, h4, h5, h6, h7, h8, h9, hO⟩ := id H
  obtain ⟨T', h', cA, X', e', E, A, EX, O, st'⟩ := RoadKit.newRE X H.exec h4 h5 w1 w2 h1 (g := mkF m pc L (.int z :: st)) rfl (H.dec hd) rfl hn hcap hb hc hl had
  refine Go.st st' (k T' h' _ cA rfl (H.ext X' e' E h2 h3 h4 h5 h6 h7 h8 h9 hO A.lt) E ?_ EX O)
  subst hvs
  exact (Arv.new A hn).pad (fun i => by show (List.replicate z.toNatClampNeg Value.null).getD i Value.null = ([] : List Value).getD i Value.null; simpa using pad_rep [] Value.null z.toNatClampNeg i)
theorem Hs.wr {T' : State} {h' : Heap} {vm0 : Vm} {k0 : Nat} {locs : List Loc} {a : Addr} {sl : Nat} {v : Value} (H : Hs p l e R s m args below meth c Z a0 EL cw own n0 bytes maxL ret nm T h C S sf) (X' : Stand p l e R (s.setVm vm0) m args below meth c T' (locs ++ [⟨a, sl⟩]) C S) (e' : T'.heap = h') (W : Wr h h' a sl v) (q : n0 ≤ a) (sa : Safe Z EL vm0 h a) (h2 : s.Since vm0 k0) (h3 : k0 ≤ h.size) (h4 : Z.Warmed39 vm0) (h5 : vm0.findClass own = some m.cls) (h6 : Fr n0 locs) (h7 : CHr Z EL s.vm s.heap vm0 h) (h8 : ∀ x ∈ sf, x < h.size ∧ Safe Z EL vm0 h x) (h9 : cw ∨ s.WarmedH vm0) (hO : Old Z n0 h) : Hs p l e R s m args below meth c Z a0 EL cw own n0 bytes maxL ret nm T' h' C S sf :=
  ⟨H.1, vm0, k0, locs ++ [⟨a, sl⟩], X', e', h2, by rw [W.size]; exact h3, h4, h5, Fr.snoc X' h6 q, h7.trans (CHr.wr W sa h7.1), fun x hx => ⟨by rw [W.size]; exact (h8 x hx).1, Safe.wr W sa h7.1 (h8 x hx).2⟩, h9, hO.wr W q⟩
theorem G.putF (H : Hs p l e R s m args below meth c Z a0 EL cw own n0 bytes maxL ret nm T h C S sf) {R0 O n d K : String} {index kk : Nat} {ty : FieldType} (w : (Cond.fieldLink own index R0 n d).before a0 Z = true) (via : Via Z R0 O n d) {a : Addr} {v old : Value} (F : Fld Z h a O n d old) (E : Exa Z h a K) (Ly : (Cond.lays K O n d).before a0 Z = true ∨ ((Cond.laysFinal K O n d).before a0 Z = true ∧ own = O ∧ nm = "<init>")) (wi : (Cond.instantiable K kk).before a0 Z = true) (hty : parseFieldDescriptor d = some ty) (hn : narrow ty v = v) (hf : fits ty v = true) (hq : n0 ≤ a) (hsf : Sf Z EL h sf a) {pc pc' : Nat} {L : Array Slot} {st : List Value} (hd : decode bytes pc = .ok (.putfield index, 3)) (hp : pc + 3 = pc')
    (k : ∀ T' h', Hs p l e R s m args below meth c Z a0 EL cw own n0 bytes maxL ret nm T' h' C S sf → Wr h h' a (RoadKit.slotOf Z O n d) v → Go p e below P (T'.setTop (mkF m pc' L st))) : Go p e below P (T.setTop (mkF m pc L (v :: .ref a :: st))) := by
  subst hp
  obtain ⟨hM, vm0, k0, locs, X, h1, h2, h3, h4, h5, h6, h7, h8, h9, hO⟩ := id H
  obtain ⟨T', h', X', e', W, st'⟩ := RoadKit.putF X H.exec h4 (host := "") h5 (Or.inl w) via h1 F E (Ly.imp id (fun q => ⟨q.1, q.2.1, hM.2.2.2.2.2.2.1.trans q.2.2⟩)) wi hty hn hf (g := mkF m pc L (v :: .ref a :: st)) rfl rfl (H.dec hd)
  exact Go.st st' (k T' h' (H.wr X' e' W hq (hsf.safe h4 h8) h2 h3 h4 h5 h6 h7 h8 h9 hO) W)
theorem G.stI (H : Hs p l e R s m args below meth c Z a0 EL cw own n0 bytes maxL ret nm T h C S sf) {a : Addr} {kc : ClassId} {z : Int32} {vs : List Value} {dv : Value} (A : Arv Z h a kc .int z vs dv) {j x : Int32} (hj : ¬ j < 0 ∧ j < z) {i : Nat} (hi : j.toNatClampNeg = i) (hlt : i < vs.length) (hq : n0 ≤ a) {pc pc' : Nat} {L : Array Slot} {st : List Value} (hd : decode bytes pc = .ok (.iastore, 1)) (hp : pc + 1 = pc')
    (k : ∀ T' h', Hs p l e R s m args below meth c Z a0 EL cw own n0 bytes maxL ret nm T' h' C S sf → Wr h h' a i (.int x) → Arv Z h' a kc .int z (vs.set i (.int x)) dv → Go p e below P (T'.setTop (mkF m pc' L st))) : Go p e below P (T.setTop (mkF m pc L (.int x :: .int j :: .ref a :: st))) := by
  subst hp; subst hi
  obtain ⟨hM, vm0, k0, locs, X, h1, h2, h3, h4, h5, h6, h7, h8, h9, hO⟩ := id H
  obtain ⟨cl, Ar, q1, S1, q3, H1, G1⟩ := A
  obtain ⟨T', h', X', e', W, st'⟩ := RoadKit.stI X H.exec h4 h1 Ar (inb_of S1 hj) (g := mkF m pc L (.int x :: .int j :: .ref a :: st)) rfl rfl (H.dec hd)
  exact Go.st st' (k T' h' (H.wr X' e' W hq (Safe.arr h4.alike Ar (by decide)) h2 h3 h4 h5 h6 h7 h8 h9 hO) W (Arv.set Ar q1 S1 q3 H1 G1 rfl W _ rfl hlt))
theorem G.stC (H : Hs p l e R s m args below meth c Z a0 EL cw own n0 bytes maxL ret nm T h C S sf) {a : Addr} {kc : ClassId} {z : Int32} {vs : List Value} {dv : Value} (A : Arv Z h a kc .char z vs dv) {j x : Int32} (hj : ¬ j < 0 ∧ j < z) {i : Nat} (hi : j.toNatClampNeg = i) (hlt : i < vs.length) (hq : n0 ≤ a) {y : Int32} (hy : nar .char x = y) {pc pc' : Nat} {L : Array Slot} {st : List Value} (hd : decode bytes pc = .ok (.castore, 1)) (hp : pc + 1 = pc')
    (k : ∀ T' h', Hs p l e R s m args below meth c Z a0 EL cw own n0 bytes maxL ret nm T' h' C S sf → Wr h h' a i (.int y) → Arv Z h' a kc .char z (vs.set i (.int y)) dv → Go p e below P (T'.setTop (mkF m pc' L st))) : Go p e below P (T.setTop (mkF m pc L (.int x :: .int j :: .ref a :: st))) := by
  subst hp; subst hi; subst hy
  obtain ⟨hM, vm0, k0, locs, X, h1, h2, h3, h4, h5, h6, h7, h8, h9, hO⟩ := id H
  obtain ⟨cl, Ar, q1, S1, q3, H1, G1⟩ := A
  obtain ⟨T', h', X', e', W, st'⟩ := RoadKit.stC X H.exec h4 h1 Ar (inb_of S1 hj) (g := mkF m pc L (.int x :: .int j :: .ref a :: st)) rfl rfl (H.dec hd)
  exact Go.st st' (k T' h' (H.wr X' e' W hq (Safe.arr h4.alike Ar (by decide)) h2 h3 h4 h5 h6 h7 h8 h9 hO) W (Arv.set Ar q1 S1 q3 H1 G1 (fits_nar_char x) W _ rfl hlt))
theorem G.stB (H : Hs p l e R s m args below meth c Z a0 EL cw own n0 bytes maxL ret nm T h C S sf) {a : Addr} {kc : ClassId} {z : Int32} {vs : List Value} {dv : Value} (A : Arv Z h a kc .byte z vs dv) {j x : Int32} (hj : ¬ j < 0 ∧ j < z) {i : Nat} (hi : j.toNatClampNeg = i) (hlt : i < vs.length) (hq : n0 ≤ a) (hsf : Sf Z EL h sf a) {y : Int32} (hy : nar .byte x = y) {pc pc' : Nat} {L : Array Slot} {st : List Value} (hd : decode bytes pc = .ok (.bastore, 1)) (hp : pc + 1 = pc')
    (k : ∀ T' h', Hs p l e R s m args below meth c Z a0 EL cw own n0 bytes maxL ret nm T' h' C S sf → Wr h h' a i (.int y) → Arv Z h' a kc .byte z (vs.set i (.int y)) dv → Go p e below P (T'.setTop (mkF m pc' L st))) : Go p e below P (T.setTop (mkF m pc L (.int x :: .int j :: .ref a :: st))) := by
  subst hp; subst hi; subst hy
  obtain ⟨hM, vm0, k0, locs, X, h1, h2, h3, h4, h5, h6, h7, h8, h9, hO⟩ := id H
  obtain ⟨cl, Ar, q1, S1, q3, H1, G1⟩ := A
  obtain ⟨T', h', X', e', W, st'⟩ := RoadKit.stB X H.exec h4 h1 Ar (inb_of S1 hj) (g := mkF m pc L (.int x :: .int j :: .ref a :: st)) rfl rfl (H.dec hd)
  exact Go.st st' (k T' h' (H.wr X' e' W hq (hsf.safe h4 h8) h2 h3 h4 h5 h6 h7 h8 h9 hO) W (Arv.set Ar q1 S1 q3 H1 G1 (fits_nar_byte x) W _ rfl hlt))
theorem G.stR (H : Hs p l e R s m args below meth c Z a0 EL cw own n0 bytes maxL ret nm T h C S sf) {a : Addr} {kc : ClassId} {ty : FieldType} {z : Int32} {vs : List Value} {dv : Value} (A : Arv Z h a kc ty z vs dv) (hty : ty.isReference = true) {j : Int32} {v : Value} (F : Sto Z h a v) (hv : v.isRef = true) (hj : ¬ j < 0 ∧ j < z) {i : Nat} (hi : j.toNatClampNeg = i) (hlt : i < vs.length) (hq : n0 ≤ a) {pc pc' : Nat} {L : Array Slot} {st : List Value} (hd : decode bytes pc = .ok (.aastore, 1)) (hp : pc + 1 = pc')
    (k : ∀ T' h', Hs p l e R s m args below meth c Z a0 EL cw own n0 bytes maxL ret nm T' h' C S sf → Wr h h' a i v → Arv Z h' a kc ty z (vs.set i v) dv → Go p e below P (T'.setTop (mkF m pc' L st))) : Go p e below P (T.setTop (mkF m pc L (v :: .int j :: .ref a :: st))) := by
  subst hp; subst hi
  obtain ⟨hM, vm0, k0, locs, X, h1, h2, h3, h4, h5, h6, h7, h8, h9, hO⟩ := id H
  obtain ⟨cl, Ar, q1, S1, q3, H1, G1⟩ := A
  obtain ⟨T', h', X', e', W, st'⟩ := RoadKit.stR X H.exec h4 h1 Ar (inb_of S1 hj) hty F (g := mkF m pc L (v :: .int j :: .ref a :: st)) rfl rfl (H.dec hd)
  exact Go.st st' (k T' h' (H.wr X' e' W hq (Safe.arr h4.alike Ar (by intro q; rw [q] at hty; cases hty)) h2 h3 h4 h5 h6 h7 h8 h9 hO) W (Arv.set Ar q1 S1 q3 H1 G1 (by rcases ref_cases hv with rfl | ⟨b, rfl⟩ <;> cases ty <;> first | rfl | cases hty) W _ rfl hlt))
/-! ## a String constant -/
theorem Hs.rebase {T' : State} {h' : Heap} {C' S' : Nat} {vm0 : Vm} {k1 : Nat} {locs : List Loc} (H : Hs p l e R s m args below meth c Z a0 EL cw own n0 bytes maxL ret nm T h C S sf) (hcw : cw) (X' : Stand p l e R (s.setVm T'.vm) m args below meth c T' locs C' S') (e' : T'.heap = h') (h2 : s.Since T'.vm k1) (h3 : k1 ≤ h'.size) (h4 : Z.Warmed39 T'.vm) (h5 : T'.vm.findClass own = some m.cls) (h6 : Fr n0 locs) (h7 : CHr Z EL s.vm s.heap vm0 h) (h7' : CHr Z EL vm0 h T'.vm h') (h8 : ∀ x ∈ sf, x < h.size ∧ Safe Z EL vm0 h x) (hO : Old Z n0 h') : Hs p l e R s m args below meth c Z a0 EL cw own n0 bytes maxL ret nm T' h' C' S' sf :=
  ⟨H.1, T'.vm, k1, locs, X', e', h2, h3, h4, h5, h6, h7.trans h7', fun x hx => ⟨Nat.lt_of_lt_of_le (h8 x hx).1 h7'.2.1, h7'.safe (h8 x hx).1 (h8 x hx).2⟩, Or.inl hcw, hO⟩
theorem G.ldcS (H : Hs p l e R s m args below meth c Z a0 EL cw own n0 bytes maxL ret nm T h C S sf) (hcw : cw) (wS : ∀ a ∈ Bundle.stringAtoms, a.before a0 Z = true) {index : Nat} {text : String} (w : (Cond.stringLink own index text).before a0 Z = true) (hmem : (own, index) ∈ EL) {vs : List Value} {z : Int32} (ht : (∀ c ∈ text.toList, c.toNat < 256) ∧ text.toList.map (fun c => Value.int (Jvm.Lit.byteI c.toNat.toUInt16)) = vs) (hz : ¬ z < 0) (hl : z.toNatClampNeg = vs.length) {n : Nat} (hn : 4 * text.toList.length ≤ n) (hbig : n ≤ 536870912) (hc : C + 2 ≤ R.cells) (hl' : S + (n + 4) ≤ R.slots) {pc pc' : Nat} {L : Array Slot} {st : List Value} (hd : decode bytes pc = .ok (.ldc index, 2)) (hp : pc + 2 = pc')
    (k : ∀ T' h' a b kb, Hs p l e R s m args below meth c Z a0 EL cw own n0 bytes maxL ret nm T' h' (C + 2) (S + (n + 4)) sf → Ext h h' → Exa Z h' a "java/lang/String" → Fld Z h' a "java/lang/String" "coder" "B" (.int 0) → Fld Z h' a "java/lang/String" "value" "[B" (.ref b) → Arv Z h' b kb .byte z vs (.int 0) → (∀ x ∈ sf, x ≠ a ∧ x ≠ b) → Go p e below P (T'.setTop (mkF m pc' L (.ref a :: st)))) : Go p e below P (T.setTop (mkF m pc L st)) := by
  subst hp
  obtain ⟨hM, vm0, k0, locs, X, h1, h2, h3, h4, h5, h6, h7, h8, h9, hO⟩ := id H
  obtain ⟨a, T', h', k1, b, kb, X', e', E, s2, s3, s4, s5, F1, F2, F3, F4, -, -, h7', -, hne, st'⟩ := RoadKit.ldcCH X H.exec h4 h5 w wS h1 h2 h3 hM.2.1 hmem h7.1 ht hz hl (g := mkF m pc L st) rfl (H.dec hd) hn hbig hc hl'
  exact Go.st st' (k T' h' a b kb (H.rebase hcw X' e' s2 s3 s4 s5 h6 h7 h7' h8 (hO.ext E)) E F1 F2 F3 F4 (fun x hx => hne x (h7'.safe (h8 x hx).1 (h8 x hx).2)))
theorem G.ldcO (H : Hs p l e R s m args below meth c Z a0 EL cw own n0 bytes maxL ret nm T h C S sf) (hcw : cw) (wS : ∀ a ∈ Bundle.stringAtoms, a.before a0 Z = true) {index : Nat} {text : String} (w : (Cond.stringLink own index text).before a0 Z = true) {n : Nat} (hn : 4 * text.toList.length ≤ n) (hbig : n ≤ 536870912) (hc : C + 2 ≤ R.cells) (hl' : S + (n + 4) ≤ R.slots) {pc pc' : Nat} {L : Array Slot} {st : List Value} (hd : decode bytes pc = .ok (.ldc index, 2)) (hp : pc + 2 = pc')
    (k : ∀ T' h' a, Hs p l e R s m args below meth c Z a0 EL cw own n0 bytes maxL ret nm T' h' (C + 2) (S + (n + 4)) sf → Ext h h' → Go p e below P (T'.setTop (mkF m pc' L (.ref a :: st)))) : Go p e below P (T.setTop (mkF m pc L st)) := by
  subst hp
  obtain ⟨hM, vm0, k0, locs, X, h1, h2, h3, h4, h5, h6, h7, h8, h9, hO⟩ := id H
  obtain ⟨a, T', h', k1, X', e', E, s2, s3, s4, s5, h7', -, st'⟩ := RoadKit.ldcOH X H.exec h4 h5 w wS h1 h2 h3 hM.2.1 h7.1 (g := mkF m pc L st) rfl (H.dec hd) hn hbig hc hl'
  exact Go.st st' (k T' h' a (H.rebase hcw X' e' s2 s3 s4 s5 h6 h7 h7' h8 (hO.ext E)) E)
/-! ## the end of a method -/
def FinP (s : State) (below : List Frame) (Z : State) (EL : List (String × Nat)) (cw : Prop) (n0 Cm Sm : Nat) (Q : Option Value → Heap → List Addr → Prop) : State → Outcome → Prop := fun u o =>
  u.status = .running ∧ Ended u below o ∧ ∃ v L so, o = .returned v ∧ Q v u.heap so ∧ Old Z n0 u.heap ∧ Fr n0 L ∧ CHr Z EL s.vm s.heap u.vm u.heap ∧ (∀ x ∈ so, x < u.heap.size ∧ Safe Z EL u.vm u.heap x) ∧ ReturnedEndW s o u L Cm Sm ∧ (cw ∨ FrameEnd s o u L Cm Sm)
theorem Hs.leave (H : Hs p l e R s m args below meth c Z a0 EL cw own n0 bytes maxL ret nm T h C S sf) {Cm Sm : Nat} {Q : Option Value → Heap → List Addr → Prop} {v : Option Value} {so : List Addr} (hv : ret = none → v = none) (hQ : Q v h so) (hso : ∀ x ∈ so, x ∈ sf) (hC : C ≤ Cm) (hS : S ≤ Sm) :
    ∃ fs, (∀ (f : JFrame) (acts : List Action), f.method = m → f.locked = none → f.entered = [] → (doReturn e (T.setTop f) acts v).1 = T.setFrames fs) ∧ FinP s below Z EL cw n0 Cm Sm Q (T.setFrames fs) (.returned v) := by
  obtain ⟨hM, vm0, k0, locs, X, h1, h2, h3, h4, h5, h6, h7, h8, h9, hO⟩ := H
  obtain ⟨-, hEL, -, -, hret, hlocks, -, -⟩ := hM
  obtain ⟨fs, hr, hrun, hended, hW, hsame⟩ := X.leave (v := v) (fun q => hv (hret.symm.trans q)) hlocks
  have hk : k0 ≤ (T.setFrames fs).heap.size := by show k0 ≤ T.heap.size; rw [h1]; exact h3
  obtain ⟨w1, w2, w3⟩ := h2.ended (U := T.setFrames fs) hW hk hsame
  have A := CHv.at X h4 hEL h7.1
  refine ⟨fs, hr, hrun, hended, v, locs, so, rfl, ?_, ?_, h6, ?_, ?_, ⟨⟨v, rfl⟩, w1, w2, w3.mono hC hS⟩, ?_⟩
  · show Q v T.heap so; rw [h1]; exact hQ
  · show Old Z n0 T.heap; rw [h1]; exact hO
  · show CHr Z EL s.vm s.heap T.vm T.heap; rw [h1]; exact h7.trans A
  · intro x hx
    show x < T.heap.size ∧ Safe Z EL T.vm T.heap x
    rw [h1]; exact ⟨(h8 x (hso x hx)).1, A.safe (h8 x (hso x hx)).1 (h8 x (hso x hx)).2⟩
  · exact h9.imp id (fun q => ⟨⟨v, rfl⟩, State.WarmedH.trans (t := s.setVm vm0) q hW, w3.mono hC hS⟩)
theorem G.retG (H : Hs p l e R s m args below meth c Z a0 EL cw own n0 bytes maxL ret nm T h C S sf) {Cm Sm : Nat} {Q : Option Value → Heap → List Addr → Prop} {so : List Addr} {pc : Nat} {L : Array Slot} {w : Value} {t : FieldType} {i : Instr} {rest : List Value} (hret : ret = some t) (hn : narrow t w = w)
    (hi : (i = .ireturn ∧ (t = .int ∨ t = .boolean ∨ t = .byte ∨ t = .char ∨ t = .short) ∧ ∃ z, w = .int z) ∨ (i = .lreturn ∧ t = .long ∧ ∃ z, w = .long z) ∨ (i = .dreturn ∧ t = .double ∧ ∃ z, w = .double z) ∨ (i = .freturn ∧ t = .float ∧ ∃ z, w = .float z) ∨ (i = .areturn ∧ t.isReference = true ∧ w.isRef = true))
    (hd : decode bytes pc = .ok (i, 1)) (hso : ∀ x ∈ so, x ∈ sf) (hC : C ≤ Cm) (hS : S ≤ Sm) (hQ : Q (some w) h so) : Go p e below (FinP s below Z EL cw n0 Cm Sm Q) (T.setTop (mkF m pc L (w :: rest))) := by
  obtain ⟨fs, hr, hF⟩ := H.leave (Q := Q) (v := some w) (Cm := Cm) (Sm := Sm) (fun q => by rw [hret] at q; cases q) hQ hso hC hS
  obtain ⟨hM, vm0, k0, locs, X, -⟩ := id H
  exact ⟨_, _, retOut X H.exec (hM.2.2.2.2.1.trans hret) hn hi (H.dec hd) hr, hF⟩
theorem G.retI (H : Hs p l e R s m args below meth c Z a0 EL cw own n0 bytes maxL ret nm T h C S sf) {Cm Sm : Nat} {Q : Option Value → Heap → List Addr → Prop} {so : List Addr} {pc : Nat} {L : Array Slot} {z : Int32} {rest : List Value} (hret : ret = some .int) (hd : decode bytes pc = .ok (.ireturn, 1)) (hso : ∀ x ∈ so, x ∈ sf) (hC : C ≤ Cm) (hS : S ≤ Sm) (hQ : Q (some (.int z)) h so) : Go p e below (FinP s below Z EL cw n0 Cm Sm Q) (T.setTop (mkF m pc L (.int z :: rest))) :=
  G.retG H hret rfl (Or.inl ⟨rfl, Or.inl rfl, z, rfl⟩) hd hso hC hS hQ
theorem G.retN (H : Hs p l e R s m args below meth c Z a0 EL cw own n0 bytes maxL ret nm T h C S sf) {Cm Sm : Nat} {Q : Option Value → Heap → List Addr → Prop} {so : List Addr} {pc : Nat} {L : Array Slot} {z : Int32} {t : FieldType} {rest : List Value} (hret : ret = some t) (ht : t = .boolean ∨ t = .byte ∨ t = .char ∨ t = .short) (hd : decode bytes pc = .ok (.ireturn, 1)) (hso : ∀ x ∈ so, x ∈ sf) (hC : C ≤ Cm) (hS : S ≤ Sm) (hQ : Q (some (.int (nar t z))) h so) : Go p e below (FinP s below Z EL cw n0 Cm Sm Q) (T.setTop (mkF m pc L (.int z :: rest))) := by
  obtain ⟨fs, hr, hF⟩ := H.leave (Q := Q) (v := some (.int (nar t z))) (Cm := Cm) (Sm := Sm) (fun q => by rw [hret] at q; cases q) hQ hso hC hS
  obtain ⟨hM, vm0, k0, locs, X, -⟩ := id H
  exact ⟨_, _, RoadKit.retN X H.exec (hM.2.2.2.2.1.trans hret) ht (H.dec hd) hr, hF⟩
theorem G.retA (H : Hs p l e R s m args below meth c Z a0 EL cw own n0 bytes maxL ret nm T h C S sf) {Cm Sm : Nat} {Q : Option Value → Heap → List Addr → Prop} {so : List Addr} {pc : Nat} {L : Array Slot} {w : Value} {t : FieldType} {rest : List Value} (hret : ret = some t) (ht : t.isReference = true) (hw : w.isRef = true) (hd : decode bytes pc = .ok (.areturn, 1)) (hso : ∀ x ∈ so, x ∈ sf) (hC : C ≤ Cm) (hS : S ≤ Sm) (hQ : Q (some w) h so) : Go p e below (FinP s below Z EL cw n0 Cm Sm Q) (T.setTop (mkF m pc L (w :: rest))) :=
  G.retG H hret (by rcases ref_cases hw with rfl | ⟨a, rfl⟩ <;> cases t <;> first | rfl | cases ht) (Or.inr (Or.inr (Or.inr (Or.inr ⟨rfl, ht, hw⟩)))) hd hso hC hS hQ
theorem G.retV (H : Hs p l e R s m args below meth c Z a0 EL cw own n0 bytes maxL ret nm T h C S sf) {Cm Sm : Nat} {Q : Option Value → Heap → List Addr → Prop} {so : List Addr} {pc : Nat} {L : Array Slot} (hret : ret = none) (hd : decode bytes pc = .ok (.return_, 1)) (hso : ∀ x ∈ so, x ∈ sf) (hC : C ≤ Cm) (hS : S ≤ Sm) (hQ : Q none h so) : Go p e below (FinP s below Z EL cw n0 Cm Sm Q) (T.setTop (mkF m pc L [])) := by
  obtain ⟨fs, hr, hF⟩ := H.leave (Q := Q) (v := none) (Cm := Cm) (Sm := Sm) (fun _ => rfl) hQ hso hC hS
  obtain ⟨hM, vm0, k0, locs, X, -⟩ := id H
  exact ⟨_, _, X.returnOut H.exec (hM.2.2.2.2.1.trans hret) (H.dec hd) hr, hF⟩
/-! ## a method's contract -/
def Met (Z : State) (a0 : Array Value) (EL : List (String × Nat)) (cw : Prop) (n0 : Nat) (l : Launch) (y : MethodName) (bytes : ByteArray) (maxL : Nat) (ret : Option FieldType) (rm : Room) (as' : Array Value) (h : Heap) (sfI : List Addr) (Q : Option Value → Heap → List Addr → Prop) : Prop :=
  ∀ ws, MetFree l y (head1 (Cond.code y bytes maxL ret :: ws) rm) (fun a U => a = as' ∧ Z.Warmed39 U.vm ∧ U.heap = h ∧ CHv Z EL U.vm h ∧ ∀ x ∈ sfI, x < h.size ∧ Safe Z EL U.vm h x) (fun _ _ _ _ _ => True)
    (fun _ U o U' => ∃ v L so, o = .returned v ∧ Q v U'.heap so ∧ Old Z n0 U'.heap ∧ Fr n0 L ∧ CHr Z EL U.vm U.heap U'.vm U'.heap ∧ (∀ x ∈ so, x < U'.heap.size ∧ Safe Z EL U'.vm U'.heap x) ∧ ReturnedEndW U o U' L rm.cells rm.slots ∧ (cw ∨ FrameEnd U o U' L rm.cells rm.slots))
theorem Met.of {y : MethodName} {rm : Room} {as' : Array Value} {sfI : List Addr} {Q : Option Value → Heap → List Addr → Prop} {L0 : Array Slot} (hEL : EW Z a0 EL) (hpn : plainFor y = true) (hO : Old Z n0 h) (hL : Jvm.Sym.laidSlots as'.toList ++ List.replicate (maxL - (Jvm.Sym.laidSlots as'.toList).length) .unset = L0.toList)
    (body : ∀ (p : Program) (e : Env) (s : State) (m : MethodId) (below : List Frame) (meth : Method) (c : Code) (T : State), Hs p l e rm s m as' below meth c Z a0 EL cw y.cls n0 bytes maxL ret y.name T h 0 0 sfI → Go p e below (FinP s below Z EL cw n0 rm.cells rm.slots Q) (T.setTop (mkF m 0 L0 []))) : Met Z a0 EL cw n0 l y bytes maxL ret rm as' h sfI Q := by
  intro ws
  refine MetFree.of_bodySF hpn hisR ?_
  intro p e s m args below meth c s₁ Bd hml hP hK
  obtain ⟨rfl, hZ, hh, hC, hs⟩ := hP
  have X0 : Stand p l e rm (s.setVm s.vm) m args below meth c s₁ [] 0 0 := Stand.of_body Bd
  have e0 : s₁.heap = h := by rw [← hh, Bd.state]; rfl
  have H : Hs p l e rm s m args below meth c Z a0 EL cw y.cls n0 bytes maxL ret y.name s₁ h 0 0 sfI :=
    ⟨⟨Bd.exec, hEL, Bd.bytes, hml, Bd.returns, Bd.notSynchronized, (name_of_methodNamed Bd.named Bd.method).1, by rw [hh, ← hO.1]; exact hO.2.1⟩, s.vm, s.heap.size, [], X0, e0, (State.WarmedH.refl s).since _, by rw [hh]; exact Nat.le_refl _, hZ, findClass_of_methodNamed Bd.named, Fr.nil n0, by rw [hh]; exact CHr.refl hC, hs, Or.inr (State.WarmedH.refl s), hO⟩
  obtain ⟨u, o, h1, h2, h3, v, L, so, r1, r2, rO, r3, r4, r5, r6, r7⟩ := body p e s m below meth c s₁ H
  exact ⟨u, o, (XT.entry hL).trans h1, h2, h3, v, L, so, r1, r2, rO, r3, r4, r5, r6, r7⟩
theorem Met.backS {y : MethodName} {rm : Room} {as' : Array Value} {sfI : List Addr} {Q : Option Value → Heap → List Addr → Prop} {vm0 : Vm} {len W : Nat} (M : Met Z a0 EL cw n0 l y bytes maxL ret rm as' h sfI Q) (hEL : EW Z a0 EL) (hZ : Z.Warmed39 vm0) (wc : (Cond.code y bytes maxL ret).before a0 Z = true) (wz : (Cond.initialized y.cls).before a0 Z = true) (hf : rm.frames + 1 ≤ R.frames) (hl : W + (maxL + 11) + rm.locals ≤ R.locals) (H : CHv Z EL vm0 h) (hs : ∀ x ∈ sfI, x < h.size ∧ Safe Z EL vm0 h x) :
    BackS l R p e below (s.setVm vm0) args y len W (fun A a => a = as' ∧ A.U.heap = h ∧ A.cells + rm.cells ≤ R.cells ∧ A.slots + rm.slots ≤ R.slots)
      (fun A _ v B => ∃ L so, Q v B.U.heap so ∧ Old Z n0 B.U.heap ∧ Fr n0 L ∧ B.locs = A.locs ++ L ∧ B.cells = A.cells + rm.cells ∧ B.slots = A.slots + rm.slots ∧ CHr Z EL vm0 h B.U.vm B.U.heap ∧ (∀ x ∈ so, x < B.U.heap.size ∧ Safe Z EL B.U.vm B.U.heap x) ∧ (cw ∨ (s.setVm vm0).WarmedH B.U.vm)) :=
  BackS.of_freeW (bytes := bytes) (maxL := maxL) (ret := ret)
    (E := fun _ first o t L k n => k = rm.cells ∧ n = rm.slots ∧ ∃ v so, o = .returned v ∧ Q v t.heap so ∧ Old Z n0 t.heap ∧ Fr n0 L ∧ CHr Z EL first.vm first.heap t.vm t.heap ∧ (∀ x ∈ so, x < t.heap.size ∧ Safe Z EL t.vm t.heap x) ∧ (cw ∨ first.WarmedH t.vm))
    (M []) hf hl
    (fun m meth c A a Y hp => have hU : Z.Warmed39 A.U.vm := wtrans (s := s.setVm vm0) hZ Y.warmed
      ⟨by show (Cond.and _ .tt).before a A.U = true; rw [Cond.before_and, mv hU wc]; rfl, mv hU wc, mv hU wz, hp.2.2.1, hp.2.2.2⟩)
    (fun m meth c A a g mk Y hp => by
      have A1 := CHv.at Y hZ hEL H
      exact ⟨hp.1, wtrans (s := s.setVm vm0) hZ Y.warmed, hp.2.1, A1.1, fun x hx => ⟨(hs x hx).1, A1.safe (hs x hx).1 (hs x hx).2⟩⟩)
    (fun _ _ _ _ _ _ _ _ _ => trivial)
    (fun _ _ _ _ ⟨v, L, so, h1, h2, hO, h3, h4, h5, h6, h7⟩ => ⟨L, _, _, h6, rfl, rfl, v, so, h1, h2, hO, h3, h4, h5, h7.imp id (fun q => q.2.1)⟩)
    (fun m meth c A a g mk v t L k n Y hp _ _ ⟨e1, e2, v', so, e3, e4, eO, e5, e6, e7, e8⟩ => by
      cases e3; subst e1 e2
      refine ⟨L, so, e4, eO, e5, rfl, rfl, rfl, (CHv.at Y hZ hEL H).trans ?_, e7, e8.imp id (fun q => State.WarmedH.trans (t := A.U) Y.warmed q)⟩
      rw [← hp.2.1]; exact e6)
/-- behind a call -/
theorem Hs.behind {vm0 vm₁ : Vm} {k0 : Nat} {locs : List Loc} {B : Pt} {L' : List Loc} {so : List Addr} {kc ks : Nat} (H : Hs p l e R s m args below meth c Z a0 EL cw own n0 bytes maxL ret nm T h C S sf) (h2 : s.Since vm0 k0) (h3 : k0 ≤ h.size) (h4 : Z.Warmed39 vm0) (h5 : vm0.findClass own = some m.cls) (h6 : Fr n0 locs) (h7 : CHr Z EL s.vm s.heap vm0 h) (h8 : ∀ x ∈ sf, x < h.size ∧ Safe Z EL vm0 h x) (h9 : cw ∨ s.WarmedH vm0)
    (X' : Stand p l e R ((s.setVm vm0).setVm B.U.vm) m args below meth c B.U B.locs B.cells B.slots) (hS : (s.setVm vm0).Since B.U.vm B.U.heap.size) (hg : h.size ≤ B.U.heap.size) (r1 : Fr n0 L') (r2 : B.locs = locs ++ L') (r3 : B.cells = C + kc) (r4 : B.slots = S + ks) (r5 : CHr Z EL vm0 h B.U.vm B.U.heap) (r6 : ∀ x ∈ so, x < B.U.heap.size ∧ Safe Z EL B.U.vm B.U.heap x) (r7 : cw ∨ (s.setVm vm0).WarmedH B.U.vm) (rO : Old Z n0 B.U.heap) : Hs p l e R s m args below meth c Z a0 EL cw own n0 bytes maxL ret nm B.U B.U.heap (C + kc) (S + ks) (so ++ sf) := by
  obtain ⟨Y, y1, y2, y3⟩ := rebS (Z := Z) (own := own) h2 h3 X' hS hg h4 h5
  refine ⟨H.1, B.U.vm, B.U.heap.size, B.locs, by rw [← r3, ← r4]; exact Y, rfl, y1, Nat.le_refl _, y2, y3, by rw [r2]; exact Fr.app h6 r1, h7.trans r5, fun x hx => ?_, ?_, rO⟩
  · rcases List.mem_append.mp hx with hx | hx
    · exact r6 x hx
    · exact ⟨Nat.lt_of_lt_of_le (h8 x hx).1 hg, r5.safe (h8 x hx).1 (h8 x hx).2⟩
  · rcases h9 with q | q
    · exact Or.inl q
    · exact r7.imp id (fun r => State.WarmedH.trans (t := s.setVm vm0) q r)
theorem G.callS (H : Hs p l e R s m args below meth c Z a0 EL cw own n0 bytes maxL ret nm T h C S sf) {y : MethodName} {yb : ByteArray} {ym : Nat} {yr : Option FieldType} {rm : Room} {as' : Array Value} {sfI : List Addr} {Q : Option Value → Heap → List Addr → Prop} (M : Met Z a0 EL cw n0 l y yb ym yr rm as' h sfI Q) {index : Nat} (w1 : (Cond.methodLink own index y).before a0 Z = true) (w2 : (Cond.static y).before a0 Z = true) (wz : (Cond.initialized y.cls).before a0 Z = true) (wc : (Cond.code y yb ym yr).before a0 Z = true) (hy : y.cls ≠ "java/lang/invoke/MethodHandle" ∧ y.cls ≠ "java/lang/invoke/VarHandle")
    {argsL rest st : List Value} {W : Nat} {pc pc' : Nat} {L : Array Slot} (hL : L.size = maxL) (has : argsL.toArray = as') (hlen : ∀ sig, parseMethodDescriptor y.desc = some sig → argsL.length = sig.parameters.length) (hst : st = argsL.reverse ++ rest) (hW : (rest.map fun v => v.category).sum = W) (hd : decode bytes pc = .ok (.invokestatic index, 3)) (hp : pc + 3 = pc') (hf : rm.frames + 1 ≤ R.frames) (hl : W + (ym + 11) + rm.locals ≤ R.locals) (hc : C + rm.cells ≤ R.cells) (hsl : S + rm.slots ≤ R.slots) (hsf : ∀ x ∈ sfI, x ∈ sf)
    (k : ∀ T' h' v so, Hs p l e R s m args below meth c Z a0 EL cw own n0 bytes maxL ret nm T' h' (C + rm.cells) (S + rm.slots) (so ++ sf) → Q v h' so → Go p e below P (T'.setTop (mkF m pc' L (v.toList ++ rest)))) : Go p e below P (T.setTop (mkF m pc L st)) := by
  subst hp; subst has
  obtain ⟨hM, vm0, k0, locs, X, h1, h2, h3, h4, h5, h6, h7, h8, h9, hO⟩ := id H
  obtain ⟨v, vm₁, B, hw, X', hS, hg, ⟨L', so, q1, rO, r1, r2, r3, r4, r5, r6, r7⟩, st'⟩ := RoadKit.callSS X H.exec h5 (mvT (s := s.setVm vm0) h4 w1) (mvT (s := s.setVm vm0) h4 w2) (mvT (s := s.setVm vm0) h4 wz) (mvT (s := s.setVm vm0) h4 wc) hy (M.backS (W := W) hM.2.1 h4 wc wz hf hl h7.1 (fun x hx => h8 x (hsf x hx))) (g := mkF m pc L st) rfl (by rw [hM.2.2.2.1]; exact hL) hlen hst (by show 2 * 0 + _ ≤ _; omega) (H.dec hd) (fun _ _ => ⟨rfl, h1, hc, hsl⟩)
  rw [h1] at hg
  exact Go.tr st' (k _ _ v so (H.behind (vm₁ := vm₁) h2 h3 h4 h5 h6 h7 h8 h9 X' hS hg r1 r2 r3 r4 r5 r6 r7 rO) q1)
theorem G.callI (H : Hs p l e R s m args below meth c Z a0 EL cw own n0 bytes maxL ret nm T h C S sf) {y : MethodName} {yb : ByteArray} {ym : Nat} {rm : Room} {as' : Array Value} {sfI : List Addr} {Q : Option Value → Heap → List Addr → Prop} (M : Met Z a0 EL cw n0 l y yb ym none rm as' h sfI Q) {index : Nat} (hy1 : y.name = "<init>") (w1 : (Cond.methodLink own index y).before a0 Z = true) (w2 : (Cond.instanceMethod y).before a0 Z = true) (wz : (Cond.initialized y.cls).before a0 Z = true) (wc : (Cond.code y yb ym none).before a0 Z = true) (hy : y.cls ≠ "java/lang/invoke/MethodHandle" ∧ y.cls ≠ "java/lang/invoke/VarHandle")
    {a : Addr} {argsL rest st : List Value} {W : Nat} {pc pc' : Nat} {L : Array Slot} (hL : L.size = maxL) (has : (Value.ref a :: argsL).toArray = as') (hlen : ∀ sig, parseMethodDescriptor y.desc = some sig → argsL.length = sig.parameters.length) (hst : st = argsL.reverse ++ .ref a :: rest) (hW : (rest.map fun v => v.category).sum = W) (hd : decode bytes pc = .ok (.invokespecial index, 3)) (hp : pc + 3 = pc') (hf : rm.frames + 1 ≤ R.frames) (hl : W + (ym + 11) + rm.locals ≤ R.locals) (hc : C + rm.cells ≤ R.cells) (hsl : S + rm.slots ≤ R.slots) (hsf : ∀ x ∈ sfI, x ∈ sf)
    (k : ∀ T' h' v so, Hs p l e R s m args below meth c Z a0 EL cw own n0 bytes maxL ret nm T' h' (C + rm.cells) (S + rm.slots) (so ++ sf) → Q v h' so → Go p e below P (T'.setTop (mkF m pc' L (v.toList ++ rest)))) : Go p e below P (T.setTop (mkF m pc L st)) := by
  subst hp; subst has
  obtain ⟨hM, vm0, k0, locs, X, h1, h2, h3, h4, h5, h6, h7, h8, h9, hO⟩ := id H
  obtain ⟨v, vm₁, B, hw, X', hS, hg, ⟨L', so, q1, rO, r1, r2, r3, r4, r5, r6, r7⟩, st'⟩ := X.specialBackS H.exec hy1 h5 (mvT (s := s.setVm vm0) h4 w1) (mvT (s := s.setVm vm0) h4 w2) (mvT (s := s.setVm vm0) h4 wc) hy (M.backS (W := W) hM.2.1 h4 wc wz hf hl h7.1 (fun x hx => h8 x (hsf x hx))) (g := mkF m pc L st) rfl (by rw [hM.2.2.2.1]; exact hL) (Steps.refl _) (a := a) hlen hst (by show 2 * 0 + _ ≤ _; omega) (H.dec hd) (fun _ _ => ⟨rfl, h1, hc, hsl⟩)
  rw [h1] at hg
  exact Go.tr st' (k _ _ v so (H.behind (vm₁ := vm₁) h2 h3 h4 h5 h6 h7 h8 h9 X' hS hg r1 r2 r3 r4 r5 r6 r7 rO) q1)
theorem G.callV (H : Hs p l e R s m args below meth c Z a0 EL cw own n0 bytes maxL ret nm T h C S sf) {y z : MethodName} {D : String} {yb : ByteArray} {ym : Nat} {yr : Option FieldType} {rm : Room} {as' : Array Value} {sfI : List Addr} {Q : Option Value → Heap → List Addr → Prop} (M : Met Z a0 EL cw n0 l z yb ym yr rm as' h sfI Q) {index : Nat} (w1 : (Cond.methodLink own index y).before a0 Z = true) (w2 : (Cond.declares y).before a0 Z = true) (wn : ∀ s' : State, Z.Warmed39 s'.vm → NotFace s' y) (w3 : (Cond.selects D y z).before a0 Z = true) (w4 : (Cond.instanceMethod z).before a0 Z = true) (wz : (Cond.initialized z.cls).before a0 Z = true) (wc : (Cond.code z yb ym yr).before a0 Z = true) (hy : y.cls ≠ "java/lang/invoke/MethodHandle" ∧ y.cls ≠ "java/lang/invoke/VarHandle")
    {a : Addr} (E : Exa Z h a D) {argsL rest st : List Value} {W : Nat} {pc pc' : Nat} {L : Array Slot} (hL : L.size = maxL) (has : (Value.ref a :: argsL).toArray = as') (hlen : ∀ sig, parseMethodDescriptor y.desc = some sig → argsL.length = sig.parameters.length) (hst : st = argsL.reverse ++ .ref a :: rest) (hW : (rest.map fun v => v.category).sum = W) (hd : decode bytes pc = .ok (.invokevirtual index, 3)) (hp : pc + 3 = pc') (hf : rm.frames + 1 ≤ R.frames) (hl : W + (ym + 11) + rm.locals ≤ R.locals) (hc : C + rm.cells ≤ R.cells) (hsl : S + rm.slots ≤ R.slots) (hsf : ∀ x ∈ sfI, x ∈ sf)
    (k : ∀ T' h' v so, Hs p l e R s m args below meth c Z a0 EL cw own n0 bytes maxL ret nm T' h' (C + rm.cells) (S + rm.slots) (so ++ sf) → Q v h' so → Go p e below P (T'.setTop (mkF m pc' L (v.toList ++ rest)))) : Go p e below P (T.setTop (mkF m pc L st)) := by
  subst hp; subst has
  obtain ⟨hM, vm0, k0, locs, X, h1, h2, h3, h4, h5, h6, h7, h8, h9, hO⟩ := id H
  obtain ⟨cq, kq, qa, qb, qc⟩ := isOf (s := s.setVm vm0) h4 h1 E
  obtain ⟨v, vm₁, B, hw, X', hS, hg, ⟨L', so, q1, rO, r1, r2, r3, r4, r5, r6, r7⟩, st'⟩ := X.virtualBackS H.exec h5 (mvT (s := s.setVm vm0) h4 w1) (mvT (s := s.setVm vm0) h4 w2) (wn (s.setVm vm0) h4) (mvT (s := s.setVm vm0) h4 w3) (mvT (s := s.setVm vm0) h4 w4) hy (M.backS (W := W) hM.2.1 h4 wc wz hf hl h7.1 (fun x hx => h8 x (hsf x hx))) qa qc (g := mkF m pc L st) rfl (by rw [hM.2.2.2.1]; exact hL) (Steps.refl _) hlen hst (by show 2 * 0 + _ ≤ _; omega) (H.dec hd) (fun _ _ => ⟨rfl, h1, hc, hsl⟩)
  rw [h1] at hg
  exact Go.tr st' (k _ _ v so (H.behind (vm₁ := vm₁) h2 h3 h4 h5 h6 h7 h8 h9 X' hS hg r1 r2 r3 r4 r5 r6 r7 rO) q1)
theorem nf_sel {y : MethodName} {D : String} (w : (Cond.selects D y y).before a0 Z = true) : ∀ s' : State, Z.Warmed39 s'.vm → NotFace s' y := fun s' hZ => notFace_of_selects (args := #[]) (mvT (s := s') hZ w)
/-! ## numbers -/
theorem own_and255 (x : Int32) : ¬ (x &&& 255) < 0 ∧ ¬ (255 : Int32) < (x &&& 255) := by
  have h : (x &&& 255).toBitVec.toNat < 256 := by
    simp only [Int32.toBitVec_and, BitVec.toNat_and]
    exact Nat.lt_succ_of_le Nat.and_le_right
  have h2 : (x &&& 255).toInt = ((x &&& 255).toBitVec.toNat : Int) := by
    show (x &&& 255).toBitVec.toInt = _
    rw [BitVec.toInt_eq_toNat_of_lt (by omega)]
  rw [Int32.lt_iff_toInt_lt, Int32.lt_iff_toInt_lt, h2]
  have e0 : (0 : Int32).toInt = 0 := rfl
  have e1 : (255 : Int32).toInt = 255 := rfl
  omega
theorem own_u16 {x : Int32} (h : ¬ x < 0 ∧ ¬ (255 : Int32) < x) : ¬ x < 0 ∧ ¬ (65535 : Int32) < x := by
  obtain ⟨h0, h1⟩ := h
  rw [Int32.lt_iff_toInt_lt] at h0 h1
  refine ⟨by rw [Int32.lt_iff_toInt_lt]; exact h0, ?_⟩
  rw [Int32.lt_iff_toInt_lt]
  have e1 : (255 : Int32).toInt = 255 := rfl
  have e2 : (65535 : Int32).toInt = 65535 := rfl
  omega
theorem own_c16 {x : Int32} (h : ¬ x < 0 ∧ ¬ (65535 : Int32) < x) : x.toUInt32.toUInt16.toUInt32.toInt32 = x := by
  obtain ⟨h0, h1⟩ := h
  rw [Int32.lt_iff_toInt_lt] at h0 h1
  have e0 : (0 : Int32).toInt = 0 := rfl
  have e2 : (65535 : Int32).toInt = 65535 := rfl
  have hb : x.toBitVec.toNat < 65536 := by
    have q : x.toBitVec.toInt = x.toInt := rfl
    have r := BitVec.toInt_eq_toNat_cond x.toBitVec
    split at r <;> omega
  apply Int32.toBitVec_inj.mp
  apply BitVec.eq_of_toNat_eq
  have e : x.toUInt32.toUInt16.toUInt32.toInt32.toBitVec.toNat = x.toUInt32.toUInt16.toUInt32.toNat := rfl
  rw [e, UInt16.toNat_toUInt32, UInt32.toNat_toUInt16]
  show x.toBitVec.toNat % 2 ^ 16 = _
  omega
theorem own_narC {x : Int32} (h : ¬ x < 0 ∧ ¬ (65535 : Int32) < x) : nar .char x = x := own_c16 h
theorem own_bool {x : Int32} (h : x = 0 ∨ x = 1) : nar .boolean x = x := by rcases h with rfl | rfl <;> rfl
theorem own_and255L (x : Int64) : ¬ (x &&& 255).toInt32 < 0 ∧ ¬ (255 : Int32) < (x &&& 255).toInt32 := by
  have h : (x &&& 255).toBitVec.toNat < 256 := by
    simp only [Int64.toBitVec_and, BitVec.toNat_and]
    exact Nat.lt_succ_of_le Nat.and_le_right
  have h1 : (x &&& 255).toInt32.toBitVec.toNat = (x &&& 255).toBitVec.toNat := by
    rw [Int64.toBitVec_toInt32, BitVec.signExtend_eq_setWidth_of_le _ (by decide), BitVec.toNat_setWidth]
    exact Nat.mod_eq_of_lt (by omega)
  have h2 : (x &&& 255).toInt32.toInt = ((x &&& 255).toInt32.toBitVec.toNat : Int) := by
    show (x &&& 255).toInt32.toBitVec.toInt = _
    rw [BitVec.toInt_eq_toNat_of_lt (by omega)]
  rw [Int32.lt_iff_toInt_lt, Int32.lt_iff_toInt_lt, h2, h1]
  have e0 : (0 : Int32).toInt = 0 := rfl
  have e1 : (255 : Int32).toInt = 255 := rfl
  omega
theorem own_rem {x : Int32} {k : Int32} (hk : 0 < k.toInt) : 0 ≤ ((x &&& 2147483647) % k).toInt ∧ ((x &&& 2147483647) % k).toInt < k.toInt := by
  have h : (x &&& 2147483647).toBitVec.toNat < 2 ^ 31 := by
    simp only [Int32.toBitVec_and, BitVec.toNat_and]
    exact Nat.lt_of_le_of_lt Nat.and_le_right (by decide)
  have h2 : (x &&& 2147483647).toInt = ((x &&& 2147483647).toBitVec.toNat : Int) := by
    show (x &&& 2147483647).toBitVec.toInt = _
    rw [BitVec.toInt_eq_toNat_of_lt (by omega)]
  rw [Int32.toInt_mod, h2]
  exact ⟨Int.tmod_nonneg _ (by omega), Int.tmod_lt_of_pos _ hk⟩
/-! ## small words -/
theorem sto_of {a y : Addr} {kc : ClassId} {ty : FieldType} {z : Int32} {vs : List Value} {dv : Value} {K : String} (A : Arv Z h a kc ty z vs dv) (O : Ovr Z kc K) (I : Ins Z h y K true) : Sto Z h a (.ref y) := by
  obtain ⟨cl, Ar, q, -⟩ := A; exact Sto.ofV Ar q O I
theorem own_pnZ {x : Int32} (h : x = 0 ∨ x = 1) : narrow .boolean (.int x) = .int x := by rcases h with rfl | rfl <;> rfl
theorem own_pfZ {x : Int32} (h : x = 0 ∨ x = 1) : fits .boolean (.int x) = true := by rcases h with rfl | rfl <;> rfl
theorem own_pnC {x : Int32} (h : ¬ x < 0 ∧ ¬ (65535 : Int32) < x) : narrow .char (.int x) = .int x := by
  show Value.int (x.toUInt32.toUInt16.toUInt32.toInt32) = _; rw [own_c16 h]
theorem own_pfC {x : Int32} (h : ¬ x < 0 ∧ ¬ (65535 : Int32) < x) : fits .char (.int x) = true := by
  have q := fits_nar_char x; rw [own_narC h] at q; exact q
theorem own_pnA {v : Value} {ty : FieldType} (hv : v.isRef = true) (ht : ty.isReference = true) : narrow ty v = v := by
  rcases ref_cases hv with rfl | ⟨a, rfl⟩ <;> cases ty <;> first | rfl | cases ht
theorem own_pfA {v : Value} {ty : FieldType} (hv : v.isRef = true) (ht : ty.isReference = true) : fits ty v = true := by
  rcases ref_cases hv with rfl | ⟨a, rfl⟩ <;> cases ty <;> first | rfl | cases ht
theorem cb0 : ∀ c ∈ ([] : List Int32), ¬ c < 0 ∧ ¬ (255 : Int32) < c := fun _ q => nomatch q
theorem cbS {x : Int32} {xs : List Int32} (q : ¬ x < 0 ∧ ¬ (255 : Int32) < x) (r : ∀ c ∈ xs, ¬ c < 0 ∧ ¬ (255 : Int32) < c) : ∀ c ∈ x :: xs, ¬ c < 0 ∧ ¬ (255 : Int32) < c := fun c hc => by
  rcases List.mem_cons.mp hc with rfl | hc
  · exact q
  · exact r c hc
/-- a Latin-1 String and its bytes -/
def Str (Z : State) (h : Heap) (a t : Addr) (kb : ClassId) (cs : List Int32) : Prop :=
  Exa Z h a "java/lang/String" ∧ Fld Z h a "java/lang/String" "coder" "B" (.int 0) ∧ Fld Z h a "java/lang/String" "value" "[B" (.ref t) ∧ Arv Z h t kb .byte (Int32.ofNat cs.length) (cs.map fun c => Value.int c.toInt8.toInt32) (.int 0) ∧ (∀ c ∈ cs, ¬ c < 0 ∧ ¬ (255 : Int32) < c) ∧ cs.length ≤ 4000
theorem Str.ext {h' : Heap} {a t : Addr} {kb : ClassId} {cs : List Int32} (E : Ext h h') (F : Str Z h a t kb cs) : Str Z h' a t kb cs := ⟨F.1.ext E, F.2.1.ext E, F.2.2.1.ext E, F.2.2.2.1.ext E, F.2.2.2.2⟩
theorem Str.keep {h' : Heap} {a t : Addr} {kb : ClassId} {cs : List Int32} {ws : List Addr} (F : Str Z h a t kb cs) (K : Keep h h' ws) (q : a ∉ ws) (r : t ∉ ws) : Str Z h' a t kb cs := ⟨F.1.keep K, F.2.1.keep K q, F.2.2.1.keep K q, F.2.2.2.1.keep K r, F.2.2.2.2⟩
theorem Str.other {h' : Heap} {a t w : Addr} {sl : Nat} {v : Value} {kb : ClassId} {cs : List Int32} (W : Wr h h' w sl v) (F : Str Z h a t kb cs) (q : a ≠ w) (r : t ≠ w) : Str Z h' a t kb cs := ⟨F.1.wr W, F.2.1.other W (Or.inl q), F.2.2.1.other W (Or.inl q), F.2.2.2.1.other W r, F.2.2.2.2⟩
theorem own_fldeq {args : Array Value} {t : Term} {K n d : String} {i : Int32} {x : Addr} (ev : t.eval args Z none [] Z = some (.ref x)) (hq : (Cond.eq (Term.field t K n d) (Term.int i)).value args Z none Z [] = some true) : Fld Z Z.heap x K n d (.int i) := by
  obtain ⟨u, w, hu, hw, k1, k2⟩ := cmp_v (Or.inl hq)
  have e1 : (Term.int i).eval args Z none [] Z = some (.int i) := Term.int_eval i
  cases e1.symm.trans hw
  obtain ⟨z, rfl⟩ := k2
  have e2 : z = i := gotT (Cond.eq_ints hu e1) hq
  subst e2
  exact Fld.start ((fld_at ev).symm.trans hu)
theorem arv_tyne {a b : Addr} {k1 k2 : ClassId} {t1 t2 : FieldType} {z1 z2 : Int32} {v1 v2 : List Value} {d1 d2 : Value} (A : Arv Z h a k1 t1 z1 v1 d1) (B : Arv Z h b k2 t2 z2 v2 d2) (q : t1 ≠ t2) : a ≠ b := fun e => by
  subst e
  obtain ⟨c1, ⟨a1, ⟨a2, kA, a3, compA, a4⟩, -⟩, -⟩ := A
  obtain ⟨c2, ⟨b1, ⟨b2, kB, b3, compB, b4⟩, -⟩, -⟩ := B
  cases a1.symm.trans b1
  cases a3.symm.trans b3
  have := a4.symm.trans b4
  injection this with _ e
  exact q e
/-! ## a call that a law of the pasted kind pays, the heap as it was -/
theorem G.pureV (H : Hs p l e R s m args below meth c Z a0 EL cw own n0 bytes maxL ret nm T h C S sf) {y : MethodName} {D : String} {Qv : Option Value → Prop} {as' : Array Value} {W : Nat} (hB : ∀ s' : State, Z.Warmed39 s'.vm → Back l R p e below s' args y 3 W (fun P a => a = as' ∧ P.U.heap = h ∧ P.cells + 0 ≤ R.cells ∧ P.slots + 0 ≤ R.slots) (fun P _ v B => ∃ L, (Qv v ∧ L = [] ∧ B.U.heap = h) ∧ B.locs = P.locs ++ L ∧ B.cells = P.cells + 0 ∧ B.slots = P.slots + 0))
    {index : Nat} (w1 : (Cond.methodLink own index y).before a0 Z = true) (w2 : (Cond.declares y).before a0 Z = true) (w3 : (Cond.selects D y y).before a0 Z = true) (w4 : (Cond.instanceMethod y).before a0 Z = true) (hy : y.cls ≠ "java/lang/invoke/MethodHandle" ∧ y.cls ≠ "java/lang/invoke/VarHandle")
    {a : Addr} (E : Exa Z h a D) {argsL rest st : List Value} {pc pc' : Nat} {L : Array Slot} (hL : L.size = maxL) (has : (Value.ref a :: argsL).toArray = as') (hlen : ∀ sig, parseMethodDescriptor y.desc = some sig → argsL.length = sig.parameters.length) (hst : st = argsL.reverse ++ .ref a :: rest) (hW : (rest.map fun v => v.category).sum = W) (hd : decode bytes pc = .ok (.invokevirtual index, 3)) (hp : pc + 3 = pc') (hc : C ≤ R.cells) (hsl : S ≤ R.slots)
    (k : ∀ T' v, Hs p l e R s m args below meth c Z a0 EL cw own n0 bytes maxL ret nm T' h C S sf → Qv v → Go p e below P (T'.setTop (mkF m pc' L (v.toList ++ rest)))) : Go p e below P (T.setTop (mkF m pc L st)) := by
  subst hp; subst has
  obtain ⟨hM, vm0, k0, locs, X, h1, h2, h3, h4, h5, h6, h7, h8, h9, hO⟩ := id H
  obtain ⟨cq, kq, qa, qb, qc⟩ := isOf (s := s.setVm vm0) h4 h1 E
  obtain ⟨v, vm₁, B, hw, X', ⟨L', ⟨q1, q2, q3⟩, r2, r3, r4⟩, st'⟩ := X.virtualBack H.exec h5 (mvT (s := s.setVm vm0) h4 w1) (mvT (s := s.setVm vm0) h4 w2) (notFace_of_selects (args := #[]) (mvT (s := s.setVm vm0) h4 w3)) (mvT (s := s.setVm vm0) h4 w3) (mvT (s := s.setVm vm0) h4 w4) hy (hB (s.setVm vm0) h4) qa qc (g := mkF m pc L st) rfl (by rw [hM.2.2.2.1]; exact hL) (Steps.refl _) hlen hst (by show 2 * 0 + _ ≤ _; omega) (H.dec hd) (fun _ _ => ⟨rfl, h1, hc, hsl⟩)
  subst q2
  refine Go.tr st' (k B.U v ⟨hM, vm0, k0, locs, ?_, q3, h2, h3, h4, h5, h6, h7, h8, h9, hO⟩ q1)
  have e1 : B.locs = locs := by rw [r2]; exact List.append_nil _
  have e2 : B.cells = C := r3
  have e3 : B.slots = S := r4
  rw [← e1, ← e2, ← e3]; exact X'
end Kit
end Jvm.OwnKit
/- laws to paste: Road.backV (cut by pick.py; bodies as the Statement names them) -/
namespace Jvm.Pilot.@@N@@
namespace StrChars
open Jvm Sem ClassFile Op Lib Jvm.Stand Jvm.Free.XT Jvm.Free.ALB Jvm.Free.JM Jvm.Free
open Jvm.Lib.Cold (StaticIs)
/-- a char array whose places are chars -/
def Ch (a : Addr) (A : Cell) (U : State) : Prop := Arr .char a A U ∧ Typed .char A
theorem Ch.mv {a : Addr} {A : Cell} {U U' : State} (h : Ch a A U) (hal : U.vm.Alike U'.vm) (hh : U'.heap = U.heap) : Ch a A U' := ⟨h.1.mv hal hh, h.2⟩
theorem Ch.keep {a : Addr} {A : Cell} {U U' : State} (h : Ch a A U) (hal : U.vm.Alike U'.vm) (hk : U'.heap[a]? = some A) : Ch a A U' := ⟨h.1.keep hal hk, h.2⟩
/-- what place i of a char[]'s cell holds -/
def cv (A : Cell) (i : Nat) : Int32 := match A.slots[i]? with | some (.int x) => x | _ => 0
theorem Ch.get {a : Addr} {A : Cell} {U : State} (h : Ch a A U) {i : Nat} (hi : i < A.slots.size) : A.slots[i]? = some (.int (cv A i)) := by
  have e := Array.getElem?_eq_getElem hi
  have f := h.2 i _ e
  unfold cv; rw [e]
  generalize A.slots[i] = v at f
  cases v <;> simp [fits] at f ⊢
/-- the byte that i2b leaves of a char -/
def lo8 (x : Int32) : Int32 := x.toInt8.toInt32
theorem fits_lo8 (y : Int32) : fits .byte (.int (lo8 y)) = true := by
  have h1 := y.toInt8.le_toInt
  have h2 := y.toInt8.toInt_lt
  simp only [lo8, fits, Bool.and_eq_true, decide_eq_true_eq, Int32.le_iff_toInt_le, Int8.toInt_toInt32, show (-128 : Int32).toInt = -128 from by decide, show (127 : Int32).toInt = 127 from by decide]
  omega
/-- A' is A but that each place j of lo .. hi - 1 holds f j -/
def Laid (A A' : Cell) (lo hi : Nat) (f : Nat → Value) : Prop := A'.cls = A.cls ∧ A'.vm = A.vm ∧ A'.slots.size = A.slots.size ∧ ∀ i, A'.slots[i]? = if lo ≤ i ∧ i < hi then some (f i) else A.slots[i]?
theorem Laid.zero (A : Cell) (lo : Nat) (f : Nat → Value) : Laid A A lo (lo + 0) f := ⟨rfl, rfl, rfl, fun i => by rw [if_neg (by omega)]⟩
theorem Laid.step {A Ak : Cell} {lo k : Nat} {f : Nat → Value} {v : Value} (h : Laid A Ak lo k f) (hlo : lo ≤ k) (hk : k < Ak.slots.size) (hv : v = f k) : Laid A (Ak.setSlot k v) lo (k + 1) f := by
  refine ⟨h.1, h.2.1, by simpa [Cell.setSlot] using h.2.2.1, fun i => ?_⟩
  by_cases e : k = i
  · subst e; rw [Cell.slots_setSlot_self v hk, if_pos (by omega), hv]
  · rw [Cell.slots_setSlot_ne v e, h.2.2.2 i]
    by_cases q : lo ≤ i ∧ i < k
    · rw [if_pos q, if_pos (by omega)]
    · rw [if_neg q, if_neg (by omega)]
def U16 : String := "java/lang/StringUTF16"
namespace Cmp5
def yN : MethodName := ⟨"java/lang/StringUTF16", "compress", "([CI[BII)I"⟩
abbrev yB : ByteArray := jdk_52_method_21_code
theorem d0 : decode yB 0 = .ok (.iconst 0, 1) := by decide +kernel
theorem d1 : decode yB 1 = .ok (.istore 5, 2) := by decide +kernel
theorem d3 : decode yB 3 = .ok (.iload 5, 2) := by decide +kernel
theorem d5 : decode yB 5 = .ok (.iload 4, 2) := by decide +kernel
theorem d7 : decode yB 7 = .ok (.if_icmp (.ge) 37, 3) := by decide +kernel
theorem d10 : decode yB 10 = .ok (.aload_n 0, 1) := by decide +kernel
theorem d11 : decode yB 11 = .ok (.iload_n 1, 1) := by decide +kernel
theorem d12 : decode yB 12 = .ok (.caload, 1) := by decide +kernel
theorem d13 : decode yB 13 = .ok (.istore 6, 2) := by decide +kernel
theorem d15 : decode yB 15 = .ok (.iload 6, 2) := by decide +kernel
theorem d17 : decode yB 17 = .ok (.sipush 255, 3) := by decide +kernel
theorem d20 : decode yB 20 = .ok (.if_icmp (.le) 6, 3) := by decide +kernel
theorem d26 : decode yB 26 = .ok (.aload_n 2, 1) := by decide +kernel
theorem d27 : decode yB 27 = .ok (.iload_n 3, 1) := by decide +kernel
theorem d28 : decode yB 28 = .ok (.iload 6, 2) := by decide +kernel
theorem d30 : decode yB 30 = .ok (.i2b, 1) := by decide +kernel
theorem d31 : decode yB 31 = .ok (.bastore, 1) := by decide +kernel
theorem d32 : decode yB 32 = .ok (.iinc 1 1, 3) := by decide +kernel
theorem d35 : decode yB 35 = .ok (.iinc 3 1, 3) := by decide +kernel
theorem d38 : decode yB 38 = .ok (.iinc 5 1, 3) := by decide +kernel
theorem d41 : decode yB 41 = .ok (.goto (-38), 3) := by decide +kernel
theorem d44 : decode yB 44 = .ok (.iload 4, 2) := by decide +kernel
theorem d46 : decode yB 46 = .ok (.ireturn, 1) := by decide +kernel
def site : List Cond := []
def tab : Cond := tabOf yN yB 7 (some .int) site
def P (b : Addr) (A : Cell) (d : Addr) (B : Cell) (o q len : Nat) (args : Array Value) (s : State) : Prop := args = #[.ref b, .int (Int32.ofNat o), .ref d, .int (Int32.ofNat q), .int (Int32.ofNat len)] ∧ Ch b A s ∧ Arr .byte d B s ∧ b ≠ d ∧ o + len ≤ A.slots.size ∧ q + len ≤ B.slots.size ∧ ∀ i, i < len → ¬ 255 < cv A (o + i)
def E (b : Addr) (A : Cell) (d : Addr) (B : Cell) (o q len : Nat) (r : Option Value) (s u : State) : Prop := r = some (.int (Int32.ofNat len)) ∧ ∃ B', Put d B' s u ∧ Laid B B' q (q + len) (fun j => Value.int (lo8 (cv A (o + (j - q)))))
/-- no char of the range above 255: len; the places written hold each char's low byte -/
theorem law (l : Launch) (b : Addr) (A : Cell) (d : Addr) (B : Cell) (o q len : Nat) : Law l yN 5 5 0 0 yB 7 (some .int) site (P b A d B o q len) (E b A d B o q len) (copyLocs d q len) 0 0 := by
  refine Law.of_walk (plainFor_of_name (by decide +kernel)) (by decide +kernel) (by decide +kernel) (by decide) (fun _ _ h => by rw [h.1]; rfl) (fun _ U U' hal hh h => ⟨h.1, h.2.1.mv hal hh, h.2.2.1.mv hal hh, h.2.2.2⟩) (fun r U U' V V' h1 hal h2 h => ⟨h.1, h.2.elim fun B' q => ⟨B', q.1.mv h1 h2, q.2⟩⟩) ?_
  intro p e s m args below meth c s₁ X0 hexec hbytes hml hret hlk hnm hown hh0 W hP
  obtain ⟨rfl, hA, hB, hne, l1, l2, hp⟩ := hP
  have c1 : Steps p.tables e below (s₁.setTop (entryFrame m #[.ref b, .int (Int32.ofNat o), .ref d, .int (Int32.ofNat q), .int (Int32.ofNat len)] 7)) (s₁.setTop (mkF m 0 #[.val (.ref b), .val (.int (Int32.ofNat o)), .val (.ref d), .val (.int (Int32.ofNat q)), .val (.int (Int32.ofNat len)), .unset, .unset] [])) := entry rfl
  have hA0 := hA.1.mv X0.warmed.alike hh0
  have hB0 := hB.mv X0.warmed.alike hh0
  have a31 := hA.1.2.2.2
  have c2 : Steps p.tables e below (s₁.setTop (entryFrame m #[.ref b, .int (Int32.ofNat o), .ref d, .int (Int32.ofNat q), .int (Int32.ofNat len)] 7)) (s₁.setTop (mkF m 3 #[.val (.ref b), .val (.int (Int32.ofNat o)), .val (.ref d), .val (.int (Int32.ofNat q)), .val (.int (Int32.ofNat len)), .val (.int 0), .unset] [])) := c1.trans (by
    refine iconstV X0.here hexec rfl 0 (hb hbytes d0) (by decide) ?_
    refine XS.istore X0.here hexec rfl (hb hbytes d1) rfl rfl ?_
    exact Steps.refl _)
  have loop : ∀ (r i : Nat), i + r = len → ∀ (z : Slot), (z = .unset ∨ ∃ w, z = .val w ∧ w.category = 1) → ∀ (Tl : State) (Bk : Cell), Stand p l e { frames := 0, locals := 0, cells := 0, slots := 0 } s m #[.ref b, .int (Int32.ofNat o), .ref d, .int (Int32.ofNat q), .int (Int32.ofNat len)] below meth c Tl ([] ++ copyLocs d q i) 0 0 → Put d Bk s₁ Tl → Laid B Bk q (q + i) (fun j => Value.int (lo8 (cv A (o + (j - q))))) →
      Steps p.tables e below (s₁.setTop (entryFrame m #[.ref b, .int (Int32.ofNat o), .ref d, .int (Int32.ofNat q), .int (Int32.ofNat len)] 7)) (Tl.setTop (mkF m 3 #[.val (.ref b), .val (.int (Int32.ofNat (o + i))), .val (.ref d), .val (.int (Int32.ofNat (q + i))), .val (.int (Int32.ofNat len)), .val (.int (Int32.ofNat i)), z] [])) → ∃ (T' : State) (B' : Cell) (z' : Slot), Stand p l e { frames := 0, locals := 0, cells := 0, slots := 0 } s m #[.ref b, .int (Int32.ofNat o), .ref d, .int (Int32.ofNat q), .int (Int32.ofNat len)] below meth c T' ([] ++ copyLocs d q len) 0 0 ∧ Put d B' s₁ T' ∧ Laid B B' q (q + len) (fun j => Value.int (lo8 (cv A (o + (j - q))))) ∧
      Steps p.tables e below (s₁.setTop (entryFrame m #[.ref b, .int (Int32.ofNat o), .ref d, .int (Int32.ofNat q), .int (Int32.ofNat len)] 7)) (T'.setTop (mkF m 3 #[.val (.ref b), .val (.int (Int32.ofNat (o + len))), .val (.ref d), .val (.int (Int32.ofNat (q + len))), .val (.int (Int32.ofNat len)), .val (.int (Int32.ofNat len)), z'] [])) := by
    intro r
    induction r with
    | zero =>
      intro i hi z hz Tl Bk Xl pl fl cl
      have hil : i = len := by omega
      rw [hil] at Xl fl cl
      exact ⟨Tl, Bk, z, Xl, pl, fl, cl⟩
    | succ r ih =>
      intro i hi z hz Tl Bk Xl pl fl cl
      have all := X0.warmed.alike.symm.trans Xl.warmed.alike
      have hAl := hA0.keep all (pl.other hne hA0.1)
      have hBk := hB0.like all pl.1 fl.1 fl.2.1 fl.2.2.1
      have hlt : q + i < Bk.slots.size := by rw [fl.2.2.1]; omega
      have c3 : Steps p.tables e below (s₁.setTop (entryFrame m #[.ref b, .int (Int32.ofNat o), .ref d, .int (Int32.ofNat q), .int (Int32.ofNat len)] 7)) (Tl.setTop (mkF m 12 #[.val (.ref b), .val (.int (Int32.ofNat (o + i))), .val (.ref d), .val (.int (Int32.ofNat (q + i))), .val (.int (Int32.ofNat len)), .val (.int (Int32.ofNat i)), z] [.int (Int32.ofNat (o + i)), .ref b])) := cl.trans (by
        refine XS.iload Xl.here hexec rfl (hb hbytes d3) rfl ?_
        refine XS.iload Xl.here hexec rfl (hb hbytes d5) rfl ?_
        refine XS.icmpNo Xl.here hexec rfl (hb hbytes d7) rfl (ii_ge_f (lt32 (by omega) (by omega))) ?_
        refine XS.aloadN Xl.here hexec rfl (hb hbytes d10) rfl rfl ?_
        refine XS.iloadN Xl.here hexec rfl (hb hbytes d11) rfl ?_
        exact Steps.refl _)
      have c4 : Steps p.tables e below (s₁.setTop (entryFrame m #[.ref b, .int (Int32.ofNat o), .ref d, .int (Int32.ofNat q), .int (Int32.ofNat len)] 7)) (Tl.setTop (mkF m 13 #[.val (.ref b), .val (.int (Int32.ofNat (o + i))), .val (.ref d), .val (.int (Int32.ofNat (q + i))), .val (.int (Int32.ofNat len)), .val (.int (Int32.ofNat i)), z] [.int (cv A (o + i))])) := c3.trans (by
        refine Xl.aget hexec hAl rfl (hA.get (i := o + i) (by omega)) rfl rfl (hb hbytes d12) ?_
        exact Steps.refl _)
      have c5 : Steps p.tables e below (s₁.setTop (entryFrame m #[.ref b, .int (Int32.ofNat o), .ref d, .int (Int32.ofNat q), .int (Int32.ofNat len)] 7)) (Tl.setTop (mkF m 15 #[.val (.ref b), .val (.int (Int32.ofNat (o + i))), .val (.ref d), .val (.int (Int32.ofNat (q + i))), .val (.int (Int32.ofNat len)), .val (.int (Int32.ofNat i)), .val (.int (cv A (o + i)))] [])) := c4.trans (by
        refine XS.istoreS Xl.here hexec rfl (hb hbytes d13) rfl rfl hz ?_
        exact Steps.refl _)
      have c6 : Steps p.tables e below (s₁.setTop (entryFrame m #[.ref b, .int (Int32.ofNat o), .ref d, .int (Int32.ofNat q), .int (Int32.ofNat len)] 7)) (Tl.setTop (mkF m 31 #[.val (.ref b), .val (.int (Int32.ofNat (o + i))), .val (.ref d), .val (.int (Int32.ofNat (q + i))), .val (.int (Int32.ofNat len)), .val (.int (Int32.ofNat i)), .val (.int (cv A (o + i)))] [.int (lo8 (cv A (o + i))), .int (Int32.ofNat (q + i)), .ref d])) := c5.trans (by
        refine XS.iload Xl.here hexec rfl (hb hbytes d15) rfl ?_
        refine sipushV Xl.here hexec rfl 255 (hb hbytes d17) (by decide) ?_
        refine XS.icmpYes Xl.here hexec rfl (pc0 := 20) rfl (hb hbytes d20) rfl (ii_le_t (hp i (by omega))) (by decide) rfl ?_
        refine XS.aloadN Xl.here hexec rfl (hb hbytes d26) rfl rfl ?_
        refine XS.iloadN Xl.here hexec rfl (hb hbytes d27) rfl ?_
        refine XS.iload Xl.here hexec rfl (hb hbytes d28) rfl ?_
        refine i2b Xl.here hexec rfl (hb hbytes d30) rfl ?_
        exact Steps.refl _)
      obtain ⟨T7, X7, p7, st7⟩ := Xl.aput hexec hBk rfl hlt rfl (fits_lo8 (cv A (o + i))) (g := (mkF m 31 #[.val (.ref b), .val (.int (Int32.ofNat (o + i))), .val (.ref d), .val (.int (Int32.ofNat (q + i))), .val (.int (Int32.ofNat len)), .val (.int (Int32.ofNat i)), .val (.int (cv A (o + i)))] [.int (lo8 (cv A (o + i))), .int (Int32.ofNat (q + i)), .ref d])) rfl (rest := []) rfl (hb hbytes d31)
      have c8 : Steps p.tables e below (s₁.setTop (entryFrame m #[.ref b, .int (Int32.ofNat o), .ref d, .int (Int32.ofNat q), .int (Int32.ofNat len)] 7)) (T7.setTop (mkF m 32 #[.val (.ref b), .val (.int (Int32.ofNat (o + i))), .val (.ref d), .val (.int (Int32.ofNat (q + i))), .val (.int (Int32.ofNat len)), .val (.int (Int32.ofNat i)), .val (.int (cv A (o + i)))] [])) := c6.trans (st7 _ (Steps.refl _))
      have c9 : Steps p.tables e below (s₁.setTop (entryFrame m #[.ref b, .int (Int32.ofNat o), .ref d, .int (Int32.ofNat q), .int (Int32.ofNat len)] 7)) (T7.setTop (mkF m 3 #[.val (.ref b), .val (.int (Int32.ofNat (o + i) + 1)), .val (.ref d), .val (.int (Int32.ofNat (q + i) + 1)), .val (.int (Int32.ofNat len)), .val (.int (Int32.ofNat i + 1)), .val (.int (cv A (o + i)))] [])) := c8.trans (by
        refine iincV X7.here hexec rfl 1 (hb hbytes d32) (by decide) rfl rfl ?_
        refine iincV X7.here hexec rfl 1 (hb hbytes d35) (by decide) rfl rfl ?_
        refine iincV X7.here hexec rfl 1 (hb hbytes d38) (by decide) rfl rfl ?_
        refine XS.goto X7.here hexec rfl (pc0 := 41) rfl (hb hbytes d41) (by decide) rfl ?_
        exact Steps.refl _)
      have c10 : Steps p.tables e below (s₁.setTop (entryFrame m #[.ref b, .int (Int32.ofNat o), .ref d, .int (Int32.ofNat q), .int (Int32.ofNat len)] 7)) (T7.setTop (mkF m 3 #[.val (.ref b), .val (.int (Int32.ofNat (o + (i + 1)))), .val (.ref d), .val (.int (Int32.ofNat (q + (i + 1)))), .val (.int (Int32.ofNat len)), .val (.int (Int32.ofNat (i + 1))), .val (.int (cv A (o + i)))] [])) := by
        have := c9
        rw [succ32, succ32, succ32] at this
        exact this
      exact ih (i + 1) (by omega) _ (Or.inr ⟨_, rfl, rfl⟩) T7 _ (by rw [copyLocs_step, ← List.append_assoc]; exact X7) (pl.trans p7) (fl.step (by omega) hlt (by simp)) c10
  obtain ⟨T9, B9, z9, X9, p9, f9, g9⟩ := loop len 0 (by omega) .unset (Or.inl rfl) s₁ B (by simpa [copyLocs] using X0) ⟨hB0.1, fun _ _ => rfl, rfl⟩ (Laid.zero _ _ _) c2
  have c11 : Steps p.tables e below (s₁.setTop (entryFrame m #[.ref b, .int (Int32.ofNat o), .ref d, .int (Int32.ofNat q), .int (Int32.ofNat len)] 7)) (T9.setTop (mkF m 46 #[.val (.ref b), .val (.int (Int32.ofNat (o + len))), .val (.ref d), .val (.int (Int32.ofNat (q + len))), .val (.int (Int32.ofNat len)), .val (.int (Int32.ofNat len)), z9] [.int (Int32.ofNat len)])) := g9.trans (by
    refine XS.iload X9.here hexec rfl (hb hbytes d3) rfl ?_
    refine XS.iload X9.here hexec rfl (hb hbytes d5) rfl ?_
    refine XS.icmpYes X9.here hexec rfl (pc0 := 7) rfl (hb hbytes d7) rfl (ii_ge_t (nlt32 (by omega) (Nat.le_refl _))) (by decide) rfl ?_
    refine XS.iload X9.here hexec rfl (hb hbytes d44) rfl ?_
    exact Steps.refl _)
  exact ⟨T9, some (.int (Int32.ofNat len)), _, _, _, X9, by simp, rfl, rfl, (fun h => by cases h), ⟨rfl, B9, p9.from hh0, f9⟩, fun fs hl => c11.trans (X9.ireturnOut hexec hret rfl (Or.inl rfl) (hb hbytes d46) hl)⟩
end Cmp5
namespace Cmp3
def yN : MethodName := ⟨"java/lang/StringUTF16", "compress", "([CII)[B"⟩
abbrev yB : ByteArray := jdk_52_method_16_code
theorem d0 : decode yB 0 = .ok (.iload_n 2, 1) := by decide +kernel
theorem d1 : decode yB 1 = .ok (.newarray .byte, 2) := by decide +kernel
theorem d3 : decode yB 3 = .ok (.astore_n 3, 1) := by decide +kernel
theorem d4 : decode yB 4 = .ok (.aload_n 0, 1) := by decide +kernel
theorem d5 : decode yB 5 = .ok (.iload_n 1, 1) := by decide +kernel
theorem d6 : decode yB 6 = .ok (.aload_n 3, 1) := by decide +kernel
theorem d7 : decode yB 7 = .ok (.iconst 0, 1) := by decide +kernel
theorem d8 : decode yB 8 = .ok (.iload_n 2, 1) := by decide +kernel
theorem d9 : decode yB 9 = .ok (.invokestatic 115, 3) := by decide +kernel
theorem d12 : decode yB 12 = .ok (.istore 4, 2) := by decide +kernel
theorem d14 : decode yB 14 = .ok (.iload 4, 2) := by decide +kernel
theorem d16 : decode yB 16 = .ok (.iload_n 2, 1) := by decide +kernel
theorem d17 : decode yB 17 = .ok (.if_icmp (.eq) 40, 3) := by decide +kernel
theorem d57 : decode yB 57 = .ok (.aload_n 3, 1) := by decide +kernel
theorem d58 : decode yB 58 = .ok (.areturn, 1) := by decide +kernel
def site : List Cond := [.arrayClass .byte, Cmp5.tab] ++ staticW U16 115 Cmp5.yN
def tab : Cond := tabOf yN yB 6 (some (.array .byte)) site
def P (b : Addr) (A : Cell) (o len : Nat) (args : Array Value) (s : State) : Prop := args = #[.ref b, .int (Int32.ofNat o), .int (Int32.ofNat len)] ∧ Ch b A s ∧ o + len ≤ A.slots.size ∧ len ≤ 536870912 ∧ ∀ i, i < len → ¬ 255 < cv A (o + i)
def E (b : Addr) (A : Cell) (o len : Nat) (r : Option Value) (s u : State) : Prop := NewArr .byte "[B" len (fun j => .int (lo8 (cv A (o + j)))) r s u ∧ u.heap.size = s.heap.size + 1
/-- no char of the range above 255: a new byte[] of their low bytes -/
theorem law (l : Launch) (b : Addr) (A : Cell) (o len : Nat) : Law l yN 3 3 1 18 yB 6 (some (.array .byte)) site (P b A o len) (E b A o len) [] 1 len := by
  refine Law.of_walk (plainFor_of_name (by decide +kernel)) (by decide +kernel) (by decide +kernel) (by decide) (fun _ _ h => by rw [h.1]; rfl) (fun _ U U' hal hh h => ⟨h.1, h.2.1.mv hal hh, h.2.2⟩) (fun r U U' V V' h1 hal h2 h => ⟨NewArr.mv r U U' V V' h1 hal h2 h.1, by rw [h1, h2]; exact h.2⟩) ?_
  intro p e s m args below meth c s₁ X0 hexec hbytes hml hret hlk hnm hown hh0 W hP
  obtain ⟨rfl, hA, l1, l2, hp⟩ := hP
  have a31 := hA.1.2.2.2
  have c1 : Steps p.tables e below (s₁.setTop (entryFrame m #[.ref b, .int (Int32.ofNat o), .int (Int32.ofNat len)] 6)) (s₁.setTop (mkF m 0 #[.val (.ref b), .val (.int (Int32.ofNat o)), .val (.int (Int32.ofNat len)), .unset, .unset, .unset] [])) := entry rfl
  have c2 : Steps p.tables e below (s₁.setTop (entryFrame m #[.ref b, .int (Int32.ofNat o), .int (Int32.ofNat len)] 6)) (s₁.setTop (mkF m 1 #[.val (.ref b), .val (.int (Int32.ofNat o)), .val (.int (Int32.ofNat len)), .unset, .unset, .unset] [.int (Int32.ofNat len)])) := c1.trans (by
    refine XS.iloadN X0.here hexec rfl (hb hbytes d0) rfl ?_
    exact Steps.refl _)
  obtain ⟨T3, B3, X3, ba3, bs3, bv3, bh3, bf3, st3⟩ := X0.anew hexec (atype := .byte) (wk W (.arrayClass .byte)) rfl (by show len * 1 ≤ _; omega) (by omega) (g := (mkF m 1 #[.val (.ref b), .val (.int (Int32.ofNat o)), .val (.int (Int32.ofNat len)), .unset, .unset, .unset] [.int (Int32.ofNat len)])) rfl (hb hbytes d1) (rest := []) rfl (Nat.le_refl _) (by show 0 + len ≤ len; omega)
  rw [hh0] at ba3 st3
  have kp3 : XT.Kept s T3 := (XT.Kept.of_eq hh0).push bh3
  have hA3 := hA.keep X3.warmed.alike (kp3 _ _ hA.1.1)
  have hne : b ≠ s.heap.size := hA.1.ne
  have c4 : Steps p.tables e below (s₁.setTop (entryFrame m #[.ref b, .int (Int32.ofNat o), .int (Int32.ofNat len)] 6)) (T3.setTop (mkF m 3 #[.val (.ref b), .val (.int (Int32.ofNat o)), .val (.int (Int32.ofNat len)), .unset, .unset, .unset] [.ref s.heap.size])) := c2.trans (st3 _ (Steps.refl _))
  have c5 : Steps p.tables e below (s₁.setTop (entryFrame m #[.ref b, .int (Int32.ofNat o), .int (Int32.ofNat len)] 6)) (T3.setTop (mkF m 9 #[.val (.ref b), .val (.int (Int32.ofNat o)), .val (.int (Int32.ofNat len)), .val (.ref s.heap.size), .unset, .unset] [.int (Int32.ofNat len), .int 0, .ref s.heap.size, .int (Int32.ofNat o), .ref b])) := c4.trans (by
    refine XS.astoreN X3.here hexec rfl (hb hbytes d3) rfl rfl rfl ?_
    refine XS.aloadN X3.here hexec rfl (hb hbytes d4) rfl rfl ?_
    refine XS.iloadN X3.here hexec rfl (hb hbytes d5) rfl ?_
    refine XS.aloadN X3.here hexec rfl (hb hbytes d6) rfl rfl ?_
    refine iconstV X3.here hexec rfl 0 (hb hbytes d7) (by decide) ?_
    refine XS.iloadN X3.here hexec rfl (hb hbytes d8) rfl ?_
    exact Steps.refl _)
  obtain ⟨v6, T6, X6, E6, g6⟩ := X3.callS hexec (Cmp5.law l b A s.heap.size B3 o 0 len) hown (wks W (staticW U16 115 Cmp5.yN)) (wk W Cmp5.tab) (W := 0) (Nat.le_of_ble_eq_true rfl) (Nat.le_of_ble_eq_true rfl) (Nat.le_refl _) (by show 0 + len + 0 ≤ len; omega) (g := (mkF m 9 #[.val (.ref b), .val (.int (Int32.ofNat o)), .val (.int (Int32.ofNat len)), .val (.ref s.heap.size), .unset, .unset] [.int (Int32.ofNat len), .int (Int32.ofNat 0), .ref s.heap.size, .int (Int32.ofNat o), .ref b])) rfl (by rw [hml]; rfl) c5 (argsL := [.ref b, .int (Int32.ofNat o), .ref s.heap.size, .int (Int32.ofNat 0), .int (Int32.ofNat len)]) (rest := []) rfl rfl (by show 2 * 0 + 0 ≤ _; decide) (hb hbytes d9) (⟨rfl, hA3, ba3, hne, l1, by rw [bs3]; simp, hp⟩)
  obtain ⟨rfl, B6, p6, f6⟩ := E6
  have c7 : Steps p.tables e below (s₁.setTop (entryFrame m #[.ref b, .int (Int32.ofNat o), .int (Int32.ofNat len)] 6)) (T6.setTop (mkF m 12 #[.val (.ref b), .val (.int (Int32.ofNat o)), .val (.int (Int32.ofNat len)), .val (.ref s.heap.size), .unset, .unset] [.int (Int32.ofNat len)])) := g6
  have c8 : Steps p.tables e below (s₁.setTop (entryFrame m #[.ref b, .int (Int32.ofNat o), .int (Int32.ofNat len)] 6)) (T6.setTop (mkF m 58 #[.val (.ref b), .val (.int (Int32.ofNat o)), .val (.int (Int32.ofNat len)), .val (.ref s.heap.size), .val (.int (Int32.ofNat len)), .unset] [.ref s.heap.size])) := c7.trans (by
    refine XS.istore X6.here hexec rfl (hb hbytes d12) rfl rfl ?_
    refine XS.iload X6.here hexec rfl (hb hbytes d14) rfl ?_
    refine XS.iloadN X6.here hexec rfl (hb hbytes d16) rfl ?_
    refine XS.icmpYes X6.here hexec rfl (pc0 := 17) rfl (hb hbytes d17) rfl (ii_eq_t rfl) (by decide) rfl ?_
    refine XS.aloadN X6.here hexec rfl (hb hbytes d57) rfl rfl ?_
    exact Steps.refl _)
  have X8 := X6.wide (L' := []) (cells' := 1) (slots' := len) (fun x hx hlt => by
    simp only [List.nil_append, copyLocs, List.mem_map, List.mem_range] at hx
    obtain ⟨i, -, rfl⟩ := hx
    exact absurd hlt (Nat.lt_irrefl _)) (Nat.le_refl _) (by omega)
  exact ⟨T6, some (.ref s.heap.size), _, _, _, X8, rfl, rfl, rfl, (fun h => by cases h), ⟨⟨rfl, B6, ba3.like (X3.warmed.alike.symm.trans X6.warmed.alike) p6.1 f6.1 f6.2.1 f6.2.2.1, f6.2.1.trans bv3, by rw [X6.warmed.alike.findClass, f6.1]; exact bf3, by rw [f6.2.2.1, bs3]; simp, fun j hj => by rw [f6.2.2.2 j, if_pos (by omega)]; rfl, kp3.put p6 (Nat.le_refl _)⟩, by rw [p6.2.2, bh3, hh0]; simp⟩, fun fs hl => c8.trans (X8.areturnOut hexec rfl hret rfl (hb hbytes d58) hl)⟩
end Cmp3
namespace CodL
def yN : MethodName := ⟨"java/lang/StringUTF16", "coderFromArrayLen", "([BI)B"⟩
abbrev yB : ByteArray := jdk_52_method_15_code
theorem d0 : decode yB 0 = .ok (.iload_n 1, 1) := by decide +kernel
theorem d1 : decode yB 1 = .ok (.aload_n 0, 1) := by decide +kernel
theorem d2 : decode yB 2 = .ok (.arraylength, 1) := by decide +kernel
theorem d3 : decode yB 3 = .ok (.isub, 1) := by decide +kernel
theorem d4 : decode yB 4 = .ok (.bipush 31, 2) := by decide +kernel
theorem d6 : decode yB 6 = .ok (.iushr, 1) := by decide +kernel
theorem d7 : decode yB 7 = .ok (.i2b, 1) := by decide +kernel
theorem d8 : decode yB 8 = .ok (.ireturn, 1) := by decide +kernel
def site : List Cond := []
def tab : Cond := tabOf yN yB 2 (some .byte) site
def P (d : Addr) (B : Cell) (args : Array Value) (s : State) : Prop := args = #[.ref d, .int (Int32.ofNat B.slots.size)] ∧ Arr .byte d B s
def E (r : Option Value) (s u : State) : Prop := XT.PureE (some (.int 0)) r s u
/-- an array as long as the number of chars: LATIN1 -/
theorem law (l : Launch) (d : Addr) (B : Cell) : Law l yN 2 2 0 0 yB 2 (some .byte) site (P d B) E [] 0 0 := by
  refine Law.of_walk (plainFor_of_name (by decide +kernel)) (by decide +kernel) (by decide +kernel) (by decide) (fun _ _ h => by rw [h.1]; rfl) (fun _ U U' hal hh h => ⟨h.1, h.2.mv hal hh⟩) (fun r U U' V V' h1 hal h2 h => XT.PureE.mv r U U' V V' h1 hal h2 h) ?_
  intro p e s m args below meth c s₁ X0 hexec hbytes hml hret hlk hnm hown hh0 W hP
  obtain ⟨rfl, hB⟩ := hP
  have hB0 := hB.mv X0.warmed.alike hh0
  have c1 : Steps p.tables e below (s₁.setTop (entryFrame m #[.ref d, .int (Int32.ofNat B.slots.size)] 2)) (s₁.setTop (mkF m 0 #[.val (.ref d), .val (.int (Int32.ofNat B.slots.size))] [])) := entry rfl
  have c2 : Steps p.tables e below (s₁.setTop (entryFrame m #[.ref d, .int (Int32.ofNat B.slots.size)] 2)) (s₁.setTop (mkF m 2 #[.val (.ref d), .val (.int (Int32.ofNat B.slots.size))] [.ref d, .int (Int32.ofNat B.slots.size)])) := c1.trans (by
    refine XS.iloadN X0.here hexec rfl (hb hbytes d0) rfl ?_
    refine XS.aloadN X0.here hexec rfl (hb hbytes d1) rfl rfl ?_
    exact Steps.refl _)
  have c3 : Steps p.tables e below (s₁.setTop (entryFrame m #[.ref d, .int (Int32.ofNat B.slots.size)] 2)) (s₁.setTop (mkF m 8 #[.val (.ref d), .val (.int (Int32.ofNat B.slots.size))] [.int (lo8 (ushr (Int32.ofNat B.slots.size - Int32.ofNat B.slots.size) 31))])) := c2.trans (by
    refine X0.alen hexec hB0 rfl rfl (hb hbytes d2) ?_
    refine XS.isub X0.here hexec rfl (hb hbytes d3) rfl ?_
    refine bipushV X0.here hexec rfl 31 (hb hbytes d4) (by decide) ?_
    refine iushr X0.here hexec rfl (hb hbytes d6) rfl ?_
    refine i2b X0.here hexec rfl (hb hbytes d7) rfl ?_
    exact Steps.refl _)
  have e0 : lo8 (ushr (Int32.ofNat B.slots.size - Int32.ofNat B.slots.size) 31) = 0 := by rw [Int32.sub_self]; decide
  rw [e0] at c3
  exact ⟨s₁, some (.int 0), _, _, _, X0, rfl, rfl, rfl, (fun h => by cases h), ⟨rfl, hh0⟩, fun fs hl => c3.trans (X0.ireturnOut hexec hret rfl (Or.inr (Or.inr (Or.inl rfl))) (hb hbytes d8) hl)⟩
end CodL
/-- the String at a is Latin-1 over a new byte[] (the heap's one new cell): the low bytes of the len chars of A from o on; every cell but a is kept -/
def Got (a : Addr) (D : Cell) (fV fC : Field) (A : Cell) (o len : Nat) (r : Option Value) (s u : State) : Prop := r = none ∧ ∃ D' V : Cell, Blank "java/lang/String" a D' u ∧ Same D D' [fV.slot, fC.slot] ∧ D'.slots[fV.slot]? = some (.ref s.heap.size) ∧ D'.slots[fC.slot]? = some (.int 0) ∧ Arr .byte s.heap.size V u ∧ V.vm = .none ∧ u.vm.findClass "[B" = some V.cls ∧ V.slots.size = len ∧ (∀ j, j < len → V.slots[j]? = some (.int (lo8 (cv A (o + j))))) ∧ (∀ (y : Addr) (c : Cell), y ≠ a → s.heap[y]? = some c → u.heap[y]? = some c) ∧ u.heap.size = s.heap.size + 1
theorem Got.mv {a : Addr} {D A : Cell} {fV fC : Field} {o len : Nat} : ∀ r (U U' V V' : State), U'.heap = U.heap → V.vm.Alike V'.vm → V'.heap = V.heap → Got a D fV fC A o len r U V → Got a D fV fC A o len r U' V' :=
  fun r U U' V V' h1 hal h2 ⟨e0, D', X, a1, a2, a3, a4, a5, a6, a7, a8, a9, a10, a11⟩ => ⟨e0, D', X, a1.mv hal h2, a2, by rw [h1]; exact a3, a4, by rw [h1]; exact a5.mv hal h2, a6, by rw [hal.findClass]; exact a7, a8, a9, by rw [h1, h2]; exact a10, by rw [h1, h2]; exact a11⟩
namespace New4
def yN : MethodName := ⟨"java/lang/String", "<init>", "([CIILjava/lang/Void;)V"⟩
abbrev yB : ByteArray := jdk_42_method_149_code
theorem d0 : decode yB 0 = .ok (.aload_n 0, 1) := by decide +kernel
theorem d1 : decode yB 1 = .ok (.invokespecial 1, 3) := by decide +kernel
theorem d4 : decode yB 4 = .ok (.iload_n 3, 1) := by decide +kernel
theorem d5 : decode yB 5 = .ok (.ifCond (.ne) 22, 3) := by decide +kernel
theorem d27 : decode yB 27 = .ok (.getstatic 38, 3) := by decide +kernel
theorem d30 : decode yB 30 = .ok (.ifCond (.eq) 28, 3) := by decide +kernel
theorem d33 : decode yB 33 = .ok (.aload_n 1, 1) := by decide +kernel
theorem d34 : decode yB 34 = .ok (.iload_n 2, 1) := by decide +kernel
theorem d35 : decode yB 35 = .ok (.iload_n 3, 1) := by decide +kernel
theorem d36 : decode yB 36 = .ok (.invokestatic 177, 3) := by decide +kernel
theorem d39 : decode yB 39 = .ok (.astore 5, 2) := by decide +kernel
theorem d41 : decode yB 41 = .ok (.aload_n 0, 1) := by decide +kernel
theorem d42 : decode yB 42 = .ok (.aload 5, 2) := by decide +kernel
theorem d44 : decode yB 44 = .ok (.iload_n 3, 1) := by decide +kernel
theorem d45 : decode yB 45 = .ok (.invokestatic 47, 3) := by decide +kernel
theorem d48 : decode yB 48 = .ok (.putfield 15, 3) := by decide +kernel
theorem d51 : decode yB 51 = .ok (.aload_n 0, 1) := by decide +kernel
theorem d52 : decode yB 52 = .ok (.aload 5, 2) := by decide +kernel
theorem d54 : decode yB 54 = .ok (.putfield 9, 3) := by decide +kernel
theorem d57 : decode yB 57 = .ok (.return_, 1) := by decide +kernel
def site : List Cond := [.fieldLink "java/lang/String" 38 "java/lang/String" "COMPACT_STRINGS" "Z", Cmp3.tab, CodL.tab, .laysFinal "java/lang/String" "java/lang/String" "value" "[B", .fieldLink "java/lang/String" 9 "java/lang/String" "value" "[B", .laysFinal "java/lang/String" "java/lang/String" "coder" "B", .fieldLink "java/lang/String" 15 "java/lang/String" "coder" "B"] ++ objW "java/lang/String" 1 ++ staticW "java/lang/String" 177 Cmp3.yN ++ staticW "java/lang/String" 47 CodL.yN
def tab : Cond := tabOf yN yB 6 none site
def P (a : Addr) (D : Cell) (fV fC : Field) (b : Addr) (A : Cell) (z : Int32) (o len : Nat) (args : Array Value) (s : State) : Prop := args = #[.ref a, .ref b, .int (Int32.ofNat o), .int (Int32.ofNat len), .null] ∧ Blank "java/lang/String" a D s ∧ Found "java/lang/String" "value" "[B" fV s ∧ Found "java/lang/String" "coder" "B" fC s ∧ Ch b A s ∧ StaticIs s "java/lang/String" "COMPACT_STRINGS" "Z" (.int z) ∧ ¬ z = 0 ∧ 0 < len ∧ o + len ≤ A.slots.size ∧ len ≤ 536870912 ∧ ∀ i, i < len → ¬ 255 < cv A (o + i)
def E (a : Addr) (D : Cell) (fV fC : Field) (A : Cell) (o len : Nat) (r : Option Value) (s u : State) : Prop := Got a D fV fC A o len r s u
/-- len > 0, no char of the range above 255: a Latin-1 String of their low bytes -/
theorem law (l : Launch) (a : Addr) (D : Cell) (fV fC : Field) (b : Addr) (A : Cell) (z : Int32) (o len : Nat) : Law l yN 5 4 2 35 yB 6 none site (P a D fV fC b A z o len) (E a D fV fC A o len) [⟨a, fC.slot⟩, ⟨a, fV.slot⟩] 1 len := by
  refine Law.of_walk (plainFor_of_name (by decide +kernel)) (by decide +kernel) (by decide +kernel) (by decide) (fun _ _ h => by rw [h.1]; rfl) (fun _ U U' hal hh h => ⟨h.1, h.2.1.mv hal hh, h.2.2.1.al hal, h.2.2.2.1.al hal, h.2.2.2.2.1.mv hal hh, h.2.2.2.2.2.1.there hal hh, h.2.2.2.2.2.2⟩) (fun r U U' V V' h1 hal h2 h => Got.mv r U U' V V' h1 hal h2 h) ?_
  intro p e s m args below meth c s₁ X0 hexec hbytes hml hret hlk hnm hown hh0 W hP
  obtain ⟨rfl, hB, f1, f2, hA, s1, hz, l0, l1, l2, hp⟩ := hP
  have a31 := hA.1.2.2.2
  have c1 : Steps p.tables e below (s₁.setTop (entryFrame m #[.ref a, .ref b, .int (Int32.ofNat o), .int (Int32.ofNat len), .null] 6)) (s₁.setTop (mkF m 0 #[.val (.ref a), .val (.ref b), .val (.int (Int32.ofNat o)), .val (.int (Int32.ofNat len)), .val .null, .unset] [])) := entry rfl
  have c2 : Steps p.tables e below (s₁.setTop (entryFrame m #[.ref a, .ref b, .int (Int32.ofNat o), .int (Int32.ofNat len), .null] 6)) (s₁.setTop (mkF m 1 #[.val (.ref a), .val (.ref b), .val (.int (Int32.ofNat o)), .val (.int (Int32.ofNat len)), .val .null, .unset] [.ref a])) := c1.trans (by
    refine XS.aloadN X0.here hexec rfl (hb hbytes d0) rfl rfl ?_
    exact Steps.refl _)
  obtain ⟨T3, X3, q3, st3⟩ := X0.oinit hexec hown (wks W (objW "java/lang/String" 1)) (g := (mkF m 1 #[.val (.ref a), .val (.ref b), .val (.int (Int32.ofNat o)), .val (.int (Int32.ofNat len)), .val .null, .unset] [.ref a])) rfl (by rw [hml]; rfl) (rest := []) rfl (hb hbytes d1) (W := 0) (by show 2 * 0 + 0 ≤ _; decide) (Nat.le_of_ble_eq_true rfl) (Nat.le_of_ble_eq_true rfl)
  have hh3 := q3.trans hh0
  have c4 : Steps p.tables e below (s₁.setTop (entryFrame m #[.ref a, .ref b, .int (Int32.ofNat o), .int (Int32.ofNat len), .null] 6)) (T3.setTop (mkF m 27 #[.val (.ref a), .val (.ref b), .val (.int (Int32.ofNat o)), .val (.int (Int32.ofNat len)), .val .null, .unset] [])) := (c2.trans (st3 _ (Steps.refl _))).trans (by
    refine XS.iloadN X3.here hexec rfl (hb hbytes d4) rfl ?_
    refine XS.ifYes X3.here hexec rfl (pc0 := 5) rfl (hb hbytes d5) rfl (i0_ne_t (nz32 (by omega) l0)) (by decide) rfl ?_
    exact Steps.refl _)
  obtain ⟨T5, X5, q5, st5⟩ := X3.sget hexec hown (wk W (.fieldLink "java/lang/String" 38 "java/lang/String" "COMPACT_STRINGS" "Z")) s1 (fun _ _ h => by rw [hh3]; exact h) (g := (mkF m 27 #[.val (.ref a), .val (.ref b), .val (.int (Int32.ofNat o)), .val (.int (Int32.ofNat len)), .val .null, .unset] [])) rfl (hb hbytes d27)
  have hh5 := q5.trans hh3
  have c6 : Steps p.tables e below (s₁.setTop (entryFrame m #[.ref a, .ref b, .int (Int32.ofNat o), .int (Int32.ofNat len), .null] 6)) (T5.setTop (mkF m 30 #[.val (.ref a), .val (.ref b), .val (.int (Int32.ofNat o)), .val (.int (Int32.ofNat len)), .val .null, .unset] [.int z])) := c4.trans (st5 _ (Steps.refl _))
  have c7 : Steps p.tables e below (s₁.setTop (entryFrame m #[.ref a, .ref b, .int (Int32.ofNat o), .int (Int32.ofNat len), .null] 6)) (T5.setTop (mkF m 36 #[.val (.ref a), .val (.ref b), .val (.int (Int32.ofNat o)), .val (.int (Int32.ofNat len)), .val .null, .unset] [.int (Int32.ofNat len), .int (Int32.ofNat o), .ref b])) := c6.trans (by
    refine XS.ifNo X5.here hexec rfl (hb hbytes d30) rfl (i0_eq_f hz) ?_
    refine XS.aloadN X5.here hexec rfl (hb hbytes d33) rfl rfl ?_
    refine XS.iloadN X5.here hexec rfl (hb hbytes d34) rfl ?_
    refine XS.iloadN X5.here hexec rfl (hb hbytes d35) rfl ?_
    exact Steps.refl _)
  obtain ⟨v8, T8, X8, E8, g8⟩ := X5.callS hexec (Cmp3.law l b A o len) hown (wks W (staticW "java/lang/String" 177 Cmp3.yN)) (wk W Cmp3.tab) (W := 0) (Nat.le_of_ble_eq_true rfl) (Nat.le_of_ble_eq_true rfl) (Nat.le_refl _) (by show 0 + len ≤ len; omega) (g := (mkF m 36 #[.val (.ref a), .val (.ref b), .val (.int (Int32.ofNat o)), .val (.int (Int32.ofNat len)), .val .null, .unset] [.int (Int32.ofNat len), .int (Int32.ofNat o), .ref b])) rfl (by rw [hml]; rfl) c7 (argsL := [.ref b, .int (Int32.ofNat o), .int (Int32.ofNat len)]) (rest := []) rfl rfl (by show 2 * 0 + 0 ≤ _; decide) (hb hbytes d36) (⟨rfl, hA.mv X5.warmed.alike hh5, l1, l2, hp⟩)
  obtain ⟨e8, z8⟩ := E8
  obtain ⟨rfl, N, n1, n2, n3, n4, n5, n6⟩ := NewArr.mv _ T5 s _ _ hh5.symm (Vm.Alike.refl _) rfl e8
  rw [hh5] at z8
  have hB1 := hB.keep X8.warmed.alike (n6 _ _ hB.1)
  have hne : s.heap.size ≠ a := (Nat.ne_of_lt (Array.getElem?_eq_some_iff.mp hB.1).1).symm
  have c9 : Steps p.tables e below (s₁.setTop (entryFrame m #[.ref a, .ref b, .int (Int32.ofNat o), .int (Int32.ofNat len), .null] 6)) (T8.setTop (mkF m 39 #[.val (.ref a), .val (.ref b), .val (.int (Int32.ofNat o)), .val (.int (Int32.ofNat len)), .val .null, .unset] [.ref s.heap.size])) := g8
  have c10 : Steps p.tables e below (s₁.setTop (entryFrame m #[.ref a, .ref b, .int (Int32.ofNat o), .int (Int32.ofNat len), .null] 6)) (T8.setTop (mkF m 45 #[.val (.ref a), .val (.ref b), .val (.int (Int32.ofNat o)), .val (.int (Int32.ofNat len)), .val .null, .val (.ref s.heap.size)] [.int (Int32.ofNat N.slots.size), .ref s.heap.size, .ref a])) := by
    have hc : Steps p.tables e below (s₁.setTop (entryFrame m #[.ref a, .ref b, .int (Int32.ofNat o), .int (Int32.ofNat len), .null] 6)) (T8.setTop (mkF m 45 #[.val (.ref a), .val (.ref b), .val (.int (Int32.ofNat o)), .val (.int (Int32.ofNat len)), .val .null, .val (.ref s.heap.size)] [.int (Int32.ofNat len), .ref s.heap.size, .ref a])) := c9.trans (by
      refine XS.astore X8.here hexec rfl (hb hbytes d39) rfl rfl rfl ?_
      refine XS.aloadN X8.here hexec rfl (hb hbytes d41) rfl rfl ?_
      refine XS.aload X8.here hexec rfl (hb hbytes d42) rfl rfl ?_
      refine XS.iloadN X8.here hexec rfl (hb hbytes d44) rfl ?_
      exact Steps.refl _)
    rw [n4]; exact hc
  obtain ⟨v11, T11, X11, E11, g11⟩ := X8.callS hexec (CodL.law l s.heap.size N) hown (wks W (staticW "java/lang/String" 47 CodL.yN)) (wk W CodL.tab) (W := 1) (Nat.le_of_ble_eq_true rfl) (Nat.le_of_ble_eq_true rfl) (Nat.le_refl _) (by show 0 + len + 0 ≤ len; omega) (g := (mkF m 45 #[.val (.ref a), .val (.ref b), .val (.int (Int32.ofNat o)), .val (.int (Int32.ofNat len)), .val .null, .val (.ref s.heap.size)] [.int (Int32.ofNat N.slots.size), .ref s.heap.size, .ref a])) rfl (by rw [hml]; rfl) c10 (argsL := [.ref s.heap.size, .int (Int32.ofNat N.slots.size)]) (rest := [.ref a]) rfl rfl (by show 2 * 0 + (1 + 0) ≤ _; decide) (hb hbytes d45) (⟨rfl, n1⟩)
  obtain ⟨rfl, q11⟩ := E11
  have hB11 := hB1.mv (X8.warmed.alike.symm.trans X11.warmed.alike) q11
  have c12 : Steps p.tables e below (s₁.setTop (entryFrame m #[.ref a, .ref b, .int (Int32.ofNat o), .int (Int32.ofNat len), .null] 6)) (T11.setTop (mkF m 48 #[.val (.ref a), .val (.ref b), .val (.int (Int32.ofNat o)), .val (.int (Int32.ofNat len)), .val .null, .val (.ref s.heap.size)] [.int 0, .ref a])) := g11
  obtain ⟨T13, X13, p13, bl13, sl13, st13⟩ := X11.finit hexec hown (wk W (.fieldLink "java/lang/String" 15 "java/lang/String" "coder" "B")) (Or.inr ⟨_, (wk W (.laysFinal "java/lang/String" "java/lang/String" "coder" "B"))⟩) (Or.inl ⟨rfl, hnm⟩) f2 (Or.inl rfl) hB11 (t := .byte) (by decide +kernel) rfl (g := (mkF m 48 #[.val (.ref a), .val (.ref b), .val (.int (Int32.ofNat o)), .val (.int (Int32.ofNat len)), .val .null, .val (.ref s.heap.size)] [.int 0, .ref a])) rfl (rest := []) rfl (hb hbytes d48)
  have c14 : Steps p.tables e below (s₁.setTop (entryFrame m #[.ref a, .ref b, .int (Int32.ofNat o), .int (Int32.ofNat len), .null] 6)) (T13.setTop (mkF m 54 #[.val (.ref a), .val (.ref b), .val (.int (Int32.ofNat o)), .val (.int (Int32.ofNat len)), .val .null, .val (.ref s.heap.size)] [.ref s.heap.size, .ref a])) := (c12.trans (st13 _ (Steps.refl _))).trans (by
    refine XS.aloadN X13.here hexec rfl (hb hbytes d51) rfl rfl ?_
    refine XS.aload X13.here hexec rfl (hb hbytes d52) rfl rfl ?_
    exact Steps.refl _)
  obtain ⟨T15, X15, p15, bl15, sl15, st15⟩ := X13.finit hexec hown (wk W (.fieldLink "java/lang/String" 9 "java/lang/String" "value" "[B")) (Or.inr ⟨_, (wk W (.laysFinal "java/lang/String" "java/lang/String" "value" "[B"))⟩) (Or.inl ⟨rfl, hnm⟩) f1 (Or.inl rfl) bl13 (t := (.array .byte)) (by decide +kernel) rfl (g := (mkF m 54 #[.val (.ref a), .val (.ref b), .val (.int (Int32.ofNat o)), .val (.int (Int32.ofNat len)), .val .null, .val (.ref s.heap.size)] [.ref s.heap.size, .ref a])) rfl (rest := []) rfl (hb hbytes d54)
  have c16 : Steps p.tables e below (s₁.setTop (entryFrame m #[.ref a, .ref b, .int (Int32.ofNat o), .int (Int32.ofNat len), .null] 6)) (T15.setTop (mkF m 57 #[.val (.ref a), .val (.ref b), .val (.int (Int32.ofNat o)), .val (.int (Int32.ofNat len)), .val .null, .val (.ref s.heap.size)] [])) := c14.trans (st15 _ (Steps.refl _))
  have ap := apart (Or.inr ⟨_, (wk W (.laysFinal "java/lang/String" "java/lang/String" "value" "[B"))⟩) (Or.inr ⟨_, (wk W (.laysFinal "java/lang/String" "java/lang/String" "coder" "B"))⟩) f1 f2 (t₁ := .array .byte) (t₂ := .byte) (by decide +kernel) (by decide +kernel) (by decide)
  have al := X8.warmed.alike.symm.trans X15.warmed.alike
  have n7 : T11.heap[s.heap.size]? = some N := by rw [q11]; exact n1.1
  exact ⟨T15, none, _, _, _, X15, by simp, rfl, by omega, (fun _ => rfl), ⟨rfl, _, N, bl15, ((Same.refl D _).set _ (by simp)).set _ (by simp), sl15, (Cell.slots_setSlot_ne _ ap).trans sl13, n1.keep al (p15.other hne (p13.other hne n7)), n2, by rw [al.findClass]; exact n3, n4, n5, fun y c h1 h2 => p15.other h1 (p13.other h1 (by rw [q11]; exact n6 y c h2)), by rw [p15.2.2, p13.2.2, q11]; exact z8⟩, fun fs hl => c16.trans (X15.returnOut hexec hret (hb hbytes d57) hl)⟩
end New4
namespace New1
def yN : MethodName := ⟨"java/lang/String", "<init>", "([C)V"⟩
abbrev yB : ByteArray := jdk_42_method_3_code
theorem d0 : decode yB 0 = .ok (.aload_n 0, 1) := by decide +kernel
theorem d1 : decode yB 1 = .ok (.aload_n 1, 1) := by decide +kernel
theorem d2 : decode yB 2 = .ok (.iconst 0, 1) := by decide +kernel
theorem d3 : decode yB 3 = .ok (.aload_n 1, 1) := by decide +kernel
theorem d4 : decode yB 4 = .ok (.arraylength, 1) := by decide +kernel
theorem d5 : decode yB 5 = .ok (.aconst_null, 1) := by decide +kernel
theorem d6 : decode yB 6 = .ok (.invokespecial 27, 3) := by decide +kernel
theorem d9 : decode yB 9 = .ok (.return_, 1) := by decide +kernel
def site : List Cond := [New4.tab] ++ initW "java/lang/String" 27 New4.yN
def tab : Cond := tabOf yN yB 2 none site
def P (a : Addr) (D : Cell) (fV fC : Field) (b : Addr) (A : Cell) (z : Int32) (args : Array Value) (s : State) : Prop := args = #[.ref a, .ref b] ∧ Blank "java/lang/String" a D s ∧ Found "java/lang/String" "value" "[B" fV s ∧ Found "java/lang/String" "coder" "B" fC s ∧ Ch b A s ∧ StaticIs s "java/lang/String" "COMPACT_STRINGS" "Z" (.int z) ∧ ¬ z = 0 ∧ 0 < A.slots.size ∧ A.slots.size ≤ 536870912 ∧ ∀ i, i < A.slots.size → ¬ 255 < cv A i
def E (a : Addr) (D : Cell) (fV fC : Field) (A : Cell) (r : Option Value) (s u : State) : Prop := Got a D fV fC A 0 A.slots.size r s u
/-- new String(chars), not empty, no char above 255: a Latin-1 String of their low bytes -/
theorem law (l : Launch) (a : Addr) (D : Cell) (fV fC : Field) (b : Addr) (A : Cell) (z : Int32) : Law l yN 2 1 3 52 yB 2 none site (P a D fV fC b A z) (E a D fV fC A) [⟨a, fC.slot⟩, ⟨a, fV.slot⟩] 1 A.slots.size := by
  refine Law.of_walk (plainFor_of_name (by decide +kernel)) (by decide +kernel) (by decide +kernel) (by decide) (fun _ _ h => by rw [h.1]; rfl) (fun _ U U' hal hh h => ⟨h.1, h.2.1.mv hal hh, h.2.2.1.al hal, h.2.2.2.1.al hal, h.2.2.2.2.1.mv hal hh, h.2.2.2.2.2.1.there hal hh, h.2.2.2.2.2.2⟩) (fun r U U' V V' h1 hal h2 h => Got.mv r U U' V V' h1 hal h2 h) ?_
  intro p e s m args below meth c s₁ X0 hexec hbytes hml hret hlk hnm hown hh0 W hP
  obtain ⟨rfl, hB, f1, f2, hA, s1, hz, l0, l2, hp⟩ := hP
  have c1 : Steps p.tables e below (s₁.setTop (entryFrame m #[.ref a, .ref b] 2)) (s₁.setTop (mkF m 0 #[.val (.ref a), .val (.ref b)] [])) := entry rfl
  have c2 : Steps p.tables e below (s₁.setTop (entryFrame m #[.ref a, .ref b] 2)) (s₁.setTop (mkF m 6 #[.val (.ref a), .val (.ref b)] [.null, .int (Int32.ofNat A.slots.size), .int 0, .ref b, .ref a])) := c1.trans (by
    refine XS.aloadN X0.here hexec rfl (hb hbytes d0) rfl rfl ?_
    refine XS.aloadN X0.here hexec rfl (hb hbytes d1) rfl rfl ?_
    refine iconstV X0.here hexec rfl 0 (hb hbytes d2) (by decide) ?_
    refine XS.aloadN X0.here hexec rfl (hb hbytes d3) rfl rfl ?_
    refine X0.alen hexec (hA.1.mv X0.warmed.alike hh0) rfl rfl (hb hbytes d4) ?_
    refine XS.aconstNull X0.here hexec rfl (hb hbytes d5) ?_
    exact Steps.refl _)
  obtain ⟨v3, T3, X3, E3, g3⟩ := X0.callN hexec (New4.law l a D fV fC b A z 0 A.slots.size) rfl hown (wks W (initW "java/lang/String" 27 New4.yN)) (W New4.tab (by simp only [site, List.mem_cons, List.mem_append, true_or, or_true])) (W := 0) (Nat.le_of_ble_eq_true rfl) (Nat.le_of_ble_eq_true rfl) (Nat.le_refl _) (by show 0 + A.slots.size ≤ A.slots.size; omega) (g := (mkF m 6 #[.val (.ref a), .val (.ref b)] [.null, .int (Int32.ofNat A.slots.size), .int (Int32.ofNat 0), .ref b, .ref a])) rfl (by rw [hml]; rfl) c2 (argsL := [.ref b, .int (Int32.ofNat 0), .int (Int32.ofNat A.slots.size), .null]) (rest := []) rfl rfl (by show 2 * 0 + 0 ≤ _; decide) (hb hbytes d6) (⟨rfl, hB.mv X0.warmed.alike hh0, f1.al X0.warmed.alike, f2.al X0.warmed.alike, hA.mv X0.warmed.alike hh0, s1.there X0.warmed.alike hh0, hz, l0, by omega, l2, fun i hi => by rw [Nat.zero_add]; exact hp i hi⟩)
  have e0 := Got.mv _ s₁ s _ _ hh0.symm (Vm.Alike.refl _) rfl E3
  obtain rfl := e0.1
  have c4 : Steps p.tables e below (s₁.setTop (entryFrame m #[.ref a, .ref b] 2)) (T3.setTop (mkF m 9 #[.val (.ref a), .val (.ref b)] [])) := g3
  exact ⟨T3, none, _, _, _, X3, by simp, rfl, by omega, (fun _ => rfl), e0, fun fs hl => c4.trans (X3.returnOut hexec hret (hb hbytes d9) hl)⟩
theorem pays {l : Launch} {R : Room} {p : Program} {e : Env} {below : List Frame} {s : State} {sargs : Array Value} {len W : Nat} (a : Addr) (D : Cell) (fV fC : Field) (b : Addr) (A : Cell) (z : Int32) (htab : tab.before sargs s = true) (hfr : 4 ≤ R.frames) (hlo : W + 65 ≤ R.locals) :
    Back l R p e below s sargs yN len W (fun A₁ a₁ => A₁.cells + 1 ≤ R.cells ∧ A₁.slots + A.slots.size ≤ R.slots ∧ P a D fV fC b A z a₁ A₁.U) (fun A₁ _ v₁ B₁ => E a D fV fC A v₁ A₁.U B₁.U ∧ B₁.locs = A₁.locs ++ [⟨a, fC.slot⟩, ⟨a, fV.slot⟩] ∧ B₁.cells = A₁.cells + 1 ∧ B₁.slots = A₁.slots + A.slots.size) :=
  (law l a D fV fC b A z).pays htab hfr (by omega)
end New1
end StrChars
namespace StrChars.Road
open Jvm Sem ClassFile Op Lib Jvm.Stand Jvm.Free Jvm.Free.XT
open Jvm.Lib.Cold (StaticIs)
abbrev ST : String := "java/lang/String"
/-- every table word that New1's law asks, flat -/
abbrev words : List Jvm.Cond := [.code New1.yN New1.yB 2 none, .initialized ST, .methodLink ST 27 New4.yN, .instanceMethod New4.yN,
  .code New4.yN New4.yB 6 none, .fieldLink ST 38 ST "COMPACT_STRINGS" "Z", .laysFinal ST ST "value" "[B", .fieldLink ST 9 ST "value" "[B", .laysFinal ST ST "coder" "B", .fieldLink ST 15 ST "coder" "B",
  .methodLink ST 1 Lib.objectInit, .instanceMethod Lib.objectInit, .code Lib.objectInit ⟨#[0xb1]⟩ 1 none, .methodLink ST 177 Cmp3.yN, .static Cmp3.yN, .methodLink ST 47 CodL.yN, .static CodL.yN,
  .code Cmp3.yN Cmp3.yB 6 (some (.array .byte)), .initialized U16, .arrayClass .byte, .methodLink U16 115 Cmp5.yN, .static Cmp5.yN, .code Cmp5.yN Cmp5.yB 7 (some .int), .code CodL.yN CodL.yB 2 (some .byte)]
theorem tab_of {a : Array Value} {s : State} (h : ∀ w ∈ words, w.before a s = true) : New1.tab.before a s = true := by
  have h5 : Cmp5.tab.before a s = true := unparts (wk h (.code Cmp5.yN Cmp5.yB 7 (some .int))) (wks h (.initialized Cmp5.yN.cls :: Cmp5.site))
  have hc : CodL.tab.before a s = true := unparts (wk h (.code CodL.yN CodL.yB 2 (some .byte))) (wks h (.initialized CodL.yN.cls :: CodL.site))
  have q5 : ∀ w ∈ Cmp5.tab :: words, w.before a s = true := fun w hw => (List.mem_cons.mp hw).elim (fun e => e ▸ h5) (h w)
  have h3 : Cmp3.tab.before a s = true := unparts (wk q5 (.code Cmp3.yN Cmp3.yB 6 (some (.array .byte)))) (wks q5 (.initialized Cmp3.yN.cls :: Cmp3.site))
  have q3 : ∀ w ∈ Cmp3.tab :: CodL.tab :: words, w.before a s = true := fun w hw => (List.mem_cons.mp hw).elim (fun e => e ▸ h3) fun hw => (List.mem_cons.mp hw).elim (fun e => e ▸ hc) (h w)
  have h4 : New4.tab.before a s = true := unparts (wk q3 (.code New4.yN New4.yB 6 none)) (wks q3 (.initialized New4.yN.cls :: New4.site))
  have q4 : ∀ w ∈ New4.tab :: words, w.before a s = true := fun w hw => (List.mem_cons.mp hw).elim (fun e => e ▸ h4) (h w)
  exact unparts (wk q4 (.code New1.yN New1.yB 2 none)) (wks q4 (.initialized New1.yN.cls :: New1.site))
/-- the words ride from the start Z to the walk's own state -/
theorem moved {Z s : State} {a0 args : Array Value} (hZ : Z.Warmed39 s.vm) (hw : ∀ d ∈ words, d.before a0 Z = true) : ∀ d ∈ words, d.before args s = true := fun d hd => by
  have q := hw d hd
  have t : ∀ d ∈ words, d = .arrayClass .byte ∨ (d.onTables && d.keepsFace) = true := by decide +kernel
  rcases t d hd with rfl | t
  · exact RoadKit.mvA hZ q
  · exact RoadKit.mv hZ q t
/-- WHAT COMES BACK, over the tables of the start Z: h the heap at the call, h' behind it -/
def Q (Z : State) (x : Addr) (A : Cell) (h : Heap) (v : Option Value) (h' : Heap) (L : List Loc) : Prop := v = none ∧ (∀ y ∈ L, y.base = x) ∧ RoadKit.Keep h h' [x] ∧ h'.size = h.size + 1 ∧ RoadKit.Exa Z h' x ST ∧ RoadKit.Fld Z h' x ST "value" "[B" (.ref h.size) ∧ RoadKit.Fld Z h' x ST "coder" "B" (.int 0) ∧
  (∃ V : Cell, RoadKit.Arr Z h' h.size V .byte ∧ V.vm = .none ∧ Z.vm.findClass "[B" = some V.cls ∧ V.slots.size = A.slots.size ∧ ∀ j, j < A.slots.size → V.slots[j]? = some (.int (lo8 (cv A j)))) ∧
  ∀ (O n d : String) (w : Value), RoadKit.Fld Z h x O n d w → RoadKit.slotOf Z O n d ≠ RoadKit.slotOf Z ST "value" "[B" → RoadKit.slotOf Z O n d ≠ RoadKit.slotOf Z ST "coder" "B" → RoadKit.Fld Z h' x O n d w
/-- **new String(chars) AT A CALL, IN THE ROAD'S FORM**: for specialBack behind newO: x the fresh String, b the char[] with the cell A -/
theorem back {p : Program} {l : Launch} {e : Env} {R : Room} {s : State} {args : Array Value} {below : List Frame} {len W : Nat} {Z : State} {a0 : Array Value} {h : Heap} (hZ : Z.Warmed39 s.vm) (hw : ∀ d ∈ words, d.before a0 Z = true) {kI : Nat} (wi : (Jvm.Cond.instantiable ST kI).before a0 Z = true)
    {x b : Addr} {A : Cell} {z : Int32} {v0 c0 : Value} (E : RoadKit.Exa Z h x ST) (V : RoadKit.Fld Z h x ST "value" "[B" v0) (C : RoadKit.Fld Z h x ST "coder" "B" c0) (K : RoadKit.Arr Z h b A .char) (hty : Typed .char A) (S : RoadKit.Sta Z h ST "COMPACT_STRINGS" "Z" (.int z)) (hz : ¬ z = 0)
    (l0 : 0 < A.slots.size) (l2 : A.slots.size ≤ 536870912) (hp : ∀ i, i < A.slots.size → ¬ 255 < cv A i) (hfr : 4 ≤ R.frames) (hlo : W + 65 ≤ R.locals) :
    Back l R p e below s args New1.yN len W (fun P a => a = #[.ref x, .ref b] ∧ P.U.heap = h ∧ P.cells + 1 ≤ R.cells ∧ P.slots + A.slots.size ≤ R.slots)
      (fun P _ v B => ∃ L, Q Z x A h v B.U.heap L ∧ B.locs = P.locs ++ L ∧ B.cells = P.cells + 1 ∧ B.slots = P.slots + A.slots.size) := by
  intro m meth c P g ig mk a X hg hsize hdg hW hn hp'
  obtain ⟨rfl, rfl, r1, r2⟩ := hp'
  have al : Z.vm.Alike P.U.vm := hZ.alike.trans X.warmed.alike
  obtain ⟨D, cfV, kV, iV, fV, hD, gV, stV, knV, obV, asV, slV⟩ := id V
  obtain ⟨D', cfC, kC, iC, fC, hD', gC, stC, -, -, asC, slC⟩ := id C
  cases hD.symm.trans hD'
  obtain ⟨D2, kD, e1, e2, e3, e4, e5⟩ := id E
  cases hD.symm.trans e1
  obtain ⟨c2, k2, i1, i2, i3, -⟩ := Cond.instantiable_spec wi
  cases e2.symm.trans i1
  cases e3.symm.trans i2
  obtain ⟨kU, u1, u2⟩ := al.2.2 _ _ e3
  have hB : Blank ST x D P.U := ⟨hD, ⟨knV, fun q hq => by rw [hq] at obV; cases obV⟩, by rw [al.findClass]; exact e2, kU, u1, by rw [u2]; exact i3, by rw [u2]; exact e5 i3⟩
  have F1 : Found ST "value" "[B" fV P.U := ⟨SBG.found_only al ⟨cfV, kV, iV, gV⟩, stV⟩
  have F2 : Found ST "coder" "B" fC P.U := ⟨SBG.found_only al ⟨cfC, kC, iC, gC⟩, stC⟩
  have hA : Ch b A P.U := ⟨⟨K.1, State.isArrayOf_alike al K.2.1, K.2.2, by omega⟩, hty⟩
  have hS : StaticIs P.U ST "COMPACT_STRINGS" "Z" (.int z) := by
    obtain ⟨cfS, iS, kS, fS, st, cS, t1, t2, t3, t4, t5, t6, t7⟩ := S
    exact StaticIs.there (s := { Z with heap := P.U.heap }) ⟨cfS, iS, kS, fS, st, cS, t1, t2, t3, t4, t5, (fun q => by rw [q] at t6; cases t6), t7⟩ al rfl
  obtain ⟨v, B, X', ⟨⟨hv, E', V', q1, q2, q3, q4, q5, q6, q7, q8, q9, q10, q11⟩, hl, hc, hs⟩, st⟩ := New1.pays x D fV fC b A z (tab_of (moved hZ hw)) hfr hlo m meth c P g ig mk _ X hg hsize hdg hW hn ⟨r1, r2, rfl, hB, F1, F2, hA, hS, hz, l0, l2, hp⟩
  have al' : Z.vm.Alike B.U.vm := hZ.alike.trans X'.warmed.alike
  have hsz : E'.slots.size = D.slots.size := by
    obtain ⟨-, -, -, kB, w1, w2, w3⟩ := q1
    obtain ⟨kB', y1, y2⟩ := al'.2.2 _ _ e3
    rw [q2.2.1] at w1
    cases w1.symm.trans y1
    rw [w3, e5 i3, y2]
  refine ⟨v, B, X', ⟨_, ⟨hv, ?_, ⟨by omega, fun y cy hy hn' => q10 y cy (by simpa using hn') hy, fun y cy hy => ?_⟩, q11, ⟨E', _, q1.1, by rw [q2.2.1]; exact e2, by rw [q2.2.1]; exact e3, by rw [q2.1]; exact obV, fun _ => by rw [hsz]; exact e5 i3⟩,
    ⟨E', cfV, kV, iV, fV, q1.1, gV, stV, by rw [q2.1]; exact knV, by rw [q2.1]; exact obV, by rw [q2.2.1]; exact asV, q3⟩, ⟨E', cfC, kC, iC, fC, q1.1, gC, stC, by rw [q2.1]; exact knV, by rw [q2.1]; exact obV, by rw [q2.2.1]; exact asC, q4⟩,
    ⟨V', ⟨q5.1, State.isArrayOf_alike al'.symm q5.2.1, q5.2.2.1⟩, q6, by rw [← al'.findClass]; exact q7, q8, fun j hj => by have := q9 j hj; rwa [Nat.zero_add] at this⟩, fun O n d w F n1 n2 => ?_⟩, hl, hc, hs⟩, st⟩
  · intro y hy
    simp only [List.mem_cons, List.not_mem_nil, or_false] at hy
    rcases hy with rfl | rfl <;> rfl
  · by_cases q : y = x
    · subst q
      cases hD.symm.trans hy
      exact ⟨E', q1.1, q2.2.1, q2.1, hsz⟩
    · exact ⟨cy, q10 y cy q hy, rfl, rfl, rfl⟩
  · obtain ⟨D3, cf, k, i, f, g1, g2, g3, g4, g5, g6, g7⟩ := F
    cases hD.symm.trans g1
    simp only [RoadKit.slotOf, g2, gV, gC, Option.map_some, Option.getD_some] at n1 n2
    exact ⟨E', cf, k, i, f, q1.1, g2, g3, by rw [q2.1]; exact g4, by rw [q2.1]; exact g5, by rw [q2.2.1]; exact g6, by rw [q2.2.2 f.slot (by simp [n1, n2])]; exact g7⟩
end StrChars.Road
namespace StrChars.Road
open Jvm Sem ClassFile Op Lib Jvm.Stand Jvm.Free Jvm.Free.XT
/-- WHAT COMES BACK, the byte[] as a list of values -/
def QA (Z : State) (x : Addr) (zn : Int32) (cs : List Int32) (h : Heap) (v : Option Value) (h' : Heap) (L : List Loc) : Prop := v = none ∧ (∀ y ∈ L, y.base = x) ∧ RoadKit.Keep h h' [x] ∧ h'.size = h.size + 1 ∧ RoadKit.Exa Z h' x ST ∧ RoadKit.Fld Z h' x ST "value" "[B" (.ref h.size) ∧ RoadKit.Fld Z h' x ST "coder" "B" (.int 0) ∧
  (∃ kb, Z.vm.findClass "[B" = some kb ∧ RoadKit.Arv Z h' h.size kb .byte zn (cs.map fun c => .int (lo8 c)) (.int 0)) ∧
  ∀ (O n d : String) (w : Value), RoadKit.Fld Z h x O n d w → RoadKit.slotOf Z O n d ≠ RoadKit.slotOf Z ST "value" "[B" → RoadKit.slotOf Z O n d ≠ RoadKit.slotOf Z ST "coder" "B" → RoadKit.Fld Z h' x O n d w
/-- **new String(chars) AT A CALL, THE ARRAYS AS LISTS**: the char[] at b holds cs, not empty, no char above 255 -/
theorem backArv {p : Program} {l : Launch} {e : Env} {R : Room} {s : State} {args : Array Value} {below : List Frame} {len W : Nat} {Z : State} {a0 : Array Value} {h : Heap} (hZ : Z.Warmed39 s.vm) (hw : ∀ d ∈ words, d.before a0 Z = true) {kI : Nat} (wi : (Jvm.Cond.instantiable ST kI).before a0 Z = true)
    {x b : Addr} {k : ClassId} {zn z : Int32} {cs : List Int32} {dv v0 c0 : Value} (E : RoadKit.Exa Z h x ST) (V : RoadKit.Fld Z h x ST "value" "[B" v0) (C : RoadKit.Fld Z h x ST "coder" "B" c0) (K : RoadKit.Arv Z h b k .char zn (cs.map Value.int) dv) (S : RoadKit.Sta Z h ST "COMPACT_STRINGS" "Z" (.int z)) (hz : ¬ z = 0)
    (hlen : zn.toNatClampNeg = cs.length) (h0 : 0 < cs.length) (hbig : cs.length ≤ 536870912) (hall : ∀ c ∈ cs, ¬ 255 < c) (hfr : 4 ≤ R.frames) (hlo : W + 65 ≤ R.locals) :
    Back l R p e below s args New1.yN len W (fun P a => a = #[.ref x, .ref b] ∧ P.U.heap = h ∧ P.cells + 1 ≤ R.cells ∧ P.slots + cs.length ≤ R.slots)
      (fun P _ v B => ∃ L, QA Z x zn cs h v B.U.heap L ∧ B.locs = P.locs ++ L ∧ B.cells = P.cells + 1 ∧ B.slots = P.slots + cs.length) := by
  obtain ⟨A, K1, K2, K3, K4, K5, K6⟩ := K
  have e : A.slots.size = cs.length := K3.trans hlen
  have hat : ∀ (i : Nat) (hi : i < cs.length), A.slots[i]? = some (.int cs[i]) := fun i hi => by rw [K5 i (by omega)]; simp [List.getD_eq_getElem?_getD, hi]
  have hcv : ∀ (i : Nat) (hi : i < cs.length), cv A i = cs[i] := fun i hi => by unfold cv; rw [hat i hi]
  have hty : Typed .char A := fun i v hv => by
    have hi : i < A.slots.size := (Array.getElem?_eq_some_iff.mp hv).1
    have q := K5 i hi
    rw [hv] at q
    rw [Option.some.inj q]
    exact K6 i hi
  refine Back.mono (back hZ hw wi E V C K1 hty S hz (by omega) (by omega) (fun i hi => by rw [hcv i (by omega)]; exact hall _ (List.getElem_mem _)) hfr hlo) (fun P a hp => ⟨hp.1, hp.2.1, hp.2.2.1, by rw [e]; exact hp.2.2.2⟩) (fun P a v B hp hq => ?_)
  obtain ⟨L, ⟨q1, q2, q3, q4, q5, q6, q7, ⟨V', v1, v2, v3, v4, v5⟩, q9⟩, hl, hc, hs⟩ := hq
  refine ⟨L, ⟨q1, q2, q3, q4, q5, q6, q7, ⟨V'.cls, v3, V', v1, rfl, by rw [v4, e, hlen], K4, fun i hi => ?_, fun i hi => ?_⟩, q9⟩, hl, hc, by rw [hs, e]⟩
  · have hi' : i < cs.length := by omega
    rw [v5 i (by omega), hcv i hi']; simp [List.getD_eq_getElem?_getD, hi']
  · have hi' : i < cs.length := by omega
    simp only [List.getD_eq_getElem?_getD, List.getElem?_map, List.getElem?_eq_getElem hi', Option.map_some, Option.getD_some]
    exact fits_lo8 _
end StrChars.Road
namespace StrChars.Road
open Jvm Sem ClassFile Op Lib Jvm.Stand Jvm.Free Jvm.Free.XT
/-- WHAT COMES BACK, in the writer's own shape -/
def QV (Z : State) (x : Addr) (N : Int32) (bs : List Int32) (h : Heap) (n0 : Nat) (v : Option Value) (h' : Heap) (L : List Loc) : Prop := v = none ∧ RoadKit.Fr n0 L ∧ RoadKit.Keep h h' [x] ∧ RoadKit.Exa Z h' x ST ∧ RoadKit.Fld Z h' x ST "coder" "B" (.int 0) ∧
  ∃ (t : Addr) (kb : ClassId), n0 ≤ t ∧ h.size ≤ t ∧ ¬ t = x ∧ RoadKit.Fld Z h' x ST "value" "[B" (.ref t) ∧ RoadKit.Arv Z h' t kb .byte N (bs.map Value.int) (.int 0)
/-- **new String(chars) AT A CALL, FOR THE WRITER**: a char[] of n known ints, each 0 to 255 -/
theorem backV {p : Program} {l : Launch} {e : Env} {R : Room} {s : State} {args : Array Value} {below : List Frame} {len W : Nat} {Z : State} {a0 : Array Value} {h : Heap} (hZ : Z.Warmed39 s.vm) (hw : ∀ d ∈ words, d.before a0 Z = true) {kI : Nat} (wi : (Jvm.Cond.instantiable ST kI).before a0 Z = true)
    {x b : Addr} {kC : ClassId} {cs bs : List Int32} {d v0 c0 : Value} {z N : Int32} {n n0 : Nat} (hx0 : n0 ≤ x) (hh0 : n0 ≤ h.size) (E : RoadKit.Exa Z h x ST) (V : RoadKit.Fld Z h x ST "value" "[B" v0) (C : RoadKit.Fld Z h x ST "coder" "B" c0) (K : RoadKit.Arv Z h b kC .char N (cs.map Value.int) d) (S : RoadKit.Sta Z h ST "COMPACT_STRINGS" "Z" (.int z)) (hz : ¬ z = 0)
    (hn : cs.length = n) (hN : N = Int32.ofNat n) (l0 : 0 < n) (l2 : n ≤ 4000) (hp : ∀ c ∈ cs, ¬ c < 0 ∧ ¬ (255 : Int32) < c) (hb : bs = cs.map (fun c => c.toInt8.toInt32)) (hfr : 4 ≤ R.frames) (hlo : W + 65 ≤ R.locals) :
    Back l R p e below s args (⟨"java/lang/String", "<init>", "([C)V"⟩ : MethodName) len W (fun P a => a = #[.ref x, .ref b] ∧ P.U.heap = h ∧ P.cells + 1 ≤ R.cells ∧ P.slots + n ≤ R.slots)
      (fun P _ v B => ∃ L, QV Z x N bs h n0 v B.U.heap L ∧ B.locs = P.locs ++ L ∧ B.cells = P.cells + 1 ∧ B.slots = P.slots + n) := by
  subst hn hN hb
  refine Back.mono (backArv hZ hw wi E V C K S hz (n32 (by omega)) l0 (by omega) (fun c hc => (hp c hc).2) hfr hlo) (fun P a hp => hp) (fun P a v B hp hq => ?_)
  obtain ⟨L, ⟨q1, q2, q3, q4, q5, q6, q7, ⟨kb, v1, v2⟩, q9⟩, hl, hc, hs⟩ := hq
  exact ⟨L, ⟨q1, fun y hy => by rw [q2 y hy]; exact hx0, q3, q5, q7, h.size, kb, hh0, Nat.le_refl _, Nat.ne_of_gt E.lt, q6, by rw [List.map_map]; exact v2⟩, hl, hc, hs⟩
end StrChars.Road
end Jvm.Pilot.@@N@@

namespace Jvm.Pilot.@@N@@
open Jvm Jvm.ClassFile Sem Op Lib Jvm.Free Jvm.Stand Jvm.LawKit Jvm.RoadKit Bundle Jvm.OwnKit
section StrKit
variable {p : Program} {l : Launch} {e : Env} {R : Room} {s : State} {m : MethodId} {args : Array Value} {below : List Frame} {meth : Method} {c : Code} {Z : State} {a0 : Array Value} {EL : List (String × Nat)} {cw : Prop} {own : String} {n0 : Nat} {bytes : ByteArray} {maxL : Nat} {ret : Option FieldType} {nm : String} {T : State} {h : Heap} {C S : Nat} {sf : List Addr} {P : State → Outcome → Prop}
theorem G.newStr (H : Hs p l e R s m args below meth c Z a0 EL cw own n0 bytes maxL ret nm T h C S sf) (hws : ∀ d ∈ StrChars.Road.words, d.before a0 Z = true) {kI : Nat} (wi : (Jvm.Cond.instantiable "java/lang/String" kI).before a0 Z = true) {index : Nat} (w1 : (Jvm.Cond.methodLink own index (⟨"java/lang/String", "<init>", "([C)V"⟩ : MethodName)).before a0 Z = true) (w2 : (Jvm.Cond.instanceMethod (⟨"java/lang/String", "<init>", "([C)V"⟩ : MethodName)).before a0 Z = true)
    {x b : Addr} {kC : ClassId} {cs : List Int32} {d v0 c0 : Value} {z N : Int32} {n : Nat} (g : n0 ≤ x) (E : Exa Z h x "java/lang/String") (V : Fld Z h x "java/lang/String" "value" "[B" v0) (Cd : Fld Z h x "java/lang/String" "coder" "B" c0) (K : Arv Z h b kC .char N (cs.map Value.int) d) (Sc : Sta Z Z.heap "java/lang/String" "COMPACT_STRINGS" "Z" (.int z)) (hz : ¬ z = 0)
    (hn : cs.length = n) (hN : N = Int32.ofNat n) (l0 : 0 < n) (l2 : n ≤ 4000) (hp : ∀ c ∈ cs, ¬ c < 0 ∧ ¬ (255 : Int32) < c) (hsf : Sf Z EL h sf x) {rest : List Value} {W : Nat} {pc pc' : Nat} {L : Array Slot} (hL : L.size = maxL) (hW : (rest.map fun v => v.category).sum = W) (hd : decode bytes pc = .ok (.invokespecial index, 3)) (hp' : pc + 3 = pc') (hfr : 4 ≤ R.frames) (hlo : W + 65 ≤ R.locals) (hc : C + 1 ≤ R.cells) (hsl : S + n ≤ R.slots)
    (k : ∀ T' h' t kb, h.size ≤ t → Hs p l e R s m args below meth c Z a0 EL cw own n0 bytes maxL ret nm T' h' (C + 1) (S + n) (t :: sf) → Keep h h' [x] → Str Z h' x t kb cs → Go p e below P (T'.setTop (mkF m pc' L rest))) : Go p e below P (T.setTop (mkF m pc L (.ref b :: .ref x :: rest))) := by
  subst hp'
  obtain ⟨hM, vm0, k0, locs, X, h1, h2, h3, h4, h5, h6, h7, h8, h9, hO⟩ := id H
  have wc : (Jvm.Cond.code StrChars.New1.yN StrChars.New1.yB 2 none).before a0 Z = true := hws _ (List.mem_of_getElem? (i := 0) rfl)
  obtain ⟨v, vm₁, B, hw, X', ⟨L', ⟨q1, q2, q3, q4, q5, t, kb, q6, q7, q8, q9, q10⟩, r2, r3, r4⟩, st'⟩ := X.specialBack H.exec (y := (⟨"java/lang/String", "<init>", "([C)V"⟩ : MethodName)) rfl h5 (mvT (s := s.setVm vm0) h4 w1) (mvT (s := s.setVm vm0) h4 w2) (mvT (s := s.setVm vm0) h4 wc) (by decide)
    (StrChars.Road.backV (W := W) (s := s.setVm vm0) h4 hws wi g H.le E V Cd K (Sta.ext hO.2 Sc) hz hn hN l0 l2 hp rfl hfr hlo) (g := mkF m pc L (.ref b :: .ref x :: rest)) rfl (by rw [hM.2.2.2.1]; exact hL) (Steps.refl _) (a := x) (argsL := [.ref b]) (rest := rest) (lenOf (show parseMethodDescriptor "([C)V" = some ⟨[.array .char], none⟩ by decide +kernel) rfl) rfl (by show 2 * 0 + _ ≤ _; omega) (H.dec hd) (fun _ _ => ⟨rfl, h1, hc, hsl⟩)
  subst q1
  have sx : ∀ y ∈ [x], Safe Z EL vm0 h y := fun y hy => by rw [List.mem_singleton.mp hy]; exact hsf.safe h4 h8
  have hC := CHr.keep q3 sx h7.1
  refine Go.tr st' (k B.U B.U.heap t kb q7 ⟨hM, vm0, k0, B.locs, by rw [← r3, ← r4]; exact X', rfl, h2, Nat.le_trans h3 q3.1, h4, h5, by rw [r2]; exact Fr.app h6 q2, h7.trans hC, fun y hy => ?_, h9, hO.keep q3 (fun y hy => by rw [List.mem_singleton.mp hy]; exact g)⟩ q3 ⟨q4, q5, q9, ?_, hp, by rw [hn]; exact l2⟩)
  · rcases List.mem_cons.mp hy with rfl | hy
    · exact ⟨q10.lt, Safe.keep q3 sx h7.1 (Safe.new q7)⟩
    · exact ⟨Nat.lt_of_lt_of_le (h8 y hy).1 q3.1, Safe.keep q3 sx h7.1 (h8 y hy).2⟩
  · rw [hn, ← hN]; rw [List.map_map] at q10; exact q10
end StrKit
end Jvm.Pilot.@@N@@
namespace Jvm.Pilot.@@N@@
open Jvm Jvm.ClassFile Sem Op Lib Jvm.Free Jvm.Stand Jvm.LawKit Jvm.RoadKit Bundle Jvm.OwnKit Jvm.Pilot.@@N@@.Jvm.D
abbrev ELs : List (String × Nat) := [("com/example/tenure/tenure/Days", 15), ("java/lang/String", 7)]
def Env1 (Z : State) (a0 : Array Value) (n0 : Nat) (z_COMPACT_STRINGS : Int32) (z_SIOOBE_FORMATTER : Value) : Prop := (∀ d ∈ tables_1, d.before a0 Z = true) ∧ EW Z a0 ELs ∧ Sta Z Z.heap "java/lang/String" "COMPACT_STRINGS" "Z" (.int z_COMPACT_STRINGS) ∧ ¬ z_COMPACT_STRINGS = 0 ∧ Sta Z Z.heap "jdk/internal/util/Preconditions" "SIOOBE_FORMATTER" "Ljava/util/function/BiFunction;" z_SIOOBE_FORMATTER ∧ z_SIOOBE_FORMATTER.isRef = true ∧ True
theorem EWl {Z : State} {a0 : Array Value} {n0 : Nat} {z_COMPACT_STRINGS : Int32} {z_SIOOBE_FORMATTER : Value} (V : Env1 Z a0 n0 z_COMPACT_STRINGS z_SIOOBE_FORMATTER) : EW Z a0 ELs := V.2.1
theorem s_COMPACT_STRINGS {Z : State} {a0 : Array Value} {n0 : Nat} {z_COMPACT_STRINGS : Int32} {z_SIOOBE_FORMATTER : Value} (V : Env1 Z a0 n0 z_COMPACT_STRINGS z_SIOOBE_FORMATTER) : Sta Z Z.heap "java/lang/String" "COMPACT_STRINGS" "Z" (.int z_COMPACT_STRINGS) := V.2.2.1
theorem cz {Z : State} {a0 : Array Value} {n0 : Nat} {z_COMPACT_STRINGS : Int32} {z_SIOOBE_FORMATTER : Value} (V : Env1 Z a0 n0 z_COMPACT_STRINGS z_SIOOBE_FORMATTER) : ¬ z_COMPACT_STRINGS = 0 := V.2.2.2.1
theorem s_SIOOBE_FORMATTER {Z : State} {a0 : Array Value} {n0 : Nat} {z_COMPACT_STRINGS : Int32} {z_SIOOBE_FORMATTER : Value} (V : Env1 Z a0 n0 z_COMPACT_STRINGS z_SIOOBE_FORMATTER) : Sta Z Z.heap "jdk/internal/util/Preconditions" "SIOOBE_FORMATTER" "Ljava/util/function/BiFunction;" z_SIOOBE_FORMATTER := V.2.2.2.2.1
theorem r_SIOOBE_FORMATTER {Z : State} {a0 : Array Value} {n0 : Nat} {z_COMPACT_STRINGS : Int32} {z_SIOOBE_FORMATTER : Value} (V : Env1 Z a0 n0 z_COMPACT_STRINGS z_SIOOBE_FORMATTER) : z_SIOOBE_FORMATTER.isRef = true := V.2.2.2.2.2.1
theorem wd0 {Z : State} {a0 : Array Value} {n0 : Nat} {z_COMPACT_STRINGS : Int32} {z_SIOOBE_FORMATTER : Value} (V : Env1 Z a0 n0 z_COMPACT_STRINGS z_SIOOBE_FORMATTER) : (Jvm.Cond.arrayClass Jvm.ClassFile.FieldType.char).before a0 Z = true := V.1 _ (List.mem_of_getElem? (i := 0) rfl)
theorem wd1 {Z : State} {a0 : Array Value} {n0 : Nat} {z_COMPACT_STRINGS : Int32} {z_SIOOBE_FORMATTER : Value} (V : Env1 Z a0 n0 z_COMPACT_STRINGS z_SIOOBE_FORMATTER) : (Jvm.Cond.constantLong "com/example/tenure/tenure/DaysUntimedPinLaw" (7 : Nat) (255 : Int64)).before a0 Z = true := V.1 _ (List.mem_of_getElem? (i := 1) rfl)
theorem wd2 {Z : State} {a0 : Array Value} {n0 : Nat} {z_COMPACT_STRINGS : Int32} {z_SIOOBE_FORMATTER : Value} (V : Env1 Z a0 n0 z_COMPACT_STRINGS z_SIOOBE_FORMATTER) : (Jvm.Cond.constant "com/example/tenure/tenure/DaysUntimedPinLaw" (9 : Nat) (2147483647 : Int32)).before a0 Z = true := V.1 _ (List.mem_of_getElem? (i := 2) rfl)
theorem wd3 {Z : State} {a0 : Array Value} {n0 : Nat} {z_COMPACT_STRINGS : Int32} {z_SIOOBE_FORMATTER : Value} (V : Env1 Z a0 n0 z_COMPACT_STRINGS z_SIOOBE_FORMATTER) : (Jvm.Cond.classLink "com/example/tenure/tenure/DaysUntimedPinLaw" (10 : Nat) "java/lang/String").before a0 Z = true := V.1 _ (List.mem_of_getElem? (i := 3) rfl)
theorem wd4 {Z : State} {a0 : Array Value} {n0 : Nat} {z_COMPACT_STRINGS : Int32} {z_SIOOBE_FORMATTER : Value} (V : Env1 Z a0 n0 z_COMPACT_STRINGS z_SIOOBE_FORMATTER) : (Jvm.Cond.instantiable "java/lang/String" (4 : Nat)).before a0 Z = true := V.1 _ (List.mem_of_getElem? (i := 4) rfl)
theorem wd5 {Z : State} {a0 : Array Value} {n0 : Nat} {z_COMPACT_STRINGS : Int32} {z_SIOOBE_FORMATTER : Value} (V : Env1 Z a0 n0 z_COMPACT_STRINGS z_SIOOBE_FORMATTER) : (Jvm.Cond.initialized "java/lang/String").before a0 Z = true := V.1 _ (List.mem_of_getElem? (i := 5) rfl)
theorem wd6 {Z : State} {a0 : Array Value} {n0 : Nat} {z_COMPACT_STRINGS : Int32} {z_SIOOBE_FORMATTER : Value} (V : Env1 Z a0 n0 z_COMPACT_STRINGS z_SIOOBE_FORMATTER) : (Jvm.Cond.methodLink "com/example/tenure/tenure/DaysUntimedPinLaw" (12 : Nat) ({ cls := "com/example/tenure/tenure/DaysUntimedPinLaw", name := "prefix", desc := "([CI)[C" } : Jvm.MethodName)).before a0 Z = true := V.1 _ (List.mem_of_getElem? (i := 6) rfl)
theorem wd7 {Z : State} {a0 : Array Value} {n0 : Nat} {z_COMPACT_STRINGS : Int32} {z_SIOOBE_FORMATTER : Value} (V : Env1 Z a0 n0 z_COMPACT_STRINGS z_SIOOBE_FORMATTER) : (Jvm.Cond.static ({ cls := "com/example/tenure/tenure/DaysUntimedPinLaw", name := "prefix", desc := "([CI)[C" } : Jvm.MethodName)).before a0 Z = true := V.1 _ (List.mem_of_getElem? (i := 7) rfl)
theorem wd8 {Z : State} {a0 : Array Value} {n0 : Nat} {z_COMPACT_STRINGS : Int32} {z_SIOOBE_FORMATTER : Value} (V : Env1 Z a0 n0 z_COMPACT_STRINGS z_SIOOBE_FORMATTER) : (Jvm.Cond.initialized "com/example/tenure/tenure/DaysUntimedPinLaw").before a0 Z = true := V.1 _ (List.mem_of_getElem? (i := 8) rfl)
theorem wd9 {Z : State} {a0 : Array Value} {n0 : Nat} {z_COMPACT_STRINGS : Int32} {z_SIOOBE_FORMATTER : Value} (V : Env1 Z a0 n0 z_COMPACT_STRINGS z_SIOOBE_FORMATTER) : (Jvm.Cond.code ({ cls := "com/example/tenure/tenure/DaysUntimedPinLaw", name := "prefix", desc := "([CI)[C" } : Jvm.MethodName) method_3_code (3 : Nat) (Option.some (Jvm.ClassFile.FieldType.array Jvm.ClassFile.FieldType.char))).before a0 Z = true := V.1 _ (List.mem_of_getElem? (i := 9) rfl)
theorem wd10 {Z : State} {a0 : Array Value} {n0 : Nat} {z_COMPACT_STRINGS : Int32} {z_SIOOBE_FORMATTER : Value} (V : Env1 Z a0 n0 z_COMPACT_STRINGS z_SIOOBE_FORMATTER) : (Jvm.Cond.methodLink "com/example/tenure/tenure/DaysUntimedPinLaw" (18 : Nat) ({ cls := "java/lang/String", name := "<init>", desc := "([C)V" } : Jvm.MethodName)).before a0 Z = true := V.1 _ (List.mem_of_getElem? (i := 10) rfl)
theorem wd11 {Z : State} {a0 : Array Value} {n0 : Nat} {z_COMPACT_STRINGS : Int32} {z_SIOOBE_FORMATTER : Value} (V : Env1 Z a0 n0 z_COMPACT_STRINGS z_SIOOBE_FORMATTER) : (Jvm.Cond.instanceMethod ({ cls := "java/lang/String", name := "<init>", desc := "([C)V" } : Jvm.MethodName)).before a0 Z = true := V.1 _ (List.mem_of_getElem? (i := 11) rfl)
theorem wd12 {Z : State} {a0 : Array Value} {n0 : Nat} {z_COMPACT_STRINGS : Int32} {z_SIOOBE_FORMATTER : Value} (V : Env1 Z a0 n0 z_COMPACT_STRINGS z_SIOOBE_FORMATTER) : (Jvm.Cond.code ({ cls := "java/lang/String", name := "<init>", desc := "([C)V" } : Jvm.MethodName) jdk_42_method_3_code (2 : Nat) (Option.none : Option Jvm.ClassFile.FieldType)).before a0 Z = true := V.1 _ (List.mem_of_getElem? (i := 12) rfl)
theorem wd13 {Z : State} {a0 : Array Value} {n0 : Nat} {z_COMPACT_STRINGS : Int32} {z_SIOOBE_FORMATTER : Value} (V : Env1 Z a0 n0 z_COMPACT_STRINGS z_SIOOBE_FORMATTER) : (Jvm.Cond.methodLink "java/lang/String" (27 : Nat) ({ cls := "java/lang/String", name := "<init>", desc := "([CIILjava/lang/Void;)V" } : Jvm.MethodName)).before a0 Z = true := V.1 _ (List.mem_of_getElem? (i := 13) rfl)
theorem wd14 {Z : State} {a0 : Array Value} {n0 : Nat} {z_COMPACT_STRINGS : Int32} {z_SIOOBE_FORMATTER : Value} (V : Env1 Z a0 n0 z_COMPACT_STRINGS z_SIOOBE_FORMATTER) : (Jvm.Cond.instanceMethod ({ cls := "java/lang/String", name := "<init>", desc := "([CIILjava/lang/Void;)V" } : Jvm.MethodName)).before a0 Z = true := V.1 _ (List.mem_of_getElem? (i := 14) rfl)
theorem wd16 {Z : State} {a0 : Array Value} {n0 : Nat} {z_COMPACT_STRINGS : Int32} {z_SIOOBE_FORMATTER : Value} (V : Env1 Z a0 n0 z_COMPACT_STRINGS z_SIOOBE_FORMATTER) : (Jvm.Cond.code ({ cls := "java/lang/String", name := "<init>", desc := "([CIILjava/lang/Void;)V" } : Jvm.MethodName) jdk_42_method_149_code (6 : Nat) (Option.none : Option Jvm.ClassFile.FieldType)).before a0 Z = true := V.1 _ (List.mem_of_getElem? (i := 16) rfl)
theorem wd17 {Z : State} {a0 : Array Value} {n0 : Nat} {z_COMPACT_STRINGS : Int32} {z_SIOOBE_FORMATTER : Value} (V : Env1 Z a0 n0 z_COMPACT_STRINGS z_SIOOBE_FORMATTER) : (Jvm.Cond.methodLink "java/lang/String" (1 : Nat) ({ cls := "java/lang/Object", name := "<init>", desc := "()V" } : Jvm.MethodName)).before a0 Z = true := V.1 _ (List.mem_of_getElem? (i := 17) rfl)
theorem wd18 {Z : State} {a0 : Array Value} {n0 : Nat} {z_COMPACT_STRINGS : Int32} {z_SIOOBE_FORMATTER : Value} (V : Env1 Z a0 n0 z_COMPACT_STRINGS z_SIOOBE_FORMATTER) : (Jvm.Cond.instanceMethod ({ cls := "java/lang/Object", name := "<init>", desc := "()V" } : Jvm.MethodName)).before a0 Z = true := V.1 _ (List.mem_of_getElem? (i := 18) rfl)
theorem wd19 {Z : State} {a0 : Array Value} {n0 : Nat} {z_COMPACT_STRINGS : Int32} {z_SIOOBE_FORMATTER : Value} (V : Env1 Z a0 n0 z_COMPACT_STRINGS z_SIOOBE_FORMATTER) : (Jvm.Cond.code ({ cls := "java/lang/Object", name := "<init>", desc := "()V" } : Jvm.MethodName) object_method_1_code (1 : Nat) (Option.none : Option Jvm.ClassFile.FieldType)).before a0 Z = true := V.1 _ (List.mem_of_getElem? (i := 19) rfl)
theorem wd20 {Z : State} {a0 : Array Value} {n0 : Nat} {z_COMPACT_STRINGS : Int32} {z_SIOOBE_FORMATTER : Value} (V : Env1 Z a0 n0 z_COMPACT_STRINGS z_SIOOBE_FORMATTER) : (Jvm.Cond.fieldLink "java/lang/String" (38 : Nat) "java/lang/String" "COMPACT_STRINGS" "Z").before a0 Z = true := V.1 _ (List.mem_of_getElem? (i := 20) rfl)
theorem wd32 {Z : State} {a0 : Array Value} {n0 : Nat} {z_COMPACT_STRINGS : Int32} {z_SIOOBE_FORMATTER : Value} (V : Env1 Z a0 n0 z_COMPACT_STRINGS z_SIOOBE_FORMATTER) : (Jvm.Cond.fieldLink "java/lang/String" (15 : Nat) "java/lang/String" "coder" "B").before a0 Z = true := V.1 _ (List.mem_of_getElem? (i := 32) rfl)
theorem wd33 {Z : State} {a0 : Array Value} {n0 : Nat} {z_COMPACT_STRINGS : Int32} {z_SIOOBE_FORMATTER : Value} (V : Env1 Z a0 n0 z_COMPACT_STRINGS z_SIOOBE_FORMATTER) : (Jvm.Cond.laysFinal "java/lang/String" "java/lang/String" "coder" "B").before a0 Z = true := V.1 _ (List.mem_of_getElem? (i := 33) rfl)
theorem wd34 {Z : State} {a0 : Array Value} {n0 : Nat} {z_COMPACT_STRINGS : Int32} {z_SIOOBE_FORMATTER : Value} (V : Env1 Z a0 n0 z_COMPACT_STRINGS z_SIOOBE_FORMATTER) : (Jvm.Cond.fieldLink "java/lang/String" (9 : Nat) "java/lang/String" "value" "[B").before a0 Z = true := V.1 _ (List.mem_of_getElem? (i := 34) rfl)
theorem wd35 {Z : State} {a0 : Array Value} {n0 : Nat} {z_COMPACT_STRINGS : Int32} {z_SIOOBE_FORMATTER : Value} (V : Env1 Z a0 n0 z_COMPACT_STRINGS z_SIOOBE_FORMATTER) : (Jvm.Cond.laysFinal "java/lang/String" "java/lang/String" "value" "[B").before a0 Z = true := V.1 _ (List.mem_of_getElem? (i := 35) rfl)
theorem wd36 {Z : State} {a0 : Array Value} {n0 : Nat} {z_COMPACT_STRINGS : Int32} {z_SIOOBE_FORMATTER : Value} (V : Env1 Z a0 n0 z_COMPACT_STRINGS z_SIOOBE_FORMATTER) : (Jvm.Cond.methodLink "com/example/tenure/tenure/DaysUntimedPinLaw" (21 : Nat) ({ cls := "com/example/tenure/tenure/Days", name := "untimed", desc := "(Ljava/lang/String;)Z" } : Jvm.MethodName)).before a0 Z = true := V.1 _ (List.mem_of_getElem? (i := 36) rfl)
theorem wd37 {Z : State} {a0 : Array Value} {n0 : Nat} {z_COMPACT_STRINGS : Int32} {z_SIOOBE_FORMATTER : Value} (V : Env1 Z a0 n0 z_COMPACT_STRINGS z_SIOOBE_FORMATTER) : (Jvm.Cond.static ({ cls := "com/example/tenure/tenure/Days", name := "untimed", desc := "(Ljava/lang/String;)Z" } : Jvm.MethodName)).before a0 Z = true := V.1 _ (List.mem_of_getElem? (i := 37) rfl)
theorem wd38 {Z : State} {a0 : Array Value} {n0 : Nat} {z_COMPACT_STRINGS : Int32} {z_SIOOBE_FORMATTER : Value} (V : Env1 Z a0 n0 z_COMPACT_STRINGS z_SIOOBE_FORMATTER) : (Jvm.Cond.initialized "com/example/tenure/tenure/Days").before a0 Z = true := V.1 _ (List.mem_of_getElem? (i := 38) rfl)
theorem wd39 {Z : State} {a0 : Array Value} {n0 : Nat} {z_COMPACT_STRINGS : Int32} {z_SIOOBE_FORMATTER : Value} (V : Env1 Z a0 n0 z_COMPACT_STRINGS z_SIOOBE_FORMATTER) : (Jvm.Cond.code ({ cls := "com/example/tenure/tenure/Days", name := "untimed", desc := "(Ljava/lang/String;)Z" } : Jvm.MethodName) prog_14_method_4_code (1 : Nat) (Option.some Jvm.ClassFile.FieldType.boolean)).before a0 Z = true := V.1 _ (List.mem_of_getElem? (i := 39) rfl)
theorem wd40 {Z : State} {a0 : Array Value} {n0 : Nat} {z_COMPACT_STRINGS : Int32} {z_SIOOBE_FORMATTER : Value} (V : Env1 Z a0 n0 z_COMPACT_STRINGS z_SIOOBE_FORMATTER) : (Jvm.Cond.methodLink "com/example/tenure/tenure/Days" (52 : Nat) ({ cls := "java/lang/String", name := "length", desc := "()I" } : Jvm.MethodName)).before a0 Z = true := V.1 _ (List.mem_of_getElem? (i := 40) rfl)
theorem wd41 {Z : State} {a0 : Array Value} {n0 : Nat} {z_COMPACT_STRINGS : Int32} {z_SIOOBE_FORMATTER : Value} (V : Env1 Z a0 n0 z_COMPACT_STRINGS z_SIOOBE_FORMATTER) : (Jvm.Cond.declares ({ cls := "java/lang/String", name := "length", desc := "()I" } : Jvm.MethodName)).before a0 Z = true := V.1 _ (List.mem_of_getElem? (i := 41) rfl)
theorem wd42 {Z : State} {a0 : Array Value} {n0 : Nat} {z_COMPACT_STRINGS : Int32} {z_SIOOBE_FORMATTER : Value} (V : Env1 Z a0 n0 z_COMPACT_STRINGS z_SIOOBE_FORMATTER) : (Jvm.Cond.instanceMethod ({ cls := "java/lang/String", name := "length", desc := "()I" } : Jvm.MethodName)).before a0 Z = true := V.1 _ (List.mem_of_getElem? (i := 42) rfl)
theorem wd43 {Z : State} {a0 : Array Value} {n0 : Nat} {z_COMPACT_STRINGS : Int32} {z_SIOOBE_FORMATTER : Value} (V : Env1 Z a0 n0 z_COMPACT_STRINGS z_SIOOBE_FORMATTER) : (Jvm.Cond.selects "java/lang/String" ({ cls := "java/lang/String", name := "length", desc := "()I" } : Jvm.MethodName) ({ cls := "java/lang/String", name := "length", desc := "()I" } : Jvm.MethodName)).before a0 Z = true := V.1 _ (List.mem_of_getElem? (i := 43) rfl)
theorem wd44 {Z : State} {a0 : Array Value} {n0 : Nat} {z_COMPACT_STRINGS : Int32} {z_SIOOBE_FORMATTER : Value} (V : Env1 Z a0 n0 z_COMPACT_STRINGS z_SIOOBE_FORMATTER) : (Jvm.Cond.code ({ cls := "java/lang/String", name := "length", desc := "()I" } : Jvm.MethodName) jdk_42_method_54_code (1 : Nat) (Option.some Jvm.ClassFile.FieldType.int)).before a0 Z = true := V.1 _ (List.mem_of_getElem? (i := 44) rfl)
theorem wd45 {Z : State} {a0 : Array Value} {n0 : Nat} {z_COMPACT_STRINGS : Int32} {z_SIOOBE_FORMATTER : Value} (V : Env1 Z a0 n0 z_COMPACT_STRINGS z_SIOOBE_FORMATTER) : (Jvm.Cond.methodLink "java/lang/String" (335 : Nat) ({ cls := "java/lang/String", name := "coder", desc := "()B" } : Jvm.MethodName)).before a0 Z = true := V.1 _ (List.mem_of_getElem? (i := 45) rfl)
theorem wd46 {Z : State} {a0 : Array Value} {n0 : Nat} {z_COMPACT_STRINGS : Int32} {z_SIOOBE_FORMATTER : Value} (V : Env1 Z a0 n0 z_COMPACT_STRINGS z_SIOOBE_FORMATTER) : (Jvm.Cond.declares ({ cls := "java/lang/String", name := "coder", desc := "()B" } : Jvm.MethodName)).before a0 Z = true := V.1 _ (List.mem_of_getElem? (i := 46) rfl)
theorem wd47 {Z : State} {a0 : Array Value} {n0 : Nat} {z_COMPACT_STRINGS : Int32} {z_SIOOBE_FORMATTER : Value} (V : Env1 Z a0 n0 z_COMPACT_STRINGS z_SIOOBE_FORMATTER) : (Jvm.Cond.instanceMethod ({ cls := "java/lang/String", name := "coder", desc := "()B" } : Jvm.MethodName)).before a0 Z = true := V.1 _ (List.mem_of_getElem? (i := 47) rfl)
theorem wd48 {Z : State} {a0 : Array Value} {n0 : Nat} {z_COMPACT_STRINGS : Int32} {z_SIOOBE_FORMATTER : Value} (V : Env1 Z a0 n0 z_COMPACT_STRINGS z_SIOOBE_FORMATTER) : (Jvm.Cond.selects "java/lang/String" ({ cls := "java/lang/String", name := "coder", desc := "()B" } : Jvm.MethodName) ({ cls := "java/lang/String", name := "coder", desc := "()B" } : Jvm.MethodName)).before a0 Z = true := V.1 _ (List.mem_of_getElem? (i := 48) rfl)
theorem wd49 {Z : State} {a0 : Array Value} {n0 : Nat} {z_COMPACT_STRINGS : Int32} {z_SIOOBE_FORMATTER : Value} (V : Env1 Z a0 n0 z_COMPACT_STRINGS z_SIOOBE_FORMATTER) : (Jvm.Cond.code ({ cls := "java/lang/String", name := "coder", desc := "()B" } : Jvm.MethodName) jdk_42_method_152_code (1 : Nat) (Option.some Jvm.ClassFile.FieldType.byte)).before a0 Z = true := V.1 _ (List.mem_of_getElem? (i := 49) rfl)
theorem wd50 {Z : State} {a0 : Array Value} {n0 : Nat} {z_COMPACT_STRINGS : Int32} {z_SIOOBE_FORMATTER : Value} (V : Env1 Z a0 n0 z_COMPACT_STRINGS z_SIOOBE_FORMATTER) : (Jvm.Cond.stringLink "com/example/tenure/tenure/Days" (15 : Nat) "0000-00-00").before a0 Z = true := V.1 _ (List.mem_of_getElem? (i := 50) rfl)
theorem wd53 {Z : State} {a0 : Array Value} {n0 : Nat} {z_COMPACT_STRINGS : Int32} {z_SIOOBE_FORMATTER : Value} (V : Env1 Z a0 n0 z_COMPACT_STRINGS z_SIOOBE_FORMATTER) : (Jvm.Cond.stringLink "java/lang/String" (7 : Nat) "").before a0 Z = true := V.1 _ (List.mem_of_getElem? (i := 53) rfl)
set_option maxRecDepth 65536 in
theorem wS {Z : State} {a0 : Array Value} {n0 : Nat} {z_COMPACT_STRINGS : Int32} {z_SIOOBE_FORMATTER : Value} (V : Env1 Z a0 n0 z_COMPACT_STRINGS z_SIOOBE_FORMATTER) : ∀ a ∈ Bundle.stringAtoms, a.before a0 Z = true := fun d hd => V.1 d ((by decide +kernel : ∀ d ∈ Bundle.stringAtoms, d ∈ tables_1) d hd)
theorem pd_0 : parseMethodDescriptor "([CI)[C" = some ⟨[(.array .char), .int], (some (.array .char))⟩ := by decide +kernel
theorem pd_1 : parseMethodDescriptor "([CIILjava/lang/Void;)V" = some ⟨[(.array .char), .int, .int, (.object "java/lang/Void")], none⟩ := by decide +kernel
theorem pd_2 : parseMethodDescriptor "([C)V" = some ⟨[(.array .char)], none⟩ := by decide +kernel
theorem pd_3 : parseMethodDescriptor "()B" = some ⟨[], (some .byte)⟩ := by decide +kernel
theorem pd_4 : parseMethodDescriptor "()I" = some ⟨[], (some .int)⟩ := by decide +kernel
theorem pd_5 : parseMethodDescriptor "(Ljava/lang/String;)Z" = some ⟨[(.object "java/lang/String")], (some .boolean)⟩ := by decide +kernel
set_option maxRecDepth 65536 in
theorem strw {Z : State} {a0 : Array Value} {n0 : Nat} {z_COMPACT_STRINGS : Int32} {z_SIOOBE_FORMATTER : Value} (V : Env1 Z a0 n0 z_COMPACT_STRINGS z_SIOOBE_FORMATTER) : ∀ d ∈ StrChars.Road.words, d.before a0 Z = true := fun d hd => V.1 d ((by decide +kernel : ∀ d ∈ StrChars.Road.words, d ∈ tables_1) d hd)
theorem dc_method_3_code_0 : decode method_3_code 0 = .ok (.iload_n 1, 1) := by decide +kernel
theorem dc_method_3_code_1 : decode method_3_code 1 = .ok (.newarray .char, 2) := by decide +kernel
theorem dc_method_3_code_3 : decode method_3_code 3 = .ok (.astore_n 2, 1) := by decide +kernel
theorem dc_method_3_code_4 : decode method_3_code 4 = .ok (.iload_n 1, 1) := by decide +kernel
theorem dc_method_3_code_5 : decode method_3_code 5 = .ok (.tableswitch 243 1 20 #[237, 231, 225, 219, 213, 207, 199, 191, 183, 175, 167, 159, 151, 143, 135, 127, 119, 111, 103, 95], 95) := by decide +kernel
theorem dc_method_3_code_248 : decode method_3_code 248 = .ok (.aload_n 2, 1) := by decide +kernel
theorem dc_method_3_code_249 : decode method_3_code 249 = .ok (.areturn, 1) := by decide +kernel
theorem dc_jdk_42_method_3_code_0 : decode jdk_42_method_3_code 0 = .ok (.aload_n 0, 1) := by decide +kernel
theorem dc_jdk_42_method_3_code_1 : decode jdk_42_method_3_code 1 = .ok (.aload_n 1, 1) := by decide +kernel
theorem dc_jdk_42_method_3_code_2 : decode jdk_42_method_3_code 2 = .ok (.iconst 0, 1) := by decide +kernel
theorem dc_jdk_42_method_3_code_3 : decode jdk_42_method_3_code 3 = .ok (.aload_n 1, 1) := by decide +kernel
theorem dc_jdk_42_method_3_code_4 : decode jdk_42_method_3_code 4 = .ok (.arraylength, 1) := by decide +kernel
theorem dc_jdk_42_method_3_code_5 : decode jdk_42_method_3_code 5 = .ok (.aconst_null, 1) := by decide +kernel
theorem dc_jdk_42_method_3_code_6 : decode jdk_42_method_3_code 6 = .ok (.invokespecial 27, 3) := by decide +kernel
theorem dc_jdk_42_method_149_code_0 : decode jdk_42_method_149_code 0 = .ok (.aload_n 0, 1) := by decide +kernel
theorem dc_jdk_42_method_149_code_1 : decode jdk_42_method_149_code 1 = .ok (.invokespecial 1, 3) := by decide +kernel
theorem dc_jdk_42_method_149_code_4 : decode jdk_42_method_149_code 4 = .ok (.iload_n 3, 1) := by decide +kernel
theorem dc_jdk_42_method_149_code_5 : decode jdk_42_method_149_code 5 = .ok (.ifCond .ne 22, 3) := by decide +kernel
theorem dc_jdk_42_method_149_code_8 : decode jdk_42_method_149_code 8 = .ok (.aload_n 0, 1) := by decide +kernel
theorem dc_jdk_42_method_149_code_9 : decode jdk_42_method_149_code 9 = .ok (.ldc 7, 2) := by decide +kernel
theorem dc_jdk_42_method_149_code_11 : decode jdk_42_method_149_code 11 = .ok (.getfield 9, 3) := by decide +kernel
theorem dc_jdk_42_method_149_code_14 : decode jdk_42_method_149_code 14 = .ok (.putfield 9, 3) := by decide +kernel
theorem dc_jdk_42_method_149_code_17 : decode jdk_42_method_149_code 17 = .ok (.aload_n 0, 1) := by decide +kernel
theorem dc_jdk_42_method_149_code_18 : decode jdk_42_method_149_code 18 = .ok (.ldc 7, 2) := by decide +kernel
theorem dc_jdk_42_method_149_code_20 : decode jdk_42_method_149_code 20 = .ok (.getfield 15, 3) := by decide +kernel
theorem dc_jdk_42_method_149_code_23 : decode jdk_42_method_149_code 23 = .ok (.putfield 15, 3) := by decide +kernel
theorem dc_jdk_42_method_149_code_26 : decode jdk_42_method_149_code 26 = .ok (.return_, 1) := by decide +kernel
theorem dc_jdk_42_method_3_code_9 : decode jdk_42_method_3_code 9 = .ok (.return_, 1) := by decide +kernel
theorem dc_prog_14_method_4_code_0 : decode prog_14_method_4_code 0 = .ok (.aload_n 0, 1) := by decide +kernel
theorem dc_prog_14_method_4_code_1 : decode prog_14_method_4_code 1 = .ok (.invokevirtual 52, 3) := by decide +kernel
theorem dc_jdk_42_method_54_code_0 : decode jdk_42_method_54_code 0 = .ok (.aload_n 0, 1) := by decide +kernel
theorem dc_jdk_42_method_54_code_1 : decode jdk_42_method_54_code 1 = .ok (.getfield 9, 3) := by decide +kernel
theorem dc_jdk_42_method_54_code_4 : decode jdk_42_method_54_code 4 = .ok (.arraylength, 1) := by decide +kernel
theorem dc_jdk_42_method_54_code_5 : decode jdk_42_method_54_code 5 = .ok (.aload_n 0, 1) := by decide +kernel
theorem dc_jdk_42_method_54_code_6 : decode jdk_42_method_54_code 6 = .ok (.invokevirtual 335, 3) := by decide +kernel
theorem dc_jdk_42_method_152_code_0 : decode jdk_42_method_152_code 0 = .ok (.getstatic 38, 3) := by decide +kernel
theorem dc_jdk_42_method_152_code_3 : decode jdk_42_method_152_code 3 = .ok (.ifCond .eq 10, 3) := by decide +kernel
theorem dc_jdk_42_method_152_code_6 : decode jdk_42_method_152_code 6 = .ok (.aload_n 0, 1) := by decide +kernel
theorem dc_jdk_42_method_152_code_7 : decode jdk_42_method_152_code 7 = .ok (.getfield 15, 3) := by decide +kernel
theorem dc_jdk_42_method_152_code_10 : decode jdk_42_method_152_code 10 = .ok (.goto 4, 3) := by decide +kernel
theorem dc_jdk_42_method_152_code_14 : decode jdk_42_method_152_code 14 = .ok (.ireturn, 1) := by decide +kernel
theorem dc_jdk_42_method_54_code_9 : decode jdk_42_method_54_code 9 = .ok (.ishr, 1) := by decide +kernel
theorem dc_jdk_42_method_54_code_10 : decode jdk_42_method_54_code 10 = .ok (.ireturn, 1) := by decide +kernel
theorem dc_prog_14_method_4_code_4 : decode prog_14_method_4_code 4 = .ok (.ldc 15, 2) := by decide +kernel
theorem dc_prog_14_method_4_code_6 : decode prog_14_method_4_code 6 = .ok (.invokevirtual 52, 3) := by decide +kernel
theorem dc_prog_14_method_4_code_9 : decode prog_14_method_4_code 9 = .ok (.if_icmp .ne 7, 3) := by decide +kernel
theorem dc_prog_14_method_4_code_16 : decode prog_14_method_4_code 16 = .ok (.iconst 0, 1) := by decide +kernel
theorem dc_prog_14_method_4_code_17 : decode prog_14_method_4_code 17 = .ok (.ireturn, 1) := by decide +kernel
theorem dc_method_3_code_242 : decode method_3_code 242 = .ok (.aload_n 2, 1) := by decide +kernel
theorem dc_method_3_code_243 : decode method_3_code 243 = .ok (.iconst 0, 1) := by decide +kernel
theorem dc_method_3_code_244 : decode method_3_code 244 = .ok (.aload_n 0, 1) := by decide +kernel
theorem dc_method_3_code_245 : decode method_3_code 245 = .ok (.iconst 0, 1) := by decide +kernel
theorem dc_method_3_code_246 : decode method_3_code 246 = .ok (.caload, 1) := by decide +kernel
theorem dc_method_3_code_247 : decode method_3_code 247 = .ok (.castore, 1) := by decide +kernel
theorem dc_method_3_code_236 : decode method_3_code 236 = .ok (.aload_n 2, 1) := by decide +kernel
theorem dc_method_3_code_237 : decode method_3_code 237 = .ok (.iconst 1, 1) := by decide +kernel
theorem dc_method_3_code_238 : decode method_3_code 238 = .ok (.aload_n 0, 1) := by decide +kernel
theorem dc_method_3_code_239 : decode method_3_code 239 = .ok (.iconst 1, 1) := by decide +kernel
theorem dc_method_3_code_240 : decode method_3_code 240 = .ok (.caload, 1) := by decide +kernel
theorem dc_method_3_code_241 : decode method_3_code 241 = .ok (.castore, 1) := by decide +kernel
theorem dc_method_3_code_230 : decode method_3_code 230 = .ok (.aload_n 2, 1) := by decide +kernel
theorem dc_method_3_code_231 : decode method_3_code 231 = .ok (.iconst 2, 1) := by decide +kernel
theorem dc_method_3_code_232 : decode method_3_code 232 = .ok (.aload_n 0, 1) := by decide +kernel
theorem dc_method_3_code_233 : decode method_3_code 233 = .ok (.iconst 2, 1) := by decide +kernel
theorem dc_method_3_code_234 : decode method_3_code 234 = .ok (.caload, 1) := by decide +kernel
theorem dc_method_3_code_235 : decode method_3_code 235 = .ok (.castore, 1) := by decide +kernel
theorem dc_method_3_code_224 : decode method_3_code 224 = .ok (.aload_n 2, 1) := by decide +kernel
theorem dc_method_3_code_225 : decode method_3_code 225 = .ok (.iconst 3, 1) := by decide +kernel
theorem dc_method_3_code_226 : decode method_3_code 226 = .ok (.aload_n 0, 1) := by decide +kernel
theorem dc_method_3_code_227 : decode method_3_code 227 = .ok (.iconst 3, 1) := by decide +kernel
theorem dc_method_3_code_228 : decode method_3_code 228 = .ok (.caload, 1) := by decide +kernel
theorem dc_method_3_code_229 : decode method_3_code 229 = .ok (.castore, 1) := by decide +kernel
theorem dc_method_3_code_218 : decode method_3_code 218 = .ok (.aload_n 2, 1) := by decide +kernel
theorem dc_method_3_code_219 : decode method_3_code 219 = .ok (.iconst 4, 1) := by decide +kernel
theorem dc_method_3_code_220 : decode method_3_code 220 = .ok (.aload_n 0, 1) := by decide +kernel
theorem dc_method_3_code_221 : decode method_3_code 221 = .ok (.iconst 4, 1) := by decide +kernel
theorem dc_method_3_code_222 : decode method_3_code 222 = .ok (.caload, 1) := by decide +kernel
theorem dc_method_3_code_223 : decode method_3_code 223 = .ok (.castore, 1) := by decide +kernel
theorem dc_method_3_code_212 : decode method_3_code 212 = .ok (.aload_n 2, 1) := by decide +kernel
theorem dc_method_3_code_213 : decode method_3_code 213 = .ok (.iconst 5, 1) := by decide +kernel
theorem dc_method_3_code_214 : decode method_3_code 214 = .ok (.aload_n 0, 1) := by decide +kernel
theorem dc_method_3_code_215 : decode method_3_code 215 = .ok (.iconst 5, 1) := by decide +kernel
theorem dc_method_3_code_216 : decode method_3_code 216 = .ok (.caload, 1) := by decide +kernel
theorem dc_method_3_code_217 : decode method_3_code 217 = .ok (.castore, 1) := by decide +kernel
theorem dc_method_3_code_204 : decode method_3_code 204 = .ok (.aload_n 2, 1) := by decide +kernel
theorem dc_method_3_code_205 : decode method_3_code 205 = .ok (.bipush 6, 2) := by decide +kernel
theorem dc_method_3_code_207 : decode method_3_code 207 = .ok (.aload_n 0, 1) := by decide +kernel
theorem dc_method_3_code_208 : decode method_3_code 208 = .ok (.bipush 6, 2) := by decide +kernel
theorem dc_method_3_code_210 : decode method_3_code 210 = .ok (.caload, 1) := by decide +kernel
theorem dc_method_3_code_211 : decode method_3_code 211 = .ok (.castore, 1) := by decide +kernel
theorem dc_method_3_code_196 : decode method_3_code 196 = .ok (.aload_n 2, 1) := by decide +kernel
theorem dc_method_3_code_197 : decode method_3_code 197 = .ok (.bipush 7, 2) := by decide +kernel
theorem dc_method_3_code_199 : decode method_3_code 199 = .ok (.aload_n 0, 1) := by decide +kernel
theorem dc_method_3_code_200 : decode method_3_code 200 = .ok (.bipush 7, 2) := by decide +kernel
theorem dc_method_3_code_202 : decode method_3_code 202 = .ok (.caload, 1) := by decide +kernel
theorem dc_method_3_code_203 : decode method_3_code 203 = .ok (.castore, 1) := by decide +kernel
theorem dc_method_3_code_188 : decode method_3_code 188 = .ok (.aload_n 2, 1) := by decide +kernel
theorem dc_method_3_code_189 : decode method_3_code 189 = .ok (.bipush 8, 2) := by decide +kernel
theorem dc_method_3_code_191 : decode method_3_code 191 = .ok (.aload_n 0, 1) := by decide +kernel
theorem dc_method_3_code_192 : decode method_3_code 192 = .ok (.bipush 8, 2) := by decide +kernel
theorem dc_method_3_code_194 : decode method_3_code 194 = .ok (.caload, 1) := by decide +kernel
theorem dc_method_3_code_195 : decode method_3_code 195 = .ok (.castore, 1) := by decide +kernel
theorem dc_method_3_code_180 : decode method_3_code 180 = .ok (.aload_n 2, 1) := by decide +kernel
theorem dc_method_3_code_181 : decode method_3_code 181 = .ok (.bipush 9, 2) := by decide +kernel
theorem dc_method_3_code_183 : decode method_3_code 183 = .ok (.aload_n 0, 1) := by decide +kernel
theorem dc_method_3_code_184 : decode method_3_code 184 = .ok (.bipush 9, 2) := by decide +kernel
theorem dc_method_3_code_186 : decode method_3_code 186 = .ok (.caload, 1) := by decide +kernel
theorem dc_method_3_code_187 : decode method_3_code 187 = .ok (.castore, 1) := by decide +kernel
theorem dc_prog_14_method_4_code_12 : decode prog_14_method_4_code 12 = .ok (.iconst 1, 1) := by decide +kernel
theorem dc_prog_14_method_4_code_13 : decode prog_14_method_4_code 13 = .ok (.goto 4, 3) := by decide +kernel
theorem dc_method_3_code_172 : decode method_3_code 172 = .ok (.aload_n 2, 1) := by decide +kernel
theorem dc_method_3_code_173 : decode method_3_code 173 = .ok (.bipush 10, 2) := by decide +kernel
theorem dc_method_3_code_175 : decode method_3_code 175 = .ok (.aload_n 0, 1) := by decide +kernel
theorem dc_method_3_code_176 : decode method_3_code 176 = .ok (.bipush 10, 2) := by decide +kernel
theorem dc_method_3_code_178 : decode method_3_code 178 = .ok (.caload, 1) := by decide +kernel
theorem dc_method_3_code_179 : decode method_3_code 179 = .ok (.castore, 1) := by decide +kernel
theorem dc_method_3_code_164 : decode method_3_code 164 = .ok (.aload_n 2, 1) := by decide +kernel
theorem dc_method_3_code_165 : decode method_3_code 165 = .ok (.bipush 11, 2) := by decide +kernel
theorem dc_method_3_code_167 : decode method_3_code 167 = .ok (.aload_n 0, 1) := by decide +kernel
theorem dc_method_3_code_168 : decode method_3_code 168 = .ok (.bipush 11, 2) := by decide +kernel
theorem dc_method_3_code_170 : decode method_3_code 170 = .ok (.caload, 1) := by decide +kernel
theorem dc_method_3_code_171 : decode method_3_code 171 = .ok (.castore, 1) := by decide +kernel
theorem dc_method_3_code_156 : decode method_3_code 156 = .ok (.aload_n 2, 1) := by decide +kernel
theorem dc_method_3_code_157 : decode method_3_code 157 = .ok (.bipush 12, 2) := by decide +kernel
theorem dc_method_3_code_159 : decode method_3_code 159 = .ok (.aload_n 0, 1) := by decide +kernel
theorem dc_method_3_code_160 : decode method_3_code 160 = .ok (.bipush 12, 2) := by decide +kernel
theorem dc_method_3_code_162 : decode method_3_code 162 = .ok (.caload, 1) := by decide +kernel
theorem dc_method_3_code_163 : decode method_3_code 163 = .ok (.castore, 1) := by decide +kernel
theorem dc_method_3_code_148 : decode method_3_code 148 = .ok (.aload_n 2, 1) := by decide +kernel
theorem dc_method_3_code_149 : decode method_3_code 149 = .ok (.bipush 13, 2) := by decide +kernel
theorem dc_method_3_code_151 : decode method_3_code 151 = .ok (.aload_n 0, 1) := by decide +kernel
theorem dc_method_3_code_152 : decode method_3_code 152 = .ok (.bipush 13, 2) := by decide +kernel
theorem dc_method_3_code_154 : decode method_3_code 154 = .ok (.caload, 1) := by decide +kernel
theorem dc_method_3_code_155 : decode method_3_code 155 = .ok (.castore, 1) := by decide +kernel
theorem dc_method_3_code_140 : decode method_3_code 140 = .ok (.aload_n 2, 1) := by decide +kernel
theorem dc_method_3_code_141 : decode method_3_code 141 = .ok (.bipush 14, 2) := by decide +kernel
theorem dc_method_3_code_143 : decode method_3_code 143 = .ok (.aload_n 0, 1) := by decide +kernel
theorem dc_method_3_code_144 : decode method_3_code 144 = .ok (.bipush 14, 2) := by decide +kernel
theorem dc_method_3_code_146 : decode method_3_code 146 = .ok (.caload, 1) := by decide +kernel
theorem dc_method_3_code_147 : decode method_3_code 147 = .ok (.castore, 1) := by decide +kernel
theorem dc_method_3_code_132 : decode method_3_code 132 = .ok (.aload_n 2, 1) := by decide +kernel
theorem dc_method_3_code_133 : decode method_3_code 133 = .ok (.bipush 15, 2) := by decide +kernel
theorem dc_method_3_code_135 : decode method_3_code 135 = .ok (.aload_n 0, 1) := by decide +kernel
theorem dc_method_3_code_136 : decode method_3_code 136 = .ok (.bipush 15, 2) := by decide +kernel
theorem dc_method_3_code_138 : decode method_3_code 138 = .ok (.caload, 1) := by decide +kernel
theorem dc_method_3_code_139 : decode method_3_code 139 = .ok (.castore, 1) := by decide +kernel
theorem dc_method_3_code_124 : decode method_3_code 124 = .ok (.aload_n 2, 1) := by decide +kernel
theorem dc_method_3_code_125 : decode method_3_code 125 = .ok (.bipush 16, 2) := by decide +kernel
theorem dc_method_3_code_127 : decode method_3_code 127 = .ok (.aload_n 0, 1) := by decide +kernel
theorem dc_method_3_code_128 : decode method_3_code 128 = .ok (.bipush 16, 2) := by decide +kernel
theorem dc_method_3_code_130 : decode method_3_code 130 = .ok (.caload, 1) := by decide +kernel
theorem dc_method_3_code_131 : decode method_3_code 131 = .ok (.castore, 1) := by decide +kernel
theorem dc_method_3_code_116 : decode method_3_code 116 = .ok (.aload_n 2, 1) := by decide +kernel
theorem dc_method_3_code_117 : decode method_3_code 117 = .ok (.bipush 17, 2) := by decide +kernel
theorem dc_method_3_code_119 : decode method_3_code 119 = .ok (.aload_n 0, 1) := by decide +kernel
theorem dc_method_3_code_120 : decode method_3_code 120 = .ok (.bipush 17, 2) := by decide +kernel
theorem dc_method_3_code_122 : decode method_3_code 122 = .ok (.caload, 1) := by decide +kernel
theorem dc_method_3_code_123 : decode method_3_code 123 = .ok (.castore, 1) := by decide +kernel
theorem dc_method_3_code_108 : decode method_3_code 108 = .ok (.aload_n 2, 1) := by decide +kernel
theorem dc_method_3_code_109 : decode method_3_code 109 = .ok (.bipush 18, 2) := by decide +kernel
theorem dc_method_3_code_111 : decode method_3_code 111 = .ok (.aload_n 0, 1) := by decide +kernel
theorem dc_method_3_code_112 : decode method_3_code 112 = .ok (.bipush 18, 2) := by decide +kernel
theorem dc_method_3_code_114 : decode method_3_code 114 = .ok (.caload, 1) := by decide +kernel
theorem dc_method_3_code_115 : decode method_3_code 115 = .ok (.castore, 1) := by decide +kernel
theorem dc_method_3_code_100 : decode method_3_code 100 = .ok (.aload_n 2, 1) := by decide +kernel
theorem dc_method_3_code_101 : decode method_3_code 101 = .ok (.bipush 19, 2) := by decide +kernel
theorem dc_method_3_code_103 : decode method_3_code 103 = .ok (.aload_n 0, 1) := by decide +kernel
theorem dc_method_3_code_104 : decode method_3_code 104 = .ok (.bipush 19, 2) := by decide +kernel
theorem dc_method_3_code_106 : decode method_3_code 106 = .ok (.caload, 1) := by decide +kernel
theorem dc_method_3_code_107 : decode method_3_code 107 = .ok (.castore, 1) := by decide +kernel
theorem own_k21 (x : Int32) : (x &&& 2147483647) % 21 = 0 ∨ (x &&& 2147483647) % 21 = 1 ∨ (x &&& 2147483647) % 21 = 2 ∨ (x &&& 2147483647) % 21 = 3 ∨ (x &&& 2147483647) % 21 = 4 ∨ (x &&& 2147483647) % 21 = 5 ∨ (x &&& 2147483647) % 21 = 6 ∨ (x &&& 2147483647) % 21 = 7 ∨ (x &&& 2147483647) % 21 = 8 ∨ (x &&& 2147483647) % 21 = 9 ∨ (x &&& 2147483647) % 21 = 10 ∨ (x &&& 2147483647) % 21 = 11 ∨ (x &&& 2147483647) % 21 = 12 ∨ (x &&& 2147483647) % 21 = 13 ∨ (x &&& 2147483647) % 21 = 14 ∨ (x &&& 2147483647) % 21 = 15 ∨ (x &&& 2147483647) % 21 = 16 ∨ (x &&& 2147483647) % 21 = 17 ∨ (x &&& 2147483647) % 21 = 18 ∨ (x &&& 2147483647) % 21 = 19 ∨ (x &&& 2147483647) % 21 = 20 := by
  obtain ⟨h1, h2⟩ := own_rem (x := x) (k := 21) (by decide)
  have e : (21 : Int32).toInt = 21 := rfl
  rw [e] at h2
  generalize (x &&& 2147483647) % 21 = k at h1 h2
  have key : ∀ j : Int32, k.toInt = j.toInt → k = j := fun j h => Int32.toInt_inj.mp h
  have hs : k.toInt = 0 ∨ k.toInt = 1 ∨ k.toInt = 2 ∨ k.toInt = 3 ∨ k.toInt = 4 ∨ k.toInt = 5 ∨ k.toInt = 6 ∨ k.toInt = 7 ∨ k.toInt = 8 ∨ k.toInt = 9 ∨ k.toInt = 10 ∨ k.toInt = 11 ∨ k.toInt = 12 ∨ k.toInt = 13 ∨ k.toInt = 14 ∨ k.toInt = 15 ∨ k.toInt = 16 ∨ k.toInt = 17 ∨ k.toInt = 18 ∨ k.toInt = 19 ∨ k.toInt = 20 := by omega
  rcases hs with h | h | h | h | h | h | h | h | h | h | h | h | h | h | h | h | h | h | h | h | h
  · exact (Or.inl (key 0 h))
  · exact (Or.inr (Or.inl (key 1 h)))
  · exact (Or.inr (Or.inr (Or.inl (key 2 h))))
  · exact (Or.inr (Or.inr (Or.inr (Or.inl (key 3 h)))))
  · exact (Or.inr (Or.inr (Or.inr (Or.inr (Or.inl (key 4 h))))))
  · exact (Or.inr (Or.inr (Or.inr (Or.inr (Or.inr (Or.inl (key 5 h)))))))
  · exact (Or.inr (Or.inr (Or.inr (Or.inr (Or.inr (Or.inr (Or.inl (key 6 h))))))))
  · exact (Or.inr (Or.inr (Or.inr (Or.inr (Or.inr (Or.inr (Or.inr (Or.inl (key 7 h)))))))))
  · exact (Or.inr (Or.inr (Or.inr (Or.inr (Or.inr (Or.inr (Or.inr (Or.inr (Or.inl (key 8 h))))))))))
  · exact (Or.inr (Or.inr (Or.inr (Or.inr (Or.inr (Or.inr (Or.inr (Or.inr (Or.inr (Or.inl (key 9 h)))))))))))
  · exact (Or.inr (Or.inr (Or.inr (Or.inr (Or.inr (Or.inr (Or.inr (Or.inr (Or.inr (Or.inr (Or.inl (key 10 h))))))))))))
  · exact (Or.inr (Or.inr (Or.inr (Or.inr (Or.inr (Or.inr (Or.inr (Or.inr (Or.inr (Or.inr (Or.inr (Or.inl (key 11 h)))))))))))))
  · exact (Or.inr (Or.inr (Or.inr (Or.inr (Or.inr (Or.inr (Or.inr (Or.inr (Or.inr (Or.inr (Or.inr (Or.inr (Or.inl (key 12 h))))))))))))))
  · exact (Or.inr (Or.inr (Or.inr (Or.inr (Or.inr (Or.inr (Or.inr (Or.inr (Or.inr (Or.inr (Or.inr (Or.inr (Or.inr (Or.inl (key 13 h)))))))))))))))
  · exact (Or.inr (Or.inr (Or.inr (Or.inr (Or.inr (Or.inr (Or.inr (Or.inr (Or.inr (Or.inr (Or.inr (Or.inr (Or.inr (Or.inr (Or.inl (key 14 h))))))))))))))))
  · exact (Or.inr (Or.inr (Or.inr (Or.inr (Or.inr (Or.inr (Or.inr (Or.inr (Or.inr (Or.inr (Or.inr (Or.inr (Or.inr (Or.inr (Or.inr (Or.inl (key 15 h)))))))))))))))))
  · exact (Or.inr (Or.inr (Or.inr (Or.inr (Or.inr (Or.inr (Or.inr (Or.inr (Or.inr (Or.inr (Or.inr (Or.inr (Or.inr (Or.inr (Or.inr (Or.inr (Or.inl (key 16 h))))))))))))))))))
  · exact (Or.inr (Or.inr (Or.inr (Or.inr (Or.inr (Or.inr (Or.inr (Or.inr (Or.inr (Or.inr (Or.inr (Or.inr (Or.inr (Or.inr (Or.inr (Or.inr (Or.inr (Or.inl (key 17 h)))))))))))))))))))
  · exact (Or.inr (Or.inr (Or.inr (Or.inr (Or.inr (Or.inr (Or.inr (Or.inr (Or.inr (Or.inr (Or.inr (Or.inr (Or.inr (Or.inr (Or.inr (Or.inr (Or.inr (Or.inr (Or.inl (key 18 h))))))))))))))))))))
  · exact (Or.inr (Or.inr (Or.inr (Or.inr (Or.inr (Or.inr (Or.inr (Or.inr (Or.inr (Or.inr (Or.inr (Or.inr (Or.inr (Or.inr (Or.inr (Or.inr (Or.inr (Or.inr (Or.inr (Or.inl (key 19 h)))))))))))))))))))))
  · exact (Or.inr (Or.inr (Or.inr (Or.inr (Or.inr (Or.inr (Or.inr (Or.inr (Or.inr (Or.inr (Or.inr (Or.inr (Or.inr (Or.inr (Or.inr (Or.inr (Or.inr (Or.inr (Or.inr (Or.inr (key 20 h)))))))))))))))))))))
set_option maxRecDepth 65536 in
set_option maxHeartbeats 40000000 in
theorem m1_prefix {l : Launch} {Z : State} {a0 : Array Value} {n0 : Nat} {z_COMPACT_STRINGS : Int32} {z_SIOOBE_FORMATTER : Value} (V : Env1 Z a0 n0 z_COMPACT_STRINGS z_SIOOBE_FORMATTER) (p0 : Addr) (h0 : Heap) (hO : Old Z n0 h0)  :
    Met Z a0 ELs True n0 l (⟨"com/example/tenure/tenure/DaysUntimedPinLaw", "prefix", "([CI)[C"⟩ : MethodName) method_3_code 3 (Option.some (FieldType.array FieldType.char)) ({ frames := 0, cells := 1, slots := 0, locals := 0 } : Room) #[(.ref p0), (.int (0 : Int32))] h0 [] (fun v h so => (∃ a2 : Addr, ∃ k5 : ClassId, v = some (.ref a2) ∧ so = [] ∧ Keep h0 h [] ∧ h0.size ≤ a2 ∧ Arv Z h a2 k5 .char (0 : Int32) [] (.int 0))) := by
  refine Met.of (EWl V) (by first | decide +kernel | rfl) hO (L0 := #[.val (.ref p0), .val (.int (0 : Int32)), .unset]) rfl ?_
  intro p e s m below meth c T H
  show Go p e below _ (T.setTop (mkF m 0 #[.val (.ref p0), .val (.int (0 : Int32)), .unset] []))
  refine G.iloadN H dc_method_3_code_0 (pc' := 1) rfl rfl ?_
  refine G.newP H (aty := .char) (wd0 V) dc_method_3_code_1 (pc' := 3) rfl (by decide) (cap := 0) (by decide) (by decide) (by decide) (by decide) (vs := []) rfl ?_
  intro T1 h1_ a2 k5 ga2 H1 E3 A4
  have na2 : n0 ≤ a2 := Nat.le_trans H.le (Nat.le_of_eq ga2.symm)
  replace A4 : Arv Z h1_ a2 k5 .char (0 : Int32) [] (.int 0) := A4
  show Go p e below _ (T1.setTop (mkF m 3 #[.val (.ref p0), .val (.int (0 : Int32)), .unset] [(.ref a2)]))
  refine G.astoreN H1 (L' := #[.val (.ref p0), .val (.int (0 : Int32)), .val (.ref a2)]) dc_method_3_code_3 (pc' := 4) rfl rfl rfl ?_
  refine G.iloadN H1 dc_method_3_code_4 (pc' := 5) rfl rfl ?_
  refine G.tswOut H1 dc_method_3_code_5 (by decide) (by decide) (pc' := 248) rfl ?_
  refine G.aloadN H1 dc_method_3_code_248 (pc' := 249) rfl rfl rfl ?_
  have K6 : Keep h0 h1_ [] := (Keep.ext (Keep.refl h0 []) E3)
  exact G.retA H1 (t := (.array .char)) rfl rfl rfl dc_method_3_code_249 (so := []) all0 (by decide) (by decide) ⟨a2, k5, rfl, rfl, K6, (Nat.le_of_eq ga2.symm), A4⟩
set_option maxRecDepth 65536 in
set_option maxHeartbeats 40000000 in
theorem m2_init {l : Launch} {Z : State} {a0 : Array Value} {n0 : Nat} {z_COMPACT_STRINGS : Int32} {z_SIOOBE_FORMATTER : Value} (V : Env1 Z a0 n0 z_COMPACT_STRINGS z_SIOOBE_FORMATTER) (p0 : Addr) (p1 : Addr) (h0 : Heap) (hO : Old Z n0 h0) (f0 : Exa Z h0 p0 "java/lang/String") (f1 : Fld Z h0 p0 "java/lang/String" "value" "[B" .null) (g2 : n0 ≤ p0) (f3 : Fld Z h0 p0 "java/lang/String" "coder" "B" (.int (0 : Int32))) :
    Met Z a0 ELs True n0 l (⟨"java/lang/String", "<init>", "([CIILjava/lang/Void;)V"⟩ : MethodName) jdk_42_method_149_code 6 (Option.none : Option FieldType) ({ frames := 1, cells := 4, slots := 8, locals := 12 } : Room) #[(.ref p0), (.ref p1), (.int (0 : Int32)), (.int (0 : Int32)), .null] h0 [p0] (fun v h so => (∃ b6 : Addr, ∃ k7 : ClassId, v = none ∧ so = [] ∧ Keep h0 h [p0] ∧ Exa Z h p0 "java/lang/String" ∧ Fld Z h p0 "java/lang/String" "value" "[B" (.ref b6) ∧ Fld Z h p0 "java/lang/String" "coder" "B" (.int (0 : Int32)) ∧ Arv Z h b6 k7 .byte (0 : Int32) [] (.int 0))) := by
  refine Met.of (EWl V) (by first | decide +kernel | rfl) hO (L0 := #[.val (.ref p0), .val (.ref p1), .val (.int (0 : Int32)), .val (.int (0 : Int32)), .val .null, .unset]) rfl ?_
  intro p e s m below meth c T H
  show Go p e below _ (T.setTop (mkF m 0 #[.val (.ref p0), .val (.ref p1), .val (.int (0 : Int32)), .val (.int (0 : Int32)), .val .null, .unset] []))
  refine G.aloadN H dc_jdk_42_method_149_code_0 (pc' := 1) rfl rfl rfl ?_
  refine G.initO H (wd17 V) (wd18 V) (wd19 V) rfl dc_jdk_42_method_149_code_1 (pc' := 4) rfl (by decide) (W := 0) rfl (by decide) ?_
  intro T1 H2
  refine G.iloadN H2 dc_jdk_42_method_149_code_4 (pc' := 5) rfl rfl ?_
  refine G.ifNo H2 dc_jdk_42_method_149_code_5 (pc' := 8) rfl (by decide) ?_
  refine G.aloadN H2 dc_jdk_42_method_149_code_8 (pc' := 9) rfl rfl rfl ?_
  refine G.ldcS H2 trivial (wS V) (wd53 V) (by decide) (vs := []) (z := (0 : Int32)) (by decide) (by decide) rfl (n := 0) (by decide) (by decide) (by decide) (by decide) dc_jdk_42_method_149_code_9 (pc' := 11) rfl ?_
  intro T3 h3_ a4 b6 k7 H3 E5 X8 F9 F10 A11 Q12
  have S13 : Str Z h3_ a4 b6 k7 [] := ⟨X8, F9, F10, A11, by decide, by decide⟩
  show Go p e below _ (T3.setTop (mkF m 11 #[.val (.ref p0), .val (.ref p1), .val (.int (0 : Int32)), .val (.int (0 : Int32)), .val .null, .unset] [(.ref a4), (.ref p0)]))
  refine G.getF H3 (wd34 V) Via.refl F10 dc_jdk_42_method_149_code_11 (pc' := 14) rfl ?_
  intro T14 H15
  have F16 : Exa Z h3_ p0 "java/lang/String" := (Exa.ext E5 f0)
  have F17 : Fld Z h3_ p0 "java/lang/String" "value" "[B" .null := (Fld.ext E5 f1)
  refine G.putF H15 (wd34 V) Via.refl F17 F16 (Or.inr ⟨(wd35 V), rfl, rfl⟩) (wd4 V) (ty := (.array .byte)) (by decide) rfl rfl g2 (Sf.mem (List.mem_of_getElem? (i := 0) rfl)) dc_jdk_42_method_149_code_14 (pc' := 17) rfl ?_
  intro T18 h18_ H18 W19
  have F20 : Fld Z h18_ p0 "java/lang/String" "value" "[B" (.ref b6) := Fld.same W19 F17
  show Go p e below _ (T18.setTop (mkF m 17 #[.val (.ref p0), .val (.ref p1), .val (.int (0 : Int32)), .val (.int (0 : Int32)), .val .null, .unset] []))
  refine G.aloadN H18 dc_jdk_42_method_149_code_17 (pc' := 18) rfl rfl rfl ?_
  refine G.ldcS H18 trivial (wS V) (wd53 V) (by decide) (vs := []) (z := (0 : Int32)) (by decide) (by decide) rfl (n := 0) (by decide) (by decide) (by decide) (by decide) dc_jdk_42_method_149_code_18 (pc' := 20) rfl ?_
  intro T21 h21_ a22 b24 k25 H21 E23 X26 F27 F28 A29 Q30
  have S31 : Str Z h21_ a22 b24 k25 [] := ⟨X26, F27, F28, A29, by decide, by decide⟩
  show Go p e below _ (T21.setTop (mkF m 20 #[.val (.ref p0), .val (.ref p1), .val (.int (0 : Int32)), .val (.int (0 : Int32)), .val .null, .unset] [(.ref a22), (.ref p0)]))
  refine G.getF H21 (wd32 V) Via.refl F27 dc_jdk_42_method_149_code_20 (pc' := 23) rfl ?_
  intro T32 H33
  have K34 : Keep h3_ h21_ [p0] := (Keep.ext (Keep.wr (Keep.refl h3_ [p0]) W19 (Or.inl (List.mem_of_getElem? (i := 0) rfl))) E23)
  have F35 : Exa Z h21_ p0 "java/lang/String" := (Exa.keep F16 K34)
  have F36 : Fld Z h21_ p0 "java/lang/String" "coder" "B" (.int (0 : Int32)) := (Fld.ext E23 (Fld.other W19 (Fld.ext E5 f3) (Or.inr (slot_ne (Or.inr (wd33 V)) (Or.inr (wd35 V)) (by decide) (t := .byte) (t' := (.array .byte)) (by decide) (by decide)))))
  refine G.putF H33 (wd32 V) Via.refl F36 F35 (Or.inr ⟨(wd33 V), rfl, rfl⟩) (wd4 V) (ty := .byte) (by decide) rfl rfl g2 (Sf.mem (List.mem_of_getElem? (i := 0) rfl)) dc_jdk_42_method_149_code_23 (pc' := 26) rfl ?_
  intro T37 h37_ H37 W38
  have F39 : Fld Z h37_ p0 "java/lang/String" "coder" "B" (.int (0 : Int32)) := Fld.same W38 F36
  show Go p e below _ (T37.setTop (mkF m 26 #[.val (.ref p0), .val (.ref p1), .val (.int (0 : Int32)), .val (.int (0 : Int32)), .val .null, .unset] []))
  have F40 : Exa Z h37_ p0 "java/lang/String" := (Exa.wr W38 F35)
  have F41 : Fld Z h37_ p0 "java/lang/String" "value" "[B" (.ref b6) := (Fld.other W38 (Fld.ext E23 F20) (Or.inr (slot_ne (Or.inr (wd35 V)) (Or.inr (wd33 V)) (by decide) (t := (.array .byte)) (t' := .byte) (by decide) (by decide))))
  have K42 : Keep h3_ h37_ [p0] := (Keep.wr (Keep.ext (Keep.wr (Keep.refl h3_ [p0]) W19 (Or.inl (List.mem_of_getElem? (i := 0) rfl))) E23) W38 (Or.inl (List.mem_of_getElem? (i := 0) rfl)))
  have F43 : Arv Z h37_ b6 k7 .byte (0 : Int32) [] (.int 0) := (Arv.keep A11 K42 (ninS (Ne.symm (Q12 _ (List.mem_of_getElem? (i := 0) rfl)).2) nin0))
  have K44 : Keep h0 h37_ [p0] := (Keep.wr (Keep.ext (Keep.wr (Keep.ext (Keep.refl h0 [p0]) E5) W19 (Or.inl (List.mem_of_getElem? (i := 0) rfl))) E23) W38 (Or.inl (List.mem_of_getElem? (i := 0) rfl)))
  exact G.retV H37 rfl dc_jdk_42_method_149_code_26 (so := []) all0 (by decide) (by decide) ⟨b6, k7, rfl, rfl, K44, F40, F41, F39, F43⟩
set_option maxRecDepth 65536 in
set_option maxHeartbeats 40000000 in
theorem m3_init {l : Launch} {Z : State} {a0 : Array Value} {n0 : Nat} {z_COMPACT_STRINGS : Int32} {z_SIOOBE_FORMATTER : Value} (V : Env1 Z a0 n0 z_COMPACT_STRINGS z_SIOOBE_FORMATTER) (p0 : Addr) (p1 : Addr) (c0 : ClassId) (h0 : Heap) (hO : Old Z n0 h0) (f0 : Arv Z h0 p1 c0 .char (0 : Int32) [] (.int 0)) (f1 : Exa Z h0 p0 "java/lang/String") (f2 : Fld Z h0 p0 "java/lang/String" "value" "[B" .null) (g3 : n0 ≤ p0) (f4 : Fld Z h0 p0 "java/lang/String" "coder" "B" (.int (0 : Int32))) :
    Met Z a0 ELs True n0 l (⟨"java/lang/String", "<init>", "([C)V"⟩ : MethodName) jdk_42_method_3_code 2 (Option.none : Option FieldType) ({ frames := 2, cells := 4, slots := 8, locals := 29 } : Room) #[(.ref p0), (.ref p1)] h0 [p0] (fun v h so => (∃ a5 : Addr, ∃ k6 : ClassId, v = none ∧ so = [] ∧ Keep h0 h [p0] ∧ Exa Z h p0 "java/lang/String" ∧ Fld Z h p0 "java/lang/String" "value" "[B" (.ref a5) ∧ Fld Z h p0 "java/lang/String" "coder" "B" (.int (0 : Int32)) ∧ Arv Z h a5 k6 .byte (0 : Int32) [] (.int 0))) := by
  refine Met.of (EWl V) (by first | decide +kernel | rfl) hO (L0 := #[.val (.ref p0), .val (.ref p1)]) rfl ?_
  intro p e s m below meth c T H
  show Go p e below _ (T.setTop (mkF m 0 #[.val (.ref p0), .val (.ref p1)] []))
  refine G.aloadN H dc_jdk_42_method_3_code_0 (pc' := 1) rfl rfl rfl ?_
  refine G.aloadN H dc_jdk_42_method_3_code_1 (pc' := 2) rfl rfl rfl ?_
  refine G.iconst H dc_jdk_42_method_3_code_2 (pc' := 3) rfl (v := (0 : Int32)) rfl ?_
  refine G.aloadN H dc_jdk_42_method_3_code_3 (pc' := 4) rfl rfl rfl ?_
  refine G.arrlen H f0 dc_jdk_42_method_3_code_4 (pc' := 5) rfl ?_
  refine G.aconstNull H dc_jdk_42_method_3_code_5 (pc' := 6) rfl ?_
  refine G.callI H (m2_init V p0 p1 h0 H.old f1 f2 g3 f4) rfl (wd13 V) (wd14 V) (wd5 V) (wd16 V) (by decide) (a := p0) (argsL := [(.ref p1), (.int (0 : Int32)), (.int (0 : Int32)), .null]) (rest := []) (W := 0) rfl rfl (lenOf (pd_1) rfl) rfl rfl dc_jdk_42_method_3_code_6 (pc' := 9) rfl (by decide) (by decide) (by decide) (by decide) (allS (List.mem_of_getElem? (i := 0) rfl) all0) ?_
  intro T1 h1_ v2 s3 H1 Q4
  obtain ⟨a5, k6, rfl, rfl, K7, F8, F9, F10, F11⟩ := Q4
  show Go p e below _ (T1.setTop (mkF m 9 #[.val (.ref p0), .val (.ref p1)] []))
  have K12 : Keep h0 h1_ [p0] := (Keep.trans (Keep.refl h0 [p0]) K7 (allS (Or.inl (List.mem_of_getElem? (i := 0) rfl)) all0))
  exact G.retV H1 rfl dc_jdk_42_method_3_code_9 (so := []) all0 (by decide) (by decide) ⟨a5, k6, rfl, rfl, K12, F8, F9, F10, F11⟩
set_option maxRecDepth 65536 in
set_option maxHeartbeats 40000000 in
theorem m4_coder {l : Launch} {Z : State} {a0 : Array Value} {n0 : Nat} {z_COMPACT_STRINGS : Int32} {z_SIOOBE_FORMATTER : Value} (V : Env1 Z a0 n0 z_COMPACT_STRINGS z_SIOOBE_FORMATTER) (p0 : Addr) (h0 : Heap) (hO : Old Z n0 h0) (f0 : Fld Z h0 p0 "java/lang/String" "coder" "B" (.int (0 : Int32))) :
    Met Z a0 ELs True n0 l (⟨"java/lang/String", "coder", "()B"⟩ : MethodName) jdk_42_method_152_code 1 (Option.some FieldType.byte) ({ frames := 0, cells := 0, slots := 0, locals := 0 } : Room) #[(.ref p0)] h0 [] (fun v h so => (v = some (.int (0 : Int32)) ∧ so = [] ∧ h0 = h)) := by
  refine Met.of (EWl V) (by first | decide +kernel | rfl) hO (L0 := #[.val (.ref p0)]) rfl ?_
  intro p e s m below meth c T H
  show Go p e below _ (T.setTop (mkF m 0 #[.val (.ref p0)] []))
  refine G.getS H (wd20 V) Via.refl (Sta.ext H.old.2 (s_COMPACT_STRINGS V)) dc_jdk_42_method_152_code_0 (pc' := 3) rfl ?_
  intro T1 H2
  refine G.ifNo H2 dc_jdk_42_method_152_code_3 (pc' := 6) rfl (XT.i0_eq_f (cz V)) ?_
  refine G.aloadN H2 dc_jdk_42_method_152_code_6 (pc' := 7) rfl rfl rfl ?_
  refine G.getF H2 (wd32 V) Via.refl f0 dc_jdk_42_method_152_code_7 (pc' := 10) rfl ?_
  intro T3 H4
  refine G.goto H4 dc_jdk_42_method_152_code_10 (by decide) (pc' := 14) rfl ?_
  exact G.retN H4 (t := .byte) rfl (by decide) dc_jdk_42_method_152_code_14 (so := []) all0 (by decide) (by decide) ⟨rfl, rfl, rfl⟩
set_option maxRecDepth 65536 in
set_option maxHeartbeats 40000000 in
theorem m5_length {l : Launch} {Z : State} {a0 : Array Value} {n0 : Nat} {z_COMPACT_STRINGS : Int32} {z_SIOOBE_FORMATTER : Value} (V : Env1 Z a0 n0 z_COMPACT_STRINGS z_SIOOBE_FORMATTER) (p0 : Addr) (p1 : Addr) (c0 : ClassId) (h0 : Heap) (hO : Old Z n0 h0) (f0 : Fld Z h0 p0 "java/lang/String" "value" "[B" (.ref p1)) (f1 : Arv Z h0 p1 c0 .byte (0 : Int32) [] (.int 0)) (f2 : Exa Z h0 p0 "java/lang/String") (f3 : Fld Z h0 p0 "java/lang/String" "coder" "B" (.int (0 : Int32))) :
    Met Z a0 ELs True n0 l (⟨"java/lang/String", "length", "()I"⟩ : MethodName) jdk_42_method_54_code 1 (Option.some FieldType.int) ({ frames := 1, cells := 0, slots := 0, locals := 13 } : Room) #[(.ref p0)] h0 [] (fun v h so => (v = some (.int (0 : Int32)) ∧ so = [] ∧ h0 = h)) := by
  refine Met.of (EWl V) (by first | decide +kernel | rfl) hO (L0 := #[.val (.ref p0)]) rfl ?_
  intro p e s m below meth c T H
  show Go p e below _ (T.setTop (mkF m 0 #[.val (.ref p0)] []))
  refine G.aloadN H dc_jdk_42_method_54_code_0 (pc' := 1) rfl rfl rfl ?_
  refine G.getF H (wd34 V) Via.refl f0 dc_jdk_42_method_54_code_1 (pc' := 4) rfl ?_
  intro T1 H2
  refine G.arrlen H2 f1 dc_jdk_42_method_54_code_4 (pc' := 5) rfl ?_
  refine G.aloadN H2 dc_jdk_42_method_54_code_5 (pc' := 6) rfl rfl rfl ?_
  refine G.callV H2 (m4_coder V p0 h0 H2.old f3) (wd45 V) (wd46 V) (nf_sel (wd48 V)) (wd48 V) (wd47 V) (wd5 V) (wd49 V) (by decide) f2 (argsL := []) (rest := [(.int (0 : Int32))]) (W := 1) rfl rfl (lenOf (pd_3) rfl) rfl rfl dc_jdk_42_method_54_code_6 (pc' := 9) rfl (by decide) (by decide) (by decide) (by decide) all0 ?_
  intro T3 h3_ v4 s5 H3 Q6
  obtain ⟨rfl, rfl, rfl⟩ := Q6
  show Go p e below _ (T3.setTop (mkF m 9 #[.val (.ref p0)] [(.int (0 : Int32)), (.int (0 : Int32))]))
  refine G.ishr H3 dc_jdk_42_method_54_code_9 (pc' := 10) rfl ?_
  show Go p e below _ (T3.setTop (mkF m 10 #[.val (.ref p0)] [(.int (0 : Int32))]))
  exact G.retI H3 rfl dc_jdk_42_method_54_code_10 (so := []) all0 (by decide) (by decide) ⟨rfl, rfl, rfl⟩
set_option maxRecDepth 65536 in
set_option maxHeartbeats 40000000 in
theorem m6_length {l : Launch} {Z : State} {a0 : Array Value} {n0 : Nat} {z_COMPACT_STRINGS : Int32} {z_SIOOBE_FORMATTER : Value} (V : Env1 Z a0 n0 z_COMPACT_STRINGS z_SIOOBE_FORMATTER) (p0 : Addr) (p1 : Addr) (c0 : ClassId) (h0 : Heap) (hO : Old Z n0 h0) (f0 : Fld Z h0 p0 "java/lang/String" "value" "[B" (.ref p1)) (f1 : Arv Z h0 p1 c0 .byte (10 : Int32) [(.int (48 : Int32)), (.int (48 : Int32)), (.int (48 : Int32)), (.int (48 : Int32)), (.int (45 : Int32)), (.int (48 : Int32)), (.int (48 : Int32)), (.int (45 : Int32)), (.int (48 : Int32)), (.int (48 : Int32))] (.int 0)) (f2 : Exa Z h0 p0 "java/lang/String") (f3 : Fld Z h0 p0 "java/lang/String" "coder" "B" (.int (0 : Int32))) :
    Met Z a0 ELs True n0 l (⟨"java/lang/String", "length", "()I"⟩ : MethodName) jdk_42_method_54_code 1 (Option.some FieldType.int) ({ frames := 1, cells := 0, slots := 0, locals := 13 } : Room) #[(.ref p0)] h0 [] (fun v h so => (v = some (.int (10 : Int32)) ∧ so = [] ∧ h0 = h)) := by
  refine Met.of (EWl V) (by first | decide +kernel | rfl) hO (L0 := #[.val (.ref p0)]) rfl ?_
  intro p e s m below meth c T H
  show Go p e below _ (T.setTop (mkF m 0 #[.val (.ref p0)] []))
  refine G.aloadN H dc_jdk_42_method_54_code_0 (pc' := 1) rfl rfl rfl ?_
  refine G.getF H (wd34 V) Via.refl f0 dc_jdk_42_method_54_code_1 (pc' := 4) rfl ?_
  intro T1 H2
  refine G.arrlen H2 f1 dc_jdk_42_method_54_code_4 (pc' := 5) rfl ?_
  refine G.aloadN H2 dc_jdk_42_method_54_code_5 (pc' := 6) rfl rfl rfl ?_
  refine G.callV H2 (m4_coder V p0 h0 H2.old f3) (wd45 V) (wd46 V) (nf_sel (wd48 V)) (wd48 V) (wd47 V) (wd5 V) (wd49 V) (by decide) f2 (argsL := []) (rest := [(.int (10 : Int32))]) (W := 1) rfl rfl (lenOf (pd_3) rfl) rfl rfl dc_jdk_42_method_54_code_6 (pc' := 9) rfl (by decide) (by decide) (by decide) (by decide) all0 ?_
  intro T3 h3_ v4 s5 H3 Q6
  obtain ⟨rfl, rfl, rfl⟩ := Q6
  show Go p e below _ (T3.setTop (mkF m 9 #[.val (.ref p0)] [(.int (0 : Int32)), (.int (10 : Int32))]))
  refine G.ishr H3 dc_jdk_42_method_54_code_9 (pc' := 10) rfl ?_
  show Go p e below _ (T3.setTop (mkF m 10 #[.val (.ref p0)] [(.int (10 : Int32))]))
  exact G.retI H3 rfl dc_jdk_42_method_54_code_10 (so := []) all0 (by decide) (by decide) ⟨rfl, rfl, rfl⟩
set_option maxRecDepth 65536 in
set_option maxHeartbeats 40000000 in
theorem m7_untimed {l : Launch} {Z : State} {a0 : Array Value} {n0 : Nat} {z_COMPACT_STRINGS : Int32} {z_SIOOBE_FORMATTER : Value} (V : Env1 Z a0 n0 z_COMPACT_STRINGS z_SIOOBE_FORMATTER) (p0 : Addr) (p1 : Addr) (c0 : ClassId) (h0 : Heap) (hO : Old Z n0 h0) (f0 : Exa Z h0 p0 "java/lang/String") (f1 : Fld Z h0 p0 "java/lang/String" "value" "[B" (.ref p1)) (f2 : Arv Z h0 p1 c0 .byte (0 : Int32) [] (.int 0)) (f3 : Fld Z h0 p0 "java/lang/String" "coder" "B" (.int (0 : Int32))) :
    Met Z a0 ELs True n0 l (⟨"com/example/tenure/tenure/Days", "untimed", "(Ljava/lang/String;)Z"⟩ : MethodName) prog_14_method_4_code 1 (Option.some FieldType.boolean) ({ frames := 2, cells := 2, slots := 44, locals := 26 } : Room) #[(.ref p0)] h0 [p0] (fun v h so => (v = some (.int (0 : Int32)) ∧ so = [] ∧ Keep h0 h [])) := by
  refine Met.of (EWl V) (by first | decide +kernel | rfl) hO (L0 := #[.val (.ref p0)]) rfl ?_
  intro p e s m below meth c T H
  show Go p e below _ (T.setTop (mkF m 0 #[.val (.ref p0)] []))
  refine G.aloadN H dc_prog_14_method_4_code_0 (pc' := 1) rfl rfl rfl ?_
  refine G.callV H (m5_length V p0 p1 c0 h0 H.old f1 f2 f0 f3) (wd40 V) (wd41 V) (nf_sel (wd43 V)) (wd43 V) (wd42 V) (wd5 V) (wd44 V) (by decide) f0 (argsL := []) (rest := []) (W := 0) rfl rfl (lenOf (pd_4) rfl) rfl rfl dc_prog_14_method_4_code_1 (pc' := 4) rfl (by decide) (by decide) (by decide) (by decide) all0 ?_
  intro T1 h1_ v2 s3 H1 Q4
  obtain ⟨rfl, rfl, rfl⟩ := Q4
  show Go p e below _ (T1.setTop (mkF m 4 #[.val (.ref p0)] [(.int (0 : Int32))]))
  refine G.ldcS H1 trivial (wS V) (wd50 V) (by decide) (vs := [(.int (48 : Int32)), (.int (48 : Int32)), (.int (48 : Int32)), (.int (48 : Int32)), (.int (45 : Int32)), (.int (48 : Int32)), (.int (48 : Int32)), (.int (45 : Int32)), (.int (48 : Int32)), (.int (48 : Int32))]) (z := (10 : Int32)) (by decide) (by decide) rfl (n := 40) (by decide) (by decide) (by decide) (by decide) dc_prog_14_method_4_code_4 (pc' := 6) rfl ?_
  intro T5 h5_ a6 b8 k9 H5 E7 X10 F11 F12 A13 Q14
  have S15 : Str Z h5_ a6 b8 k9 [(48 : Int32), (48 : Int32), (48 : Int32), (48 : Int32), (45 : Int32), (48 : Int32), (48 : Int32), (45 : Int32), (48 : Int32), (48 : Int32)] := ⟨X10, F11, F12, A13, by decide, by decide⟩
  show Go p e below _ (T5.setTop (mkF m 6 #[.val (.ref p0)] [(.ref a6), (.int (0 : Int32))]))
  refine G.callV H5 (m6_length V a6 b8 k9 h5_ H5.old F12 A13 X10 F11) (wd40 V) (wd41 V) (nf_sel (wd43 V)) (wd43 V) (wd42 V) (wd5 V) (wd44 V) (by decide) X10 (argsL := []) (rest := [(.int (0 : Int32))]) (W := 1) rfl rfl (lenOf (pd_4) rfl) rfl rfl dc_prog_14_method_4_code_6 (pc' := 9) rfl (by decide) (by decide) (by decide) (by decide) all0 ?_
  intro T16 h16_ v17 s18 H16 Q19
  obtain ⟨rfl, rfl, rfl⟩ := Q19
  show Go p e below _ (T16.setTop (mkF m 9 #[.val (.ref p0)] [(.int (10 : Int32)), (.int (0 : Int32))]))
  refine G.icmpYes H16 dc_prog_14_method_4_code_9 (by decide) (by decide) (pc' := 16) rfl ?_
  refine G.iconst H16 dc_prog_14_method_4_code_16 (pc' := 17) rfl (v := (0 : Int32)) rfl ?_
  have K20 : Keep h0 h5_ [] := (Keep.ext (Keep.refl h0 []) E7)
  exact G.retN H16 (t := .boolean) rfl (by decide) dc_prog_14_method_4_code_17 (so := []) all0 (by decide) (by decide) ⟨rfl, rfl, K20⟩
set_option maxRecDepth 65536 in
set_option maxHeartbeats 40000000 in
theorem m8_prefix {l : Launch} {Z : State} {a0 : Array Value} {n0 : Nat} {z_COMPACT_STRINGS : Int32} {z_SIOOBE_FORMATTER : Value} (V : Env1 Z a0 n0 z_COMPACT_STRINGS z_SIOOBE_FORMATTER) (p0 : Addr) (c0 : ClassId) (x0 : Int32) (x1 : Int32) (x2 : Int32) (x3 : Int32) (x4 : Int32) (x5 : Int32) (x6 : Int32) (x7 : Int32) (x8 : Int32) (x9 : Int32) (x10 : Int32) (x11 : Int32) (x12 : Int32) (x13 : Int32) (x14 : Int32) (x15 : Int32) (x16 : Int32) (x17 : Int32) (x18 : Int32) (x19 : Int32) (h0 : Heap) (hO : Old Z n0 h0) (f0 : Arv Z h0 p0 c0 .char (20 : Int32) [(.int x0), (.int x1), (.int x2), (.int x3), (.int x4), (.int x5), (.int x6), (.int x7), (.int x8), (.int x9), (.int x10), (.int x11), (.int x12), (.int x13), (.int x14), (.int x15), (.int x16), (.int x17), (.int x18), (.int x19)] (.int 0)) (r1 : ¬ x0 < 0 ∧ ¬ (65535 : Int32) < x0) :
    Met Z a0 ELs True n0 l (⟨"com/example/tenure/tenure/DaysUntimedPinLaw", "prefix", "([CI)[C"⟩ : MethodName) method_3_code 3 (Option.some (FieldType.array FieldType.char)) ({ frames := 0, cells := 1, slots := 1, locals := 0 } : Room) #[(.ref p0), (.int (1 : Int32))] h0 [] (fun v h so => (∃ a2 : Addr, ∃ k5 : ClassId, v = some (.ref a2) ∧ so = [] ∧ Keep h0 h [] ∧ h0.size ≤ a2 ∧ Arv Z h a2 k5 .char (1 : Int32) [(.int x0)] (.int 0))) := by
  refine Met.of (EWl V) (by first | decide +kernel | rfl) hO (L0 := #[.val (.ref p0), .val (.int (1 : Int32)), .unset]) rfl ?_
  intro p e s m below meth c T H
  show Go p e below _ (T.setTop (mkF m 0 #[.val (.ref p0), .val (.int (1 : Int32)), .unset] []))
  refine G.iloadN H dc_method_3_code_0 (pc' := 1) rfl rfl ?_
  refine G.newP H (aty := .char) (wd0 V) dc_method_3_code_1 (pc' := 3) rfl (by decide) (cap := 1) (by decide) (by decide) (by decide) (by decide) (vs := [(.int (0 : Int32))]) rfl ?_
  intro T1 h1_ a2 k5 ga2 H1 E3 A4
  have na2 : n0 ≤ a2 := Nat.le_trans H.le (Nat.le_of_eq ga2.symm)
  replace A4 : Arv Z h1_ a2 k5 .char (1 : Int32) [(.int (0 : Int32))] (.int 0) := A4
  show Go p e below _ (T1.setTop (mkF m 3 #[.val (.ref p0), .val (.int (1 : Int32)), .unset] [(.ref a2)]))
  refine G.astoreN H1 (L' := #[.val (.ref p0), .val (.int (1 : Int32)), .val (.ref a2)]) dc_method_3_code_3 (pc' := 4) rfl rfl rfl ?_
  refine G.iloadN H1 dc_method_3_code_4 (pc' := 5) rfl rfl ?_
  refine G.tswIn H1 dc_method_3_code_5 (by decide) (o := 237) rfl (by decide) (pc' := 242) rfl ?_
  refine G.aloadN H1 dc_method_3_code_242 (pc' := 243) rfl rfl rfl ?_
  refine G.iconst H1 dc_method_3_code_243 (pc' := 244) rfl (v := (0 : Int32)) rfl ?_
  refine G.aloadN H1 dc_method_3_code_244 (pc' := 245) rfl rfl rfl ?_
  refine G.iconst H1 dc_method_3_code_245 (pc' := 246) rfl (v := (0 : Int32)) rfl ?_
  have F6 : Arv Z h1_ p0 c0 .char (20 : Int32) [(.int x0), (.int x1), (.int x2), (.int x3), (.int x4), (.int x5), (.int x6), (.int x7), (.int x8), (.int x9), (.int x10), (.int x11), (.int x12), (.int x13), (.int x14), (.int x15), (.int x16), (.int x17), (.int x18), (.int x19)] (.int 0) := (Arv.ext f0 E3)
  refine G.caloadG H1 F6 (j := (0 : Int32)) (v := (.int x0)) (by decide) rfl dc_method_3_code_246 (pc' := 247) rfl ?_
  refine G.stC H1 A4 (by decide) (i := 0) rfl (Nat.le_of_ble_eq_true rfl) na2 (y := x0) (own_narC r1) dc_method_3_code_247 (pc' := 248) rfl ?_
  intro T7 h7_ H7 W8 A9
  replace A9 : Arv Z h7_ a2 k5 .char (1 : Int32) [(.int x0)] (.int 0) := A9
  show Go p e below _ (T7.setTop (mkF m 248 #[.val (.ref p0), .val (.int (1 : Int32)), .val (.ref a2)] []))
  refine G.aloadN H7 dc_method_3_code_248 (pc' := 249) rfl rfl rfl ?_
  have K10 : Keep h0 h7_ [] := (Keep.wr (Keep.ext (Keep.refl h0 []) E3) W8 (Or.inr (Nat.le_of_eq ga2.symm)))
  exact G.retA H7 (t := (.array .char)) rfl rfl rfl dc_method_3_code_249 (so := []) all0 (by decide) (by decide) ⟨a2, k5, rfl, rfl, K10, (Nat.le_of_eq ga2.symm), A9⟩
set_option maxRecDepth 65536 in
set_option maxHeartbeats 40000000 in
theorem m9_length {l : Launch} {Z : State} {a0 : Array Value} {n0 : Nat} {z_COMPACT_STRINGS : Int32} {z_SIOOBE_FORMATTER : Value} (V : Env1 Z a0 n0 z_COMPACT_STRINGS z_SIOOBE_FORMATTER) (p0 : Addr) (p1 : Addr) (c0 : ClassId) (x0 : Int32) (h0 : Heap) (hO : Old Z n0 h0) (f0 : Fld Z h0 p0 "java/lang/String" "value" "[B" (.ref p1)) (f1 : Arv Z h0 p1 c0 .byte (1 : Int32) [(.int x0)] (.int 0)) (f2 : Exa Z h0 p0 "java/lang/String") (f3 : Fld Z h0 p0 "java/lang/String" "coder" "B" (.int (0 : Int32))) :
    Met Z a0 ELs True n0 l (⟨"java/lang/String", "length", "()I"⟩ : MethodName) jdk_42_method_54_code 1 (Option.some FieldType.int) ({ frames := 1, cells := 0, slots := 0, locals := 13 } : Room) #[(.ref p0)] h0 [] (fun v h so => (v = some (.int (1 : Int32)) ∧ so = [] ∧ h0 = h)) := by
  refine Met.of (EWl V) (by first | decide +kernel | rfl) hO (L0 := #[.val (.ref p0)]) rfl ?_
  intro p e s m below meth c T H
  show Go p e below _ (T.setTop (mkF m 0 #[.val (.ref p0)] []))
  refine G.aloadN H dc_jdk_42_method_54_code_0 (pc' := 1) rfl rfl rfl ?_
  refine G.getF H (wd34 V) Via.refl f0 dc_jdk_42_method_54_code_1 (pc' := 4) rfl ?_
  intro T1 H2
  refine G.arrlen H2 f1 dc_jdk_42_method_54_code_4 (pc' := 5) rfl ?_
  refine G.aloadN H2 dc_jdk_42_method_54_code_5 (pc' := 6) rfl rfl rfl ?_
  refine G.callV H2 (m4_coder V p0 h0 H2.old f3) (wd45 V) (wd46 V) (nf_sel (wd48 V)) (wd48 V) (wd47 V) (wd5 V) (wd49 V) (by decide) f2 (argsL := []) (rest := [(.int (1 : Int32))]) (W := 1) rfl rfl (lenOf (pd_3) rfl) rfl rfl dc_jdk_42_method_54_code_6 (pc' := 9) rfl (by decide) (by decide) (by decide) (by decide) all0 ?_
  intro T3 h3_ v4 s5 H3 Q6
  obtain ⟨rfl, rfl, rfl⟩ := Q6
  show Go p e below _ (T3.setTop (mkF m 9 #[.val (.ref p0)] [(.int (0 : Int32)), (.int (1 : Int32))]))
  refine G.ishr H3 dc_jdk_42_method_54_code_9 (pc' := 10) rfl ?_
  show Go p e below _ (T3.setTop (mkF m 10 #[.val (.ref p0)] [(.int (1 : Int32))]))
  exact G.retI H3 rfl dc_jdk_42_method_54_code_10 (so := []) all0 (by decide) (by decide) ⟨rfl, rfl, rfl⟩
set_option maxRecDepth 65536 in
set_option maxHeartbeats 40000000 in
theorem m10_untimed {l : Launch} {Z : State} {a0 : Array Value} {n0 : Nat} {z_COMPACT_STRINGS : Int32} {z_SIOOBE_FORMATTER : Value} (V : Env1 Z a0 n0 z_COMPACT_STRINGS z_SIOOBE_FORMATTER) (p0 : Addr) (p1 : Addr) (c0 : ClassId) (x0 : Int32) (h0 : Heap) (hO : Old Z n0 h0) (f0 : Exa Z h0 p0 "java/lang/String") (f1 : Fld Z h0 p0 "java/lang/String" "value" "[B" (.ref p1)) (f2 : Arv Z h0 p1 c0 .byte (1 : Int32) [(.int x0)] (.int 0)) (f3 : Fld Z h0 p0 "java/lang/String" "coder" "B" (.int (0 : Int32))) :
    Met Z a0 ELs True n0 l (⟨"com/example/tenure/tenure/Days", "untimed", "(Ljava/lang/String;)Z"⟩ : MethodName) prog_14_method_4_code 1 (Option.some FieldType.boolean) ({ frames := 2, cells := 2, slots := 44, locals := 26 } : Room) #[(.ref p0)] h0 [p0, p1] (fun v h so => (v = some (.int (0 : Int32)) ∧ so = [] ∧ Keep h0 h [])) := by
  refine Met.of (EWl V) (by first | decide +kernel | rfl) hO (L0 := #[.val (.ref p0)]) rfl ?_
  intro p e s m below meth c T H
  show Go p e below _ (T.setTop (mkF m 0 #[.val (.ref p0)] []))
  refine G.aloadN H dc_prog_14_method_4_code_0 (pc' := 1) rfl rfl rfl ?_
  refine G.callV H (m9_length V p0 p1 c0 x0 h0 H.old f1 f2 f0 f3) (wd40 V) (wd41 V) (nf_sel (wd43 V)) (wd43 V) (wd42 V) (wd5 V) (wd44 V) (by decide) f0 (argsL := []) (rest := []) (W := 0) rfl rfl (lenOf (pd_4) rfl) rfl rfl dc_prog_14_method_4_code_1 (pc' := 4) rfl (by decide) (by decide) (by decide) (by decide) all0 ?_
  intro T1 h1_ v2 s3 H1 Q4
  obtain ⟨rfl, rfl, rfl⟩ := Q4
  show Go p e below _ (T1.setTop (mkF m 4 #[.val (.ref p0)] [(.int (1 : Int32))]))
  refine G.ldcS H1 trivial (wS V) (wd50 V) (by decide) (vs := [(.int (48 : Int32)), (.int (48 : Int32)), (.int (48 : Int32)), (.int (48 : Int32)), (.int (45 : Int32)), (.int (48 : Int32)), (.int (48 : Int32)), (.int (45 : Int32)), (.int (48 : Int32)), (.int (48 : Int32))]) (z := (10 : Int32)) (by decide) (by decide) rfl (n := 40) (by decide) (by decide) (by decide) (by decide) dc_prog_14_method_4_code_4 (pc' := 6) rfl ?_
  intro T5 h5_ a6 b8 k9 H5 E7 X10 F11 F12 A13 Q14
  have S15 : Str Z h5_ a6 b8 k9 [(48 : Int32), (48 : Int32), (48 : Int32), (48 : Int32), (45 : Int32), (48 : Int32), (48 : Int32), (45 : Int32), (48 : Int32), (48 : Int32)] := ⟨X10, F11, F12, A13, by decide, by decide⟩
  show Go p e below _ (T5.setTop (mkF m 6 #[.val (.ref p0)] [(.ref a6), (.int (1 : Int32))]))
  refine G.callV H5 (m6_length V a6 b8 k9 h5_ H5.old F12 A13 X10 F11) (wd40 V) (wd41 V) (nf_sel (wd43 V)) (wd43 V) (wd42 V) (wd5 V) (wd44 V) (by decide) X10 (argsL := []) (rest := [(.int (1 : Int32))]) (W := 1) rfl rfl (lenOf (pd_4) rfl) rfl rfl dc_prog_14_method_4_code_6 (pc' := 9) rfl (by decide) (by decide) (by decide) (by decide) all0 ?_
  intro T16 h16_ v17 s18 H16 Q19
  obtain ⟨rfl, rfl, rfl⟩ := Q19
  show Go p e below _ (T16.setTop (mkF m 9 #[.val (.ref p0)] [(.int (10 : Int32)), (.int (1 : Int32))]))
  refine G.icmpYes H16 dc_prog_14_method_4_code_9 (by decide) (by decide) (pc' := 16) rfl ?_
  refine G.iconst H16 dc_prog_14_method_4_code_16 (pc' := 17) rfl (v := (0 : Int32)) rfl ?_
  have K20 : Keep h0 h5_ [] := (Keep.ext (Keep.refl h0 []) E7)
  exact G.retN H16 (t := .boolean) rfl (by decide) dc_prog_14_method_4_code_17 (so := []) all0 (by decide) (by decide) ⟨rfl, rfl, K20⟩
set_option maxRecDepth 65536 in
set_option maxHeartbeats 40000000 in
theorem m11_prefix {l : Launch} {Z : State} {a0 : Array Value} {n0 : Nat} {z_COMPACT_STRINGS : Int32} {z_SIOOBE_FORMATTER : Value} (V : Env1 Z a0 n0 z_COMPACT_STRINGS z_SIOOBE_FORMATTER) (p0 : Addr) (c0 : ClassId) (x0 : Int32) (x1 : Int32) (x2 : Int32) (x3 : Int32) (x4 : Int32) (x5 : Int32) (x6 : Int32) (x7 : Int32) (x8 : Int32) (x9 : Int32) (x10 : Int32) (x11 : Int32) (x12 : Int32) (x13 : Int32) (x14 : Int32) (x15 : Int32) (x16 : Int32) (x17 : Int32) (x18 : Int32) (x19 : Int32) (h0 : Heap) (hO : Old Z n0 h0) (f0 : Arv Z h0 p0 c0 .char (20 : Int32) [(.int x0), (.int x1), (.int x2), (.int x3), (.int x4), (.int x5), (.int x6), (.int x7), (.int x8), (.int x9), (.int x10), (.int x11), (.int x12), (.int x13), (.int x14), (.int x15), (.int x16), (.int x17), (.int x18), (.int x19)] (.int 0)) (r1 : ¬ x1 < 0 ∧ ¬ (65535 : Int32) < x1) (r2 : ¬ x0 < 0 ∧ ¬ (65535 : Int32) < x0) :
    Met Z a0 ELs True n0 l (⟨"com/example/tenure/tenure/DaysUntimedPinLaw", "prefix", "([CI)[C"⟩ : MethodName) method_3_code 3 (Option.some (FieldType.array FieldType.char)) ({ frames := 0, cells := 1, slots := 2, locals := 0 } : Room) #[(.ref p0), (.int (2 : Int32))] h0 [] (fun v h so => (∃ a2 : Addr, ∃ k5 : ClassId, v = some (.ref a2) ∧ so = [] ∧ Keep h0 h [] ∧ h0.size ≤ a2 ∧ Arv Z h a2 k5 .char (2 : Int32) [(.int x0), (.int x1)] (.int 0))) := by
  refine Met.of (EWl V) (by first | decide +kernel | rfl) hO (L0 := #[.val (.ref p0), .val (.int (2 : Int32)), .unset]) rfl ?_
  intro p e s m below meth c T H
  show Go p e below _ (T.setTop (mkF m 0 #[.val (.ref p0), .val (.int (2 : Int32)), .unset] []))
  refine G.iloadN H dc_method_3_code_0 (pc' := 1) rfl rfl ?_
  refine G.newP H (aty := .char) (wd0 V) dc_method_3_code_1 (pc' := 3) rfl (by decide) (cap := 2) (by decide) (by decide) (by decide) (by decide) (vs := [(.int (0 : Int32)), (.int (0 : Int32))]) rfl ?_
  intro T1 h1_ a2 k5 ga2 H1 E3 A4
  have na2 : n0 ≤ a2 := Nat.le_trans H.le (Nat.le_of_eq ga2.symm)
  replace A4 : Arv Z h1_ a2 k5 .char (2 : Int32) [(.int (0 : Int32)), (.int (0 : Int32))] (.int 0) := A4
  show Go p e below _ (T1.setTop (mkF m 3 #[.val (.ref p0), .val (.int (2 : Int32)), .unset] [(.ref a2)]))
  refine G.astoreN H1 (L' := #[.val (.ref p0), .val (.int (2 : Int32)), .val (.ref a2)]) dc_method_3_code_3 (pc' := 4) rfl rfl rfl ?_
  refine G.iloadN H1 dc_method_3_code_4 (pc' := 5) rfl rfl ?_
  refine G.tswIn H1 dc_method_3_code_5 (by decide) (o := 231) rfl (by decide) (pc' := 236) rfl ?_
  refine G.aloadN H1 dc_method_3_code_236 (pc' := 237) rfl rfl rfl ?_
  refine G.iconst H1 dc_method_3_code_237 (pc' := 238) rfl (v := (1 : Int32)) rfl ?_
  refine G.aloadN H1 dc_method_3_code_238 (pc' := 239) rfl rfl rfl ?_
  refine G.iconst H1 dc_method_3_code_239 (pc' := 240) rfl (v := (1 : Int32)) rfl ?_
  have F6 : Arv Z h1_ p0 c0 .char (20 : Int32) [(.int x0), (.int x1), (.int x2), (.int x3), (.int x4), (.int x5), (.int x6), (.int x7), (.int x8), (.int x9), (.int x10), (.int x11), (.int x12), (.int x13), (.int x14), (.int x15), (.int x16), (.int x17), (.int x18), (.int x19)] (.int 0) := (Arv.ext f0 E3)
  refine G.caloadG H1 F6 (j := (1 : Int32)) (v := (.int x1)) (by decide) rfl dc_method_3_code_240 (pc' := 241) rfl ?_
  refine G.stC H1 A4 (by decide) (i := 1) rfl (Nat.le_of_ble_eq_true rfl) na2 (y := x1) (own_narC r1) dc_method_3_code_241 (pc' := 242) rfl ?_
  intro T7 h7_ H7 W8 A9
  replace A9 : Arv Z h7_ a2 k5 .char (2 : Int32) [(.int (0 : Int32)), (.int x1)] (.int 0) := A9
  show Go p e below _ (T7.setTop (mkF m 242 #[.val (.ref p0), .val (.int (2 : Int32)), .val (.ref a2)] []))
  refine G.aloadN H7 dc_method_3_code_242 (pc' := 243) rfl rfl rfl ?_
  refine G.iconst H7 dc_method_3_code_243 (pc' := 244) rfl (v := (0 : Int32)) rfl ?_
  refine G.aloadN H7 dc_method_3_code_244 (pc' := 245) rfl rfl rfl ?_
  refine G.iconst H7 dc_method_3_code_245 (pc' := 246) rfl (v := (0 : Int32)) rfl ?_
  have N10 : p0 ≠ a2 := (Nat.ne_of_lt (Nat.lt_of_lt_of_le f0.lt (Nat.le_of_eq ga2.symm)))
  have F11 : Arv Z h7_ p0 c0 .char (20 : Int32) [(.int x0), (.int x1), (.int x2), (.int x3), (.int x4), (.int x5), (.int x6), (.int x7), (.int x8), (.int x9), (.int x10), (.int x11), (.int x12), (.int x13), (.int x14), (.int x15), (.int x16), (.int x17), (.int x18), (.int x19)] (.int 0) := (Arv.other F6 W8 N10)
  refine G.caloadG H7 F11 (j := (0 : Int32)) (v := (.int x0)) (by decide) rfl dc_method_3_code_246 (pc' := 247) rfl ?_
  refine G.stC H7 A9 (by decide) (i := 0) rfl (Nat.le_of_ble_eq_true rfl) na2 (y := x0) (own_narC r2) dc_method_3_code_247 (pc' := 248) rfl ?_
  intro T12 h12_ H12 W13 A14
  replace A14 : Arv Z h12_ a2 k5 .char (2 : Int32) [(.int x0), (.int x1)] (.int 0) := A14
  show Go p e below _ (T12.setTop (mkF m 248 #[.val (.ref p0), .val (.int (2 : Int32)), .val (.ref a2)] []))
  refine G.aloadN H12 dc_method_3_code_248 (pc' := 249) rfl rfl rfl ?_
  have K15 : Keep h0 h12_ [] := (Keep.wr (Keep.wr (Keep.ext (Keep.refl h0 []) E3) W8 (Or.inr (Nat.le_of_eq ga2.symm))) W13 (Or.inr (Nat.le_of_eq ga2.symm)))
  exact G.retA H12 (t := (.array .char)) rfl rfl rfl dc_method_3_code_249 (so := []) all0 (by decide) (by decide) ⟨a2, k5, rfl, rfl, K15, (Nat.le_of_eq ga2.symm), A14⟩
set_option maxRecDepth 65536 in
set_option maxHeartbeats 40000000 in
theorem m12_length {l : Launch} {Z : State} {a0 : Array Value} {n0 : Nat} {z_COMPACT_STRINGS : Int32} {z_SIOOBE_FORMATTER : Value} (V : Env1 Z a0 n0 z_COMPACT_STRINGS z_SIOOBE_FORMATTER) (p0 : Addr) (p1 : Addr) (c0 : ClassId) (x0 : Int32) (x1 : Int32) (h0 : Heap) (hO : Old Z n0 h0) (f0 : Fld Z h0 p0 "java/lang/String" "value" "[B" (.ref p1)) (f1 : Arv Z h0 p1 c0 .byte (2 : Int32) [(.int x0), (.int x1)] (.int 0)) (f2 : Exa Z h0 p0 "java/lang/String") (f3 : Fld Z h0 p0 "java/lang/String" "coder" "B" (.int (0 : Int32))) :
    Met Z a0 ELs True n0 l (⟨"java/lang/String", "length", "()I"⟩ : MethodName) jdk_42_method_54_code 1 (Option.some FieldType.int) ({ frames := 1, cells := 0, slots := 0, locals := 13 } : Room) #[(.ref p0)] h0 [] (fun v h so => (v = some (.int (2 : Int32)) ∧ so = [] ∧ h0 = h)) := by
  refine Met.of (EWl V) (by first | decide +kernel | rfl) hO (L0 := #[.val (.ref p0)]) rfl ?_
  intro p e s m below meth c T H
  show Go p e below _ (T.setTop (mkF m 0 #[.val (.ref p0)] []))
  refine G.aloadN H dc_jdk_42_method_54_code_0 (pc' := 1) rfl rfl rfl ?_
  refine G.getF H (wd34 V) Via.refl f0 dc_jdk_42_method_54_code_1 (pc' := 4) rfl ?_
  intro T1 H2
  refine G.arrlen H2 f1 dc_jdk_42_method_54_code_4 (pc' := 5) rfl ?_
  refine G.aloadN H2 dc_jdk_42_method_54_code_5 (pc' := 6) rfl rfl rfl ?_
  refine G.callV H2 (m4_coder V p0 h0 H2.old f3) (wd45 V) (wd46 V) (nf_sel (wd48 V)) (wd48 V) (wd47 V) (wd5 V) (wd49 V) (by decide) f2 (argsL := []) (rest := [(.int (2 : Int32))]) (W := 1) rfl rfl (lenOf (pd_3) rfl) rfl rfl dc_jdk_42_method_54_code_6 (pc' := 9) rfl (by decide) (by decide) (by decide) (by decide) all0 ?_
  intro T3 h3_ v4 s5 H3 Q6
  obtain ⟨rfl, rfl, rfl⟩ := Q6
  show Go p e below _ (T3.setTop (mkF m 9 #[.val (.ref p0)] [(.int (0 : Int32)), (.int (2 : Int32))]))
  refine G.ishr H3 dc_jdk_42_method_54_code_9 (pc' := 10) rfl ?_
  show Go p e below _ (T3.setTop (mkF m 10 #[.val (.ref p0)] [(.int (2 : Int32))]))
  exact G.retI H3 rfl dc_jdk_42_method_54_code_10 (so := []) all0 (by decide) (by decide) ⟨rfl, rfl, rfl⟩
set_option maxRecDepth 65536 in
set_option maxHeartbeats 40000000 in
theorem m13_untimed {l : Launch} {Z : State} {a0 : Array Value} {n0 : Nat} {z_COMPACT_STRINGS : Int32} {z_SIOOBE_FORMATTER : Value} (V : Env1 Z a0 n0 z_COMPACT_STRINGS z_SIOOBE_FORMATTER) (p0 : Addr) (p1 : Addr) (c0 : ClassId) (x0 : Int32) (x1 : Int32) (h0 : Heap) (hO : Old Z n0 h0) (f0 : Exa Z h0 p0 "java/lang/String") (f1 : Fld Z h0 p0 "java/lang/String" "value" "[B" (.ref p1)) (f2 : Arv Z h0 p1 c0 .byte (2 : Int32) [(.int x0), (.int x1)] (.int 0)) (f3 : Fld Z h0 p0 "java/lang/String" "coder" "B" (.int (0 : Int32))) :
    Met Z a0 ELs True n0 l (⟨"com/example/tenure/tenure/Days", "untimed", "(Ljava/lang/String;)Z"⟩ : MethodName) prog_14_method_4_code 1 (Option.some FieldType.boolean) ({ frames := 2, cells := 2, slots := 44, locals := 26 } : Room) #[(.ref p0)] h0 [p0, p1] (fun v h so => (v = some (.int (0 : Int32)) ∧ so = [] ∧ Keep h0 h [])) := by
  refine Met.of (EWl V) (by first | decide +kernel | rfl) hO (L0 := #[.val (.ref p0)]) rfl ?_
  intro p e s m below meth c T H
  show Go p e below _ (T.setTop (mkF m 0 #[.val (.ref p0)] []))
  refine G.aloadN H dc_prog_14_method_4_code_0 (pc' := 1) rfl rfl rfl ?_
  refine G.callV H (m12_length V p0 p1 c0 x0 x1 h0 H.old f1 f2 f0 f3) (wd40 V) (wd41 V) (nf_sel (wd43 V)) (wd43 V) (wd42 V) (wd5 V) (wd44 V) (by decide) f0 (argsL := []) (rest := []) (W := 0) rfl rfl (lenOf (pd_4) rfl) rfl rfl dc_prog_14_method_4_code_1 (pc' := 4) rfl (by decide) (by decide) (by decide) (by decide) all0 ?_
  intro T1 h1_ v2 s3 H1 Q4
  obtain ⟨rfl, rfl, rfl⟩ := Q4
  show Go p e below _ (T1.setTop (mkF m 4 #[.val (.ref p0)] [(.int (2 : Int32))]))
  refine G.ldcS H1 trivial (wS V) (wd50 V) (by decide) (vs := [(.int (48 : Int32)), (.int (48 : Int32)), (.int (48 : Int32)), (.int (48 : Int32)), (.int (45 : Int32)), (.int (48 : Int32)), (.int (48 : Int32)), (.int (45 : Int32)), (.int (48 : Int32)), (.int (48 : Int32))]) (z := (10 : Int32)) (by decide) (by decide) rfl (n := 40) (by decide) (by decide) (by decide) (by decide) dc_prog_14_method_4_code_4 (pc' := 6) rfl ?_
  intro T5 h5_ a6 b8 k9 H5 E7 X10 F11 F12 A13 Q14
  have S15 : Str Z h5_ a6 b8 k9 [(48 : Int32), (48 : Int32), (48 : Int32), (48 : Int32), (45 : Int32), (48 : Int32), (48 : Int32), (45 : Int32), (48 : Int32), (48 : Int32)] := ⟨X10, F11, F12, A13, by decide, by decide⟩
  show Go p e below _ (T5.setTop (mkF m 6 #[.val (.ref p0)] [(.ref a6), (.int (2 : Int32))]))
  refine G.callV H5 (m6_length V a6 b8 k9 h5_ H5.old F12 A13 X10 F11) (wd40 V) (wd41 V) (nf_sel (wd43 V)) (wd43 V) (wd42 V) (wd5 V) (wd44 V) (by decide) X10 (argsL := []) (rest := [(.int (2 : Int32))]) (W := 1) rfl rfl (lenOf (pd_4) rfl) rfl rfl dc_prog_14_method_4_code_6 (pc' := 9) rfl (by decide) (by decide) (by decide) (by decide) all0 ?_
  intro T16 h16_ v17 s18 H16 Q19
  obtain ⟨rfl, rfl, rfl⟩ := Q19
  show Go p e below _ (T16.setTop (mkF m 9 #[.val (.ref p0)] [(.int (10 : Int32)), (.int (2 : Int32))]))
  refine G.icmpYes H16 dc_prog_14_method_4_code_9 (by decide) (by decide) (pc' := 16) rfl ?_
  refine G.iconst H16 dc_prog_14_method_4_code_16 (pc' := 17) rfl (v := (0 : Int32)) rfl ?_
  have K20 : Keep h0 h5_ [] := (Keep.ext (Keep.refl h0 []) E7)
  exact G.retN H16 (t := .boolean) rfl (by decide) dc_prog_14_method_4_code_17 (so := []) all0 (by decide) (by decide) ⟨rfl, rfl, K20⟩
set_option maxRecDepth 65536 in
set_option maxHeartbeats 40000000 in
theorem m14_prefix {l : Launch} {Z : State} {a0 : Array Value} {n0 : Nat} {z_COMPACT_STRINGS : Int32} {z_SIOOBE_FORMATTER : Value} (V : Env1 Z a0 n0 z_COMPACT_STRINGS z_SIOOBE_FORMATTER) (p0 : Addr) (c0 : ClassId) (x0 : Int32) (x1 : Int32) (x2 : Int32) (x3 : Int32) (x4 : Int32) (x5 : Int32) (x6 : Int32) (x7 : Int32) (x8 : Int32) (x9 : Int32) (x10 : Int32) (x11 : Int32) (x12 : Int32) (x13 : Int32) (x14 : Int32) (x15 : Int32) (x16 : Int32) (x17 : Int32) (x18 : Int32) (x19 : Int32) (h0 : Heap) (hO : Old Z n0 h0) (f0 : Arv Z h0 p0 c0 .char (20 : Int32) [(.int x0), (.int x1), (.int x2), (.int x3), (.int x4), (.int x5), (.int x6), (.int x7), (.int x8), (.int x9), (.int x10), (.int x11), (.int x12), (.int x13), (.int x14), (.int x15), (.int x16), (.int x17), (.int x18), (.int x19)] (.int 0)) (r1 : ¬ x2 < 0 ∧ ¬ (65535 : Int32) < x2) (r2 : ¬ x1 < 0 ∧ ¬ (65535 : Int32) < x1) (r3 : ¬ x0 < 0 ∧ ¬ (65535 : Int32) < x0) :
    Met Z a0 ELs True n0 l (⟨"com/example/tenure/tenure/DaysUntimedPinLaw", "prefix", "([CI)[C"⟩ : MethodName) method_3_code 3 (Option.some (FieldType.array FieldType.char)) ({ frames := 0, cells := 1, slots := 3, locals := 0 } : Room) #[(.ref p0), (.int (3 : Int32))] h0 [] (fun v h so => (∃ a2 : Addr, ∃ k5 : ClassId, v = some (.ref a2) ∧ so = [] ∧ Keep h0 h [] ∧ h0.size ≤ a2 ∧ Arv Z h a2 k5 .char (3 : Int32) [(.int x0), (.int x1), (.int x2)] (.int 0))) := by
  refine Met.of (EWl V) (by first | decide +kernel | rfl) hO (L0 := #[.val (.ref p0), .val (.int (3 : Int32)), .unset]) rfl ?_
  intro p e s m below meth c T H
  show Go p e below _ (T.setTop (mkF m 0 #[.val (.ref p0), .val (.int (3 : Int32)), .unset] []))
  refine G.iloadN H dc_method_3_code_0 (pc' := 1) rfl rfl ?_
  refine G.newP H (aty := .char) (wd0 V) dc_method_3_code_1 (pc' := 3) rfl (by decide) (cap := 3) (by decide) (by decide) (by decide) (by decide) (vs := [(.int (0 : Int32)), (.int (0 : Int32)), (.int (0 : Int32))]) rfl ?_
  intro T1 h1_ a2 k5 ga2 H1 E3 A4
  have na2 : n0 ≤ a2 := Nat.le_trans H.le (Nat.le_of_eq ga2.symm)
  replace A4 : Arv Z h1_ a2 k5 .char (3 : Int32) [(.int (0 : Int32)), (.int (0 : Int32)), (.int (0 : Int32))] (.int 0) := A4
  show Go p e below _ (T1.setTop (mkF m 3 #[.val (.ref p0), .val (.int (3 : Int32)), .unset] [(.ref a2)]))
  refine G.astoreN H1 (L' := #[.val (.ref p0), .val (.int (3 : Int32)), .val (.ref a2)]) dc_method_3_code_3 (pc' := 4) rfl rfl rfl ?_
  refine G.iloadN H1 dc_method_3_code_4 (pc' := 5) rfl rfl ?_
  refine G.tswIn H1 dc_method_3_code_5 (by decide) (o := 225) rfl (by decide) (pc' := 230) rfl ?_
  refine G.aloadN H1 dc_method_3_code_230 (pc' := 231) rfl rfl rfl ?_
  refine G.iconst H1 dc_method_3_code_231 (pc' := 232) rfl (v := (2 : Int32)) rfl ?_
  refine G.aloadN H1 dc_method_3_code_232 (pc' := 233) rfl rfl rfl ?_
  refine G.iconst H1 dc_method_3_code_233 (pc' := 234) rfl (v := (2 : Int32)) rfl ?_
  have F6 : Arv Z h1_ p0 c0 .char (20 : Int32) [(.int x0), (.int x1), (.int x2), (.int x3), (.int x4), (.int x5), (.int x6), (.int x7), (.int x8), (.int x9), (.int x10), (.int x11), (.int x12), (.int x13), (.int x14), (.int x15), (.int x16), (.int x17), (.int x18), (.int x19)] (.int 0) := (Arv.ext f0 E3)
  refine G.caloadG H1 F6 (j := (2 : Int32)) (v := (.int x2)) (by decide) rfl dc_method_3_code_234 (pc' := 235) rfl ?_
  refine G.stC H1 A4 (by decide) (i := 2) rfl (Nat.le_of_ble_eq_true rfl) na2 (y := x2) (own_narC r1) dc_method_3_code_235 (pc' := 236) rfl ?_
  intro T7 h7_ H7 W8 A9
  replace A9 : Arv Z h7_ a2 k5 .char (3 : Int32) [(.int (0 : Int32)), (.int (0 : Int32)), (.int x2)] (.int 0) := A9
  show Go p e below _ (T7.setTop (mkF m 236 #[.val (.ref p0), .val (.int (3 : Int32)), .val (.ref a2)] []))
  refine G.aloadN H7 dc_method_3_code_236 (pc' := 237) rfl rfl rfl ?_
  refine G.iconst H7 dc_method_3_code_237 (pc' := 238) rfl (v := (1 : Int32)) rfl ?_
  refine G.aloadN H7 dc_method_3_code_238 (pc' := 239) rfl rfl rfl ?_
  refine G.iconst H7 dc_method_3_code_239 (pc' := 240) rfl (v := (1 : Int32)) rfl ?_
  have N10 : p0 ≠ a2 := (Nat.ne_of_lt (Nat.lt_of_lt_of_le f0.lt (Nat.le_of_eq ga2.symm)))
  have F11 : Arv Z h7_ p0 c0 .char (20 : Int32) [(.int x0), (.int x1), (.int x2), (.int x3), (.int x4), (.int x5), (.int x6), (.int x7), (.int x8), (.int x9), (.int x10), (.int x11), (.int x12), (.int x13), (.int x14), (.int x15), (.int x16), (.int x17), (.int x18), (.int x19)] (.int 0) := (Arv.other F6 W8 N10)
  refine G.caloadG H7 F11 (j := (1 : Int32)) (v := (.int x1)) (by decide) rfl dc_method_3_code_240 (pc' := 241) rfl ?_
  refine G.stC H7 A9 (by decide) (i := 1) rfl (Nat.le_of_ble_eq_true rfl) na2 (y := x1) (own_narC r2) dc_method_3_code_241 (pc' := 242) rfl ?_
  intro T12 h12_ H12 W13 A14
  replace A14 : Arv Z h12_ a2 k5 .char (3 : Int32) [(.int (0 : Int32)), (.int x1), (.int x2)] (.int 0) := A14
  show Go p e below _ (T12.setTop (mkF m 242 #[.val (.ref p0), .val (.int (3 : Int32)), .val (.ref a2)] []))
  refine G.aloadN H12 dc_method_3_code_242 (pc' := 243) rfl rfl rfl ?_
  refine G.iconst H12 dc_method_3_code_243 (pc' := 244) rfl (v := (0 : Int32)) rfl ?_
  refine G.aloadN H12 dc_method_3_code_244 (pc' := 245) rfl rfl rfl ?_
  refine G.iconst H12 dc_method_3_code_245 (pc' := 246) rfl (v := (0 : Int32)) rfl ?_
  have F15 : Arv Z h12_ p0 c0 .char (20 : Int32) [(.int x0), (.int x1), (.int x2), (.int x3), (.int x4), (.int x5), (.int x6), (.int x7), (.int x8), (.int x9), (.int x10), (.int x11), (.int x12), (.int x13), (.int x14), (.int x15), (.int x16), (.int x17), (.int x18), (.int x19)] (.int 0) := (Arv.other F11 W13 N10)
  refine G.caloadG H12 F15 (j := (0 : Int32)) (v := (.int x0)) (by decide) rfl dc_method_3_code_246 (pc' := 247) rfl ?_
  refine G.stC H12 A14 (by decide) (i := 0) rfl (Nat.le_of_ble_eq_true rfl) na2 (y := x0) (own_narC r3) dc_method_3_code_247 (pc' := 248) rfl ?_
  intro T16 h16_ H16 W17 A18
  replace A18 : Arv Z h16_ a2 k5 .char (3 : Int32) [(.int x0), (.int x1), (.int x2)] (.int 0) := A18
  show Go p e below _ (T16.setTop (mkF m 248 #[.val (.ref p0), .val (.int (3 : Int32)), .val (.ref a2)] []))
  refine G.aloadN H16 dc_method_3_code_248 (pc' := 249) rfl rfl rfl ?_
  have K19 : Keep h0 h16_ [] := (Keep.wr (Keep.wr (Keep.wr (Keep.ext (Keep.refl h0 []) E3) W8 (Or.inr (Nat.le_of_eq ga2.symm))) W13 (Or.inr (Nat.le_of_eq ga2.symm))) W17 (Or.inr (Nat.le_of_eq ga2.symm)))
  exact G.retA H16 (t := (.array .char)) rfl rfl rfl dc_method_3_code_249 (so := []) all0 (by decide) (by decide) ⟨a2, k5, rfl, rfl, K19, (Nat.le_of_eq ga2.symm), A18⟩
set_option maxRecDepth 65536 in
set_option maxHeartbeats 40000000 in
theorem m15_length {l : Launch} {Z : State} {a0 : Array Value} {n0 : Nat} {z_COMPACT_STRINGS : Int32} {z_SIOOBE_FORMATTER : Value} (V : Env1 Z a0 n0 z_COMPACT_STRINGS z_SIOOBE_FORMATTER) (p0 : Addr) (p1 : Addr) (c0 : ClassId) (x0 : Int32) (x1 : Int32) (x2 : Int32) (h0 : Heap) (hO : Old Z n0 h0) (f0 : Fld Z h0 p0 "java/lang/String" "value" "[B" (.ref p1)) (f1 : Arv Z h0 p1 c0 .byte (3 : Int32) [(.int x0), (.int x1), (.int x2)] (.int 0)) (f2 : Exa Z h0 p0 "java/lang/String") (f3 : Fld Z h0 p0 "java/lang/String" "coder" "B" (.int (0 : Int32))) :
    Met Z a0 ELs True n0 l (⟨"java/lang/String", "length", "()I"⟩ : MethodName) jdk_42_method_54_code 1 (Option.some FieldType.int) ({ frames := 1, cells := 0, slots := 0, locals := 13 } : Room) #[(.ref p0)] h0 [] (fun v h so => (v = some (.int (3 : Int32)) ∧ so = [] ∧ h0 = h)) := by
  refine Met.of (EWl V) (by first | decide +kernel | rfl) hO (L0 := #[.val (.ref p0)]) rfl ?_
  intro p e s m below meth c T H
  show Go p e below _ (T.setTop (mkF m 0 #[.val (.ref p0)] []))
  refine G.aloadN H dc_jdk_42_method_54_code_0 (pc' := 1) rfl rfl rfl ?_
  refine G.getF H (wd34 V) Via.refl f0 dc_jdk_42_method_54_code_1 (pc' := 4) rfl ?_
  intro T1 H2
  refine G.arrlen H2 f1 dc_jdk_42_method_54_code_4 (pc' := 5) rfl ?_
  refine G.aloadN H2 dc_jdk_42_method_54_code_5 (pc' := 6) rfl rfl rfl ?_
  refine G.callV H2 (m4_coder V p0 h0 H2.old f3) (wd45 V) (wd46 V) (nf_sel (wd48 V)) (wd48 V) (wd47 V) (wd5 V) (wd49 V) (by decide) f2 (argsL := []) (rest := [(.int (3 : Int32))]) (W := 1) rfl rfl (lenOf (pd_3) rfl) rfl rfl dc_jdk_42_method_54_code_6 (pc' := 9) rfl (by decide) (by decide) (by decide) (by decide) all0 ?_
  intro T3 h3_ v4 s5 H3 Q6
  obtain ⟨rfl, rfl, rfl⟩ := Q6
  show Go p e below _ (T3.setTop (mkF m 9 #[.val (.ref p0)] [(.int (0 : Int32)), (.int (3 : Int32))]))
  refine G.ishr H3 dc_jdk_42_method_54_code_9 (pc' := 10) rfl ?_
  show Go p e below _ (T3.setTop (mkF m 10 #[.val (.ref p0)] [(.int (3 : Int32))]))
  exact G.retI H3 rfl dc_jdk_42_method_54_code_10 (so := []) all0 (by decide) (by decide) ⟨rfl, rfl, rfl⟩
set_option maxRecDepth 65536 in
set_option maxHeartbeats 40000000 in
theorem m16_untimed {l : Launch} {Z : State} {a0 : Array Value} {n0 : Nat} {z_COMPACT_STRINGS : Int32} {z_SIOOBE_FORMATTER : Value} (V : Env1 Z a0 n0 z_COMPACT_STRINGS z_SIOOBE_FORMATTER) (p0 : Addr) (p1 : Addr) (c0 : ClassId) (x0 : Int32) (x1 : Int32) (x2 : Int32) (h0 : Heap) (hO : Old Z n0 h0) (f0 : Exa Z h0 p0 "java/lang/String") (f1 : Fld Z h0 p0 "java/lang/String" "value" "[B" (.ref p1)) (f2 : Arv Z h0 p1 c0 .byte (3 : Int32) [(.int x0), (.int x1), (.int x2)] (.int 0)) (f3 : Fld Z h0 p0 "java/lang/String" "coder" "B" (.int (0 : Int32))) :
    Met Z a0 ELs True n0 l (⟨"com/example/tenure/tenure/Days", "untimed", "(Ljava/lang/String;)Z"⟩ : MethodName) prog_14_method_4_code 1 (Option.some FieldType.boolean) ({ frames := 2, cells := 2, slots := 44, locals := 26 } : Room) #[(.ref p0)] h0 [p0, p1] (fun v h so => (v = some (.int (0 : Int32)) ∧ so = [] ∧ Keep h0 h [])) := by
  refine Met.of (EWl V) (by first | decide +kernel | rfl) hO (L0 := #[.val (.ref p0)]) rfl ?_
  intro p e s m below meth c T H
  show Go p e below _ (T.setTop (mkF m 0 #[.val (.ref p0)] []))
  refine G.aloadN H dc_prog_14_method_4_code_0 (pc' := 1) rfl rfl rfl ?_
  refine G.callV H (m15_length V p0 p1 c0 x0 x1 x2 h0 H.old f1 f2 f0 f3) (wd40 V) (wd41 V) (nf_sel (wd43 V)) (wd43 V) (wd42 V) (wd5 V) (wd44 V) (by decide) f0 (argsL := []) (rest := []) (W := 0) rfl rfl (lenOf (pd_4) rfl) rfl rfl dc_prog_14_method_4_code_1 (pc' := 4) rfl (by decide) (by decide) (by decide) (by decide) all0 ?_
  intro T1 h1_ v2 s3 H1 Q4
  obtain ⟨rfl, rfl, rfl⟩ := Q4
  show Go p e below _ (T1.setTop (mkF m 4 #[.val (.ref p0)] [(.int (3 : Int32))]))
  refine G.ldcS H1 trivial (wS V) (wd50 V) (by decide) (vs := [(.int (48 : Int32)), (.int (48 : Int32)), (.int (48 : Int32)), (.int (48 : Int32)), (.int (45 : Int32)), (.int (48 : Int32)), (.int (48 : Int32)), (.int (45 : Int32)), (.int (48 : Int32)), (.int (48 : Int32))]) (z := (10 : Int32)) (by decide) (by decide) rfl (n := 40) (by decide) (by decide) (by decide) (by decide) dc_prog_14_method_4_code_4 (pc' := 6) rfl ?_
  intro T5 h5_ a6 b8 k9 H5 E7 X10 F11 F12 A13 Q14
  have S15 : Str Z h5_ a6 b8 k9 [(48 : Int32), (48 : Int32), (48 : Int32), (48 : Int32), (45 : Int32), (48 : Int32), (48 : Int32), (45 : Int32), (48 : Int32), (48 : Int32)] := ⟨X10, F11, F12, A13, by decide, by decide⟩
  show Go p e below _ (T5.setTop (mkF m 6 #[.val (.ref p0)] [(.ref a6), (.int (3 : Int32))]))
  refine G.callV H5 (m6_length V a6 b8 k9 h5_ H5.old F12 A13 X10 F11) (wd40 V) (wd41 V) (nf_sel (wd43 V)) (wd43 V) (wd42 V) (wd5 V) (wd44 V) (by decide) X10 (argsL := []) (rest := [(.int (3 : Int32))]) (W := 1) rfl rfl (lenOf (pd_4) rfl) rfl rfl dc_prog_14_method_4_code_6 (pc' := 9) rfl (by decide) (by decide) (by decide) (by decide) all0 ?_
  intro T16 h16_ v17 s18 H16 Q19
  obtain ⟨rfl, rfl, rfl⟩ := Q19
  show Go p e below _ (T16.setTop (mkF m 9 #[.val (.ref p0)] [(.int (10 : Int32)), (.int (3 : Int32))]))
  refine G.icmpYes H16 dc_prog_14_method_4_code_9 (by decide) (by decide) (pc' := 16) rfl ?_
  refine G.iconst H16 dc_prog_14_method_4_code_16 (pc' := 17) rfl (v := (0 : Int32)) rfl ?_
  have K20 : Keep h0 h5_ [] := (Keep.ext (Keep.refl h0 []) E7)
  exact G.retN H16 (t := .boolean) rfl (by decide) dc_prog_14_method_4_code_17 (so := []) all0 (by decide) (by decide) ⟨rfl, rfl, K20⟩
set_option maxRecDepth 65536 in
set_option maxHeartbeats 40000000 in
theorem m17_prefix {l : Launch} {Z : State} {a0 : Array Value} {n0 : Nat} {z_COMPACT_STRINGS : Int32} {z_SIOOBE_FORMATTER : Value} (V : Env1 Z a0 n0 z_COMPACT_STRINGS z_SIOOBE_FORMATTER) (p0 : Addr) (c0 : ClassId) (x0 : Int32) (x1 : Int32) (x2 : Int32) (x3 : Int32) (x4 : Int32) (x5 : Int32) (x6 : Int32) (x7 : Int32) (x8 : Int32) (x9 : Int32) (x10 : Int32) (x11 : Int32) (x12 : Int32) (x13 : Int32) (x14 : Int32) (x15 : Int32) (x16 : Int32) (x17 : Int32) (x18 : Int32) (x19 : Int32) (h0 : Heap) (hO : Old Z n0 h0) (f0 : Arv Z h0 p0 c0 .char (20 : Int32) [(.int x0), (.int x1), (.int x2), (.int x3), (.int x4), (.int x5), (.int x6), (.int x7), (.int x8), (.int x9), (.int x10), (.int x11), (.int x12), (.int x13), (.int x14), (.int x15), (.int x16), (.int x17), (.int x18), (.int x19)] (.int 0)) (r1 : ¬ x3 < 0 ∧ ¬ (65535 : Int32) < x3) (r2 : ¬ x2 < 0 ∧ ¬ (65535 : Int32) < x2) (r3 : ¬ x1 < 0 ∧ ¬ (65535 : Int32) < x1) (r4 : ¬ x0 < 0 ∧ ¬ (65535 : Int32) < x0) :
    Met Z a0 ELs True n0 l (⟨"com/example/tenure/tenure/DaysUntimedPinLaw", "prefix", "([CI)[C"⟩ : MethodName) method_3_code 3 (Option.some (FieldType.array FieldType.char)) ({ frames := 0, cells := 1, slots := 4, locals := 0 } : Room) #[(.ref p0), (.int (4 : Int32))] h0 [] (fun v h so => (∃ a2 : Addr, ∃ k5 : ClassId, v = some (.ref a2) ∧ so = [] ∧ Keep h0 h [] ∧ h0.size ≤ a2 ∧ Arv Z h a2 k5 .char (4 : Int32) [(.int x0), (.int x1), (.int x2), (.int x3)] (.int 0))) := by
  refine Met.of (EWl V) (by first | decide +kernel | rfl) hO (L0 := #[.val (.ref p0), .val (.int (4 : Int32)), .unset]) rfl ?_
  intro p e s m below meth c T H
  show Go p e below _ (T.setTop (mkF m 0 #[.val (.ref p0), .val (.int (4 : Int32)), .unset] []))
  refine G.iloadN H dc_method_3_code_0 (pc' := 1) rfl rfl ?_
  refine G.newP H (aty := .char) (wd0 V) dc_method_3_code_1 (pc' := 3) rfl (by decide) (cap := 4) (by decide) (by decide) (by decide) (by decide) (vs := [(.int (0 : Int32)), (.int (0 : Int32)), (.int (0 : Int32)), (.int (0 : Int32))]) rfl ?_
  intro T1 h1_ a2 k5 ga2 H1 E3 A4
  have na2 : n0 ≤ a2 := Nat.le_trans H.le (Nat.le_of_eq ga2.symm)
  replace A4 : Arv Z h1_ a2 k5 .char (4 : Int32) [(.int (0 : Int32)), (.int (0 : Int32)), (.int (0 : Int32)), (.int (0 : Int32))] (.int 0) := A4
  show Go p e below _ (T1.setTop (mkF m 3 #[.val (.ref p0), .val (.int (4 : Int32)), .unset] [(.ref a2)]))
  refine G.astoreN H1 (L' := #[.val (.ref p0), .val (.int (4 : Int32)), .val (.ref a2)]) dc_method_3_code_3 (pc' := 4) rfl rfl rfl ?_
  refine G.iloadN H1 dc_method_3_code_4 (pc' := 5) rfl rfl ?_
  refine G.tswIn H1 dc_method_3_code_5 (by decide) (o := 219) rfl (by decide) (pc' := 224) rfl ?_
  refine G.aloadN H1 dc_method_3_code_224 (pc' := 225) rfl rfl rfl ?_
  refine G.iconst H1 dc_method_3_code_225 (pc' := 226) rfl (v := (3 : Int32)) rfl ?_
  refine G.aloadN H1 dc_method_3_code_226 (pc' := 227) rfl rfl rfl ?_
  refine G.iconst H1 dc_method_3_code_227 (pc' := 228) rfl (v := (3 : Int32)) rfl ?_
  have F6 : Arv Z h1_ p0 c0 .char (20 : Int32) [(.int x0), (.int x1), (.int x2), (.int x3), (.int x4), (.int x5), (.int x6), (.int x7), (.int x8), (.int x9), (.int x10), (.int x11), (.int x12), (.int x13), (.int x14), (.int x15), (.int x16), (.int x17), (.int x18), (.int x19)] (.int 0) := (Arv.ext f0 E3)
  refine G.caloadG H1 F6 (j := (3 : Int32)) (v := (.int x3)) (by decide) rfl dc_method_3_code_228 (pc' := 229) rfl ?_
  refine G.stC H1 A4 (by decide) (i := 3) rfl (Nat.le_of_ble_eq_true rfl) na2 (y := x3) (own_narC r1) dc_method_3_code_229 (pc' := 230) rfl ?_
  intro T7 h7_ H7 W8 A9
  replace A9 : Arv Z h7_ a2 k5 .char (4 : Int32) [(.int (0 : Int32)), (.int (0 : Int32)), (.int (0 : Int32)), (.int x3)] (.int 0) := A9
  show Go p e below _ (T7.setTop (mkF m 230 #[.val (.ref p0), .val (.int (4 : Int32)), .val (.ref a2)] []))
  refine G.aloadN H7 dc_method_3_code_230 (pc' := 231) rfl rfl rfl ?_
  refine G.iconst H7 dc_method_3_code_231 (pc' := 232) rfl (v := (2 : Int32)) rfl ?_
  refine G.aloadN H7 dc_method_3_code_232 (pc' := 233) rfl rfl rfl ?_
  refine G.iconst H7 dc_method_3_code_233 (pc' := 234) rfl (v := (2 : Int32)) rfl ?_
  have N10 : p0 ≠ a2 := (Nat.ne_of_lt (Nat.lt_of_lt_of_le f0.lt (Nat.le_of_eq ga2.symm)))
  have F11 : Arv Z h7_ p0 c0 .char (20 : Int32) [(.int x0), (.int x1), (.int x2), (.int x3), (.int x4), (.int x5), (.int x6), (.int x7), (.int x8), (.int x9), (.int x10), (.int x11), (.int x12), (.int x13), (.int x14), (.int x15), (.int x16), (.int x17), (.int x18), (.int x19)] (.int 0) := (Arv.other F6 W8 N10)
  refine G.caloadG H7 F11 (j := (2 : Int32)) (v := (.int x2)) (by decide) rfl dc_method_3_code_234 (pc' := 235) rfl ?_
  refine G.stC H7 A9 (by decide) (i := 2) rfl (Nat.le_of_ble_eq_true rfl) na2 (y := x2) (own_narC r2) dc_method_3_code_235 (pc' := 236) rfl ?_
  intro T12 h12_ H12 W13 A14
  replace A14 : Arv Z h12_ a2 k5 .char (4 : Int32) [(.int (0 : Int32)), (.int (0 : Int32)), (.int x2), (.int x3)] (.int 0) := A14
  show Go p e below _ (T12.setTop (mkF m 236 #[.val (.ref p0), .val (.int (4 : Int32)), .val (.ref a2)] []))
  refine G.aloadN H12 dc_method_3_code_236 (pc' := 237) rfl rfl rfl ?_
  refine G.iconst H12 dc_method_3_code_237 (pc' := 238) rfl (v := (1 : Int32)) rfl ?_
  refine G.aloadN H12 dc_method_3_code_238 (pc' := 239) rfl rfl rfl ?_
  refine G.iconst H12 dc_method_3_code_239 (pc' := 240) rfl (v := (1 : Int32)) rfl ?_
  have F15 : Arv Z h12_ p0 c0 .char (20 : Int32) [(.int x0), (.int x1), (.int x2), (.int x3), (.int x4), (.int x5), (.int x6), (.int x7), (.int x8), (.int x9), (.int x10), (.int x11), (.int x12), (.int x13), (.int x14), (.int x15), (.int x16), (.int x17), (.int x18), (.int x19)] (.int 0) := (Arv.other F11 W13 N10)
  refine G.caloadG H12 F15 (j := (1 : Int32)) (v := (.int x1)) (by decide) rfl dc_method_3_code_240 (pc' := 241) rfl ?_
  refine G.stC H12 A14 (by decide) (i := 1) rfl (Nat.le_of_ble_eq_true rfl) na2 (y := x1) (own_narC r3) dc_method_3_code_241 (pc' := 242) rfl ?_
  intro T16 h16_ H16 W17 A18
  replace A18 : Arv Z h16_ a2 k5 .char (4 : Int32) [(.int (0 : Int32)), (.int x1), (.int x2), (.int x3)] (.int 0) := A18
  show Go p e below _ (T16.setTop (mkF m 242 #[.val (.ref p0), .val (.int (4 : Int32)), .val (.ref a2)] []))
  refine G.aloadN H16 dc_method_3_code_242 (pc' := 243) rfl rfl rfl ?_
  refine G.iconst H16 dc_method_3_code_243 (pc' := 244) rfl (v := (0 : Int32)) rfl ?_
  refine G.aloadN H16 dc_method_3_code_244 (pc' := 245) rfl rfl rfl ?_
  refine G.iconst H16 dc_method_3_code_245 (pc' := 246) rfl (v := (0 : Int32)) rfl ?_
  have F19 : Arv Z h16_ p0 c0 .char (20 : Int32) [(.int x0), (.int x1), (.int x2), (.int x3), (.int x4), (.int x5), (.int x6), (.int x7), (.int x8), (.int x9), (.int x10), (.int x11), (.int x12), (.int x13), (.int x14), (.int x15), (.int x16), (.int x17), (.int x18), (.int x19)] (.int 0) := (Arv.other F15 W17 N10)
  refine G.caloadG H16 F19 (j := (0 : Int32)) (v := (.int x0)) (by decide) rfl dc_method_3_code_246 (pc' := 247) rfl ?_
  refine G.stC H16 A18 (by decide) (i := 0) rfl (Nat.le_of_ble_eq_true rfl) na2 (y := x0) (own_narC r4) dc_method_3_code_247 (pc' := 248) rfl ?_
  intro T20 h20_ H20 W21 A22
  replace A22 : Arv Z h20_ a2 k5 .char (4 : Int32) [(.int x0), (.int x1), (.int x2), (.int x3)] (.int 0) := A22
  show Go p e below _ (T20.setTop (mkF m 248 #[.val (.ref p0), .val (.int (4 : Int32)), .val (.ref a2)] []))
  refine G.aloadN H20 dc_method_3_code_248 (pc' := 249) rfl rfl rfl ?_
  have K23 : Keep h0 h20_ [] := (Keep.wr (Keep.wr (Keep.wr (Keep.wr (Keep.ext (Keep.refl h0 []) E3) W8 (Or.inr (Nat.le_of_eq ga2.symm))) W13 (Or.inr (Nat.le_of_eq ga2.symm))) W17 (Or.inr (Nat.le_of_eq ga2.symm))) W21 (Or.inr (Nat.le_of_eq ga2.symm)))
  exact G.retA H20 (t := (.array .char)) rfl rfl rfl dc_method_3_code_249 (so := []) all0 (by decide) (by decide) ⟨a2, k5, rfl, rfl, K23, (Nat.le_of_eq ga2.symm), A22⟩
set_option maxRecDepth 65536 in
set_option maxHeartbeats 40000000 in
theorem m18_length {l : Launch} {Z : State} {a0 : Array Value} {n0 : Nat} {z_COMPACT_STRINGS : Int32} {z_SIOOBE_FORMATTER : Value} (V : Env1 Z a0 n0 z_COMPACT_STRINGS z_SIOOBE_FORMATTER) (p0 : Addr) (p1 : Addr) (c0 : ClassId) (x0 : Int32) (x1 : Int32) (x2 : Int32) (x3 : Int32) (h0 : Heap) (hO : Old Z n0 h0) (f0 : Fld Z h0 p0 "java/lang/String" "value" "[B" (.ref p1)) (f1 : Arv Z h0 p1 c0 .byte (4 : Int32) [(.int x0), (.int x1), (.int x2), (.int x3)] (.int 0)) (f2 : Exa Z h0 p0 "java/lang/String") (f3 : Fld Z h0 p0 "java/lang/String" "coder" "B" (.int (0 : Int32))) :
    Met Z a0 ELs True n0 l (⟨"java/lang/String", "length", "()I"⟩ : MethodName) jdk_42_method_54_code 1 (Option.some FieldType.int) ({ frames := 1, cells := 0, slots := 0, locals := 13 } : Room) #[(.ref p0)] h0 [] (fun v h so => (v = some (.int (4 : Int32)) ∧ so = [] ∧ h0 = h)) := by
  refine Met.of (EWl V) (by first | decide +kernel | rfl) hO (L0 := #[.val (.ref p0)]) rfl ?_
  intro p e s m below meth c T H
  show Go p e below _ (T.setTop (mkF m 0 #[.val (.ref p0)] []))
  refine G.aloadN H dc_jdk_42_method_54_code_0 (pc' := 1) rfl rfl rfl ?_
  refine G.getF H (wd34 V) Via.refl f0 dc_jdk_42_method_54_code_1 (pc' := 4) rfl ?_
  intro T1 H2
  refine G.arrlen H2 f1 dc_jdk_42_method_54_code_4 (pc' := 5) rfl ?_
  refine G.aloadN H2 dc_jdk_42_method_54_code_5 (pc' := 6) rfl rfl rfl ?_
  refine G.callV H2 (m4_coder V p0 h0 H2.old f3) (wd45 V) (wd46 V) (nf_sel (wd48 V)) (wd48 V) (wd47 V) (wd5 V) (wd49 V) (by decide) f2 (argsL := []) (rest := [(.int (4 : Int32))]) (W := 1) rfl rfl (lenOf (pd_3) rfl) rfl rfl dc_jdk_42_method_54_code_6 (pc' := 9) rfl (by decide) (by decide) (by decide) (by decide) all0 ?_
  intro T3 h3_ v4 s5 H3 Q6
  obtain ⟨rfl, rfl, rfl⟩ := Q6
  show Go p e below _ (T3.setTop (mkF m 9 #[.val (.ref p0)] [(.int (0 : Int32)), (.int (4 : Int32))]))
  refine G.ishr H3 dc_jdk_42_method_54_code_9 (pc' := 10) rfl ?_
  show Go p e below _ (T3.setTop (mkF m 10 #[.val (.ref p0)] [(.int (4 : Int32))]))
  exact G.retI H3 rfl dc_jdk_42_method_54_code_10 (so := []) all0 (by decide) (by decide) ⟨rfl, rfl, rfl⟩
set_option maxRecDepth 65536 in
set_option maxHeartbeats 40000000 in
theorem m19_untimed {l : Launch} {Z : State} {a0 : Array Value} {n0 : Nat} {z_COMPACT_STRINGS : Int32} {z_SIOOBE_FORMATTER : Value} (V : Env1 Z a0 n0 z_COMPACT_STRINGS z_SIOOBE_FORMATTER) (p0 : Addr) (p1 : Addr) (c0 : ClassId) (x0 : Int32) (x1 : Int32) (x2 : Int32) (x3 : Int32) (h0 : Heap) (hO : Old Z n0 h0) (f0 : Exa Z h0 p0 "java/lang/String") (f1 : Fld Z h0 p0 "java/lang/String" "value" "[B" (.ref p1)) (f2 : Arv Z h0 p1 c0 .byte (4 : Int32) [(.int x0), (.int x1), (.int x2), (.int x3)] (.int 0)) (f3 : Fld Z h0 p0 "java/lang/String" "coder" "B" (.int (0 : Int32))) :
    Met Z a0 ELs True n0 l (⟨"com/example/tenure/tenure/Days", "untimed", "(Ljava/lang/String;)Z"⟩ : MethodName) prog_14_method_4_code 1 (Option.some FieldType.boolean) ({ frames := 2, cells := 2, slots := 44, locals := 26 } : Room) #[(.ref p0)] h0 [p0, p1] (fun v h so => (v = some (.int (0 : Int32)) ∧ so = [] ∧ Keep h0 h [])) := by
  refine Met.of (EWl V) (by first | decide +kernel | rfl) hO (L0 := #[.val (.ref p0)]) rfl ?_
  intro p e s m below meth c T H
  show Go p e below _ (T.setTop (mkF m 0 #[.val (.ref p0)] []))
  refine G.aloadN H dc_prog_14_method_4_code_0 (pc' := 1) rfl rfl rfl ?_
  refine G.callV H (m18_length V p0 p1 c0 x0 x1 x2 x3 h0 H.old f1 f2 f0 f3) (wd40 V) (wd41 V) (nf_sel (wd43 V)) (wd43 V) (wd42 V) (wd5 V) (wd44 V) (by decide) f0 (argsL := []) (rest := []) (W := 0) rfl rfl (lenOf (pd_4) rfl) rfl rfl dc_prog_14_method_4_code_1 (pc' := 4) rfl (by decide) (by decide) (by decide) (by decide) all0 ?_
  intro T1 h1_ v2 s3 H1 Q4
  obtain ⟨rfl, rfl, rfl⟩ := Q4
  show Go p e below _ (T1.setTop (mkF m 4 #[.val (.ref p0)] [(.int (4 : Int32))]))
  refine G.ldcS H1 trivial (wS V) (wd50 V) (by decide) (vs := [(.int (48 : Int32)), (.int (48 : Int32)), (.int (48 : Int32)), (.int (48 : Int32)), (.int (45 : Int32)), (.int (48 : Int32)), (.int (48 : Int32)), (.int (45 : Int32)), (.int (48 : Int32)), (.int (48 : Int32))]) (z := (10 : Int32)) (by decide) (by decide) rfl (n := 40) (by decide) (by decide) (by decide) (by decide) dc_prog_14_method_4_code_4 (pc' := 6) rfl ?_
  intro T5 h5_ a6 b8 k9 H5 E7 X10 F11 F12 A13 Q14
  have S15 : Str Z h5_ a6 b8 k9 [(48 : Int32), (48 : Int32), (48 : Int32), (48 : Int32), (45 : Int32), (48 : Int32), (48 : Int32), (45 : Int32), (48 : Int32), (48 : Int32)] := ⟨X10, F11, F12, A13, by decide, by decide⟩
  show Go p e below _ (T5.setTop (mkF m 6 #[.val (.ref p0)] [(.ref a6), (.int (4 : Int32))]))
  refine G.callV H5 (m6_length V a6 b8 k9 h5_ H5.old F12 A13 X10 F11) (wd40 V) (wd41 V) (nf_sel (wd43 V)) (wd43 V) (wd42 V) (wd5 V) (wd44 V) (by decide) X10 (argsL := []) (rest := [(.int (4 : Int32))]) (W := 1) rfl rfl (lenOf (pd_4) rfl) rfl rfl dc_prog_14_method_4_code_6 (pc' := 9) rfl (by decide) (by decide) (by decide) (by decide) all0 ?_
  intro T16 h16_ v17 s18 H16 Q19
  obtain ⟨rfl, rfl, rfl⟩ := Q19
  show Go p e below _ (T16.setTop (mkF m 9 #[.val (.ref p0)] [(.int (10 : Int32)), (.int (4 : Int32))]))
  refine G.icmpYes H16 dc_prog_14_method_4_code_9 (by decide) (by decide) (pc' := 16) rfl ?_
  refine G.iconst H16 dc_prog_14_method_4_code_16 (pc' := 17) rfl (v := (0 : Int32)) rfl ?_
  have K20 : Keep h0 h5_ [] := (Keep.ext (Keep.refl h0 []) E7)
  exact G.retN H16 (t := .boolean) rfl (by decide) dc_prog_14_method_4_code_17 (so := []) all0 (by decide) (by decide) ⟨rfl, rfl, K20⟩
set_option maxRecDepth 65536 in
set_option maxHeartbeats 40000000 in
theorem m20_prefix {l : Launch} {Z : State} {a0 : Array Value} {n0 : Nat} {z_COMPACT_STRINGS : Int32} {z_SIOOBE_FORMATTER : Value} (V : Env1 Z a0 n0 z_COMPACT_STRINGS z_SIOOBE_FORMATTER) (p0 : Addr) (c0 : ClassId) (x0 : Int32) (x1 : Int32) (x2 : Int32) (x3 : Int32) (x4 : Int32) (x5 : Int32) (x6 : Int32) (x7 : Int32) (x8 : Int32) (x9 : Int32) (x10 : Int32) (x11 : Int32) (x12 : Int32) (x13 : Int32) (x14 : Int32) (x15 : Int32) (x16 : Int32) (x17 : Int32) (x18 : Int32) (x19 : Int32) (h0 : Heap) (hO : Old Z n0 h0) (f0 : Arv Z h0 p0 c0 .char (20 : Int32) [(.int x0), (.int x1), (.int x2), (.int x3), (.int x4), (.int x5), (.int x6), (.int x7), (.int x8), (.int x9), (.int x10), (.int x11), (.int x12), (.int x13), (.int x14), (.int x15), (.int x16), (.int x17), (.int x18), (.int x19)] (.int 0)) (r1 : ¬ x4 < 0 ∧ ¬ (65535 : Int32) < x4) (r2 : ¬ x3 < 0 ∧ ¬ (65535 : Int32) < x3) (r3 : ¬ x2 < 0 ∧ ¬ (65535 : Int32) < x2) (r4 : ¬ x1 < 0 ∧ ¬ (65535 : Int32) < x1) (r5 : ¬ x0 < 0 ∧ ¬ (65535 : Int32) < x0) :
    Met Z a0 ELs True n0 l (⟨"com/example/tenure/tenure/DaysUntimedPinLaw", "prefix", "([CI)[C"⟩ : MethodName) method_3_code 3 (Option.some (FieldType.array FieldType.char)) ({ frames := 0, cells := 1, slots := 5, locals := 0 } : Room) #[(.ref p0), (.int (5 : Int32))] h0 [] (fun v h so => (∃ a2 : Addr, ∃ k5 : ClassId, v = some (.ref a2) ∧ so = [] ∧ Keep h0 h [] ∧ h0.size ≤ a2 ∧ Arv Z h a2 k5 .char (5 : Int32) [(.int x0), (.int x1), (.int x2), (.int x3), (.int x4)] (.int 0))) := by
  refine Met.of (EWl V) (by first | decide +kernel | rfl) hO (L0 := #[.val (.ref p0), .val (.int (5 : Int32)), .unset]) rfl ?_
  intro p e s m below meth c T H
  show Go p e below _ (T.setTop (mkF m 0 #[.val (.ref p0), .val (.int (5 : Int32)), .unset] []))
  refine G.iloadN H dc_method_3_code_0 (pc' := 1) rfl rfl ?_
  refine G.newP H (aty := .char) (wd0 V) dc_method_3_code_1 (pc' := 3) rfl (by decide) (cap := 5) (by decide) (by decide) (by decide) (by decide) (vs := [(.int (0 : Int32)), (.int (0 : Int32)), (.int (0 : Int32)), (.int (0 : Int32)), (.int (0 : Int32))]) rfl ?_
  intro T1 h1_ a2 k5 ga2 H1 E3 A4
  have na2 : n0 ≤ a2 := Nat.le_trans H.le (Nat.le_of_eq ga2.symm)
  replace A4 : Arv Z h1_ a2 k5 .char (5 : Int32) [(.int (0 : Int32)), (.int (0 : Int32)), (.int (0 : Int32)), (.int (0 : Int32)), (.int (0 : Int32))] (.int 0) := A4
  show Go p e below _ (T1.setTop (mkF m 3 #[.val (.ref p0), .val (.int (5 : Int32)), .unset] [(.ref a2)]))
  refine G.astoreN H1 (L' := #[.val (.ref p0), .val (.int (5 : Int32)), .val (.ref a2)]) dc_method_3_code_3 (pc' := 4) rfl rfl rfl ?_
  refine G.iloadN H1 dc_method_3_code_4 (pc' := 5) rfl rfl ?_
  refine G.tswIn H1 dc_method_3_code_5 (by decide) (o := 213) rfl (by decide) (pc' := 218) rfl ?_
  refine G.aloadN H1 dc_method_3_code_218 (pc' := 219) rfl rfl rfl ?_
  refine G.iconst H1 dc_method_3_code_219 (pc' := 220) rfl (v := (4 : Int32)) rfl ?_
  refine G.aloadN H1 dc_method_3_code_220 (pc' := 221) rfl rfl rfl ?_
  refine G.iconst H1 dc_method_3_code_221 (pc' := 222) rfl (v := (4 : Int32)) rfl ?_
  have F6 : Arv Z h1_ p0 c0 .char (20 : Int32) [(.int x0), (.int x1), (.int x2), (.int x3), (.int x4), (.int x5), (.int x6), (.int x7), (.int x8), (.int x9), (.int x10), (.int x11), (.int x12), (.int x13), (.int x14), (.int x15), (.int x16), (.int x17), (.int x18), (.int x19)] (.int 0) := (Arv.ext f0 E3)
  refine G.caloadG H1 F6 (j := (4 : Int32)) (v := (.int x4)) (by decide) rfl dc_method_3_code_222 (pc' := 223) rfl ?_
  refine G.stC H1 A4 (by decide) (i := 4) rfl (Nat.le_of_ble_eq_true rfl) na2 (y := x4) (own_narC r1) dc_method_3_code_223 (pc' := 224) rfl ?_
  intro T7 h7_ H7 W8 A9
  replace A9 : Arv Z h7_ a2 k5 .char (5 : Int32) [(.int (0 : Int32)), (.int (0 : Int32)), (.int (0 : Int32)), (.int (0 : Int32)), (.int x4)] (.int 0) := A9
  show Go p e below _ (T7.setTop (mkF m 224 #[.val (.ref p0), .val (.int (5 : Int32)), .val (.ref a2)] []))
  refine G.aloadN H7 dc_method_3_code_224 (pc' := 225) rfl rfl rfl ?_
  refine G.iconst H7 dc_method_3_code_225 (pc' := 226) rfl (v := (3 : Int32)) rfl ?_
  refine G.aloadN H7 dc_method_3_code_226 (pc' := 227) rfl rfl rfl ?_
  refine G.iconst H7 dc_method_3_code_227 (pc' := 228) rfl (v := (3 : Int32)) rfl ?_
  have N10 : p0 ≠ a2 := (Nat.ne_of_lt (Nat.lt_of_lt_of_le f0.lt (Nat.le_of_eq ga2.symm)))
  have F11 : Arv Z h7_ p0 c0 .char (20 : Int32) [(.int x0), (.int x1), (.int x2), (.int x3), (.int x4), (.int x5), (.int x6), (.int x7), (.int x8), (.int x9), (.int x10), (.int x11), (.int x12), (.int x13), (.int x14), (.int x15), (.int x16), (.int x17), (.int x18), (.int x19)] (.int 0) := (Arv.other F6 W8 N10)
  refine G.caloadG H7 F11 (j := (3 : Int32)) (v := (.int x3)) (by decide) rfl dc_method_3_code_228 (pc' := 229) rfl ?_
  refine G.stC H7 A9 (by decide) (i := 3) rfl (Nat.le_of_ble_eq_true rfl) na2 (y := x3) (own_narC r2) dc_method_3_code_229 (pc' := 230) rfl ?_
  intro T12 h12_ H12 W13 A14
  replace A14 : Arv Z h12_ a2 k5 .char (5 : Int32) [(.int (0 : Int32)), (.int (0 : Int32)), (.int (0 : Int32)), (.int x3), (.int x4)] (.int 0) := A14
  show Go p e below _ (T12.setTop (mkF m 230 #[.val (.ref p0), .val (.int (5 : Int32)), .val (.ref a2)] []))
  refine G.aloadN H12 dc_method_3_code_230 (pc' := 231) rfl rfl rfl ?_
  refine G.iconst H12 dc_method_3_code_231 (pc' := 232) rfl (v := (2 : Int32)) rfl ?_
  refine G.aloadN H12 dc_method_3_code_232 (pc' := 233) rfl rfl rfl ?_
  refine G.iconst H12 dc_method_3_code_233 (pc' := 234) rfl (v := (2 : Int32)) rfl ?_
  have F15 : Arv Z h12_ p0 c0 .char (20 : Int32) [(.int x0), (.int x1), (.int x2), (.int x3), (.int x4), (.int x5), (.int x6), (.int x7), (.int x8), (.int x9), (.int x10), (.int x11), (.int x12), (.int x13), (.int x14), (.int x15), (.int x16), (.int x17), (.int x18), (.int x19)] (.int 0) := (Arv.other F11 W13 N10)
  refine G.caloadG H12 F15 (j := (2 : Int32)) (v := (.int x2)) (by decide) rfl dc_method_3_code_234 (pc' := 235) rfl ?_
  refine G.stC H12 A14 (by decide) (i := 2) rfl (Nat.le_of_ble_eq_true rfl) na2 (y := x2) (own_narC r3) dc_method_3_code_235 (pc' := 236) rfl ?_
  intro T16 h16_ H16 W17 A18
  replace A18 : Arv Z h16_ a2 k5 .char (5 : Int32) [(.int (0 : Int32)), (.int (0 : Int32)), (.int x2), (.int x3), (.int x4)] (.int 0) := A18
  show Go p e below _ (T16.setTop (mkF m 236 #[.val (.ref p0), .val (.int (5 : Int32)), .val (.ref a2)] []))
  refine G.aloadN H16 dc_method_3_code_236 (pc' := 237) rfl rfl rfl ?_
  refine G.iconst H16 dc_method_3_code_237 (pc' := 238) rfl (v := (1 : Int32)) rfl ?_
  refine G.aloadN H16 dc_method_3_code_238 (pc' := 239) rfl rfl rfl ?_
  refine G.iconst H16 dc_method_3_code_239 (pc' := 240) rfl (v := (1 : Int32)) rfl ?_
  have F19 : Arv Z h16_ p0 c0 .char (20 : Int32) [(.int x0), (.int x1), (.int x2), (.int x3), (.int x4), (.int x5), (.int x6), (.int x7), (.int x8), (.int x9), (.int x10), (.int x11), (.int x12), (.int x13), (.int x14), (.int x15), (.int x16), (.int x17), (.int x18), (.int x19)] (.int 0) := (Arv.other F15 W17 N10)
  refine G.caloadG H16 F19 (j := (1 : Int32)) (v := (.int x1)) (by decide) rfl dc_method_3_code_240 (pc' := 241) rfl ?_
  refine G.stC H16 A18 (by decide) (i := 1) rfl (Nat.le_of_ble_eq_true rfl) na2 (y := x1) (own_narC r4) dc_method_3_code_241 (pc' := 242) rfl ?_
  intro T20 h20_ H20 W21 A22
  replace A22 : Arv Z h20_ a2 k5 .char (5 : Int32) [(.int (0 : Int32)), (.int x1), (.int x2), (.int x3), (.int x4)] (.int 0) := A22
  show Go p e below _ (T20.setTop (mkF m 242 #[.val (.ref p0), .val (.int (5 : Int32)), .val (.ref a2)] []))
  refine G.aloadN H20 dc_method_3_code_242 (pc' := 243) rfl rfl rfl ?_
  refine G.iconst H20 dc_method_3_code_243 (pc' := 244) rfl (v := (0 : Int32)) rfl ?_
  refine G.aloadN H20 dc_method_3_code_244 (pc' := 245) rfl rfl rfl ?_
  refine G.iconst H20 dc_method_3_code_245 (pc' := 246) rfl (v := (0 : Int32)) rfl ?_
  have F23 : Arv Z h20_ p0 c0 .char (20 : Int32) [(.int x0), (.int x1), (.int x2), (.int x3), (.int x4), (.int x5), (.int x6), (.int x7), (.int x8), (.int x9), (.int x10), (.int x11), (.int x12), (.int x13), (.int x14), (.int x15), (.int x16), (.int x17), (.int x18), (.int x19)] (.int 0) := (Arv.other F19 W21 N10)
  refine G.caloadG H20 F23 (j := (0 : Int32)) (v := (.int x0)) (by decide) rfl dc_method_3_code_246 (pc' := 247) rfl ?_
  refine G.stC H20 A22 (by decide) (i := 0) rfl (Nat.le_of_ble_eq_true rfl) na2 (y := x0) (own_narC r5) dc_method_3_code_247 (pc' := 248) rfl ?_
  intro T24 h24_ H24 W25 A26
  replace A26 : Arv Z h24_ a2 k5 .char (5 : Int32) [(.int x0), (.int x1), (.int x2), (.int x3), (.int x4)] (.int 0) := A26
  show Go p e below _ (T24.setTop (mkF m 248 #[.val (.ref p0), .val (.int (5 : Int32)), .val (.ref a2)] []))
  refine G.aloadN H24 dc_method_3_code_248 (pc' := 249) rfl rfl rfl ?_
  have K27 : Keep h0 h24_ [] := (Keep.wr (Keep.wr (Keep.wr (Keep.wr (Keep.wr (Keep.ext (Keep.refl h0 []) E3) W8 (Or.inr (Nat.le_of_eq ga2.symm))) W13 (Or.inr (Nat.le_of_eq ga2.symm))) W17 (Or.inr (Nat.le_of_eq ga2.symm))) W21 (Or.inr (Nat.le_of_eq ga2.symm))) W25 (Or.inr (Nat.le_of_eq ga2.symm)))
  exact G.retA H24 (t := (.array .char)) rfl rfl rfl dc_method_3_code_249 (so := []) all0 (by decide) (by decide) ⟨a2, k5, rfl, rfl, K27, (Nat.le_of_eq ga2.symm), A26⟩
set_option maxRecDepth 65536 in
set_option maxHeartbeats 40000000 in
theorem m21_length {l : Launch} {Z : State} {a0 : Array Value} {n0 : Nat} {z_COMPACT_STRINGS : Int32} {z_SIOOBE_FORMATTER : Value} (V : Env1 Z a0 n0 z_COMPACT_STRINGS z_SIOOBE_FORMATTER) (p0 : Addr) (p1 : Addr) (c0 : ClassId) (x0 : Int32) (x1 : Int32) (x2 : Int32) (x3 : Int32) (x4 : Int32) (h0 : Heap) (hO : Old Z n0 h0) (f0 : Fld Z h0 p0 "java/lang/String" "value" "[B" (.ref p1)) (f1 : Arv Z h0 p1 c0 .byte (5 : Int32) [(.int x0), (.int x1), (.int x2), (.int x3), (.int x4)] (.int 0)) (f2 : Exa Z h0 p0 "java/lang/String") (f3 : Fld Z h0 p0 "java/lang/String" "coder" "B" (.int (0 : Int32))) :
    Met Z a0 ELs True n0 l (⟨"java/lang/String", "length", "()I"⟩ : MethodName) jdk_42_method_54_code 1 (Option.some FieldType.int) ({ frames := 1, cells := 0, slots := 0, locals := 13 } : Room) #[(.ref p0)] h0 [] (fun v h so => (v = some (.int (5 : Int32)) ∧ so = [] ∧ h0 = h)) := by
  refine Met.of (EWl V) (by first | decide +kernel | rfl) hO (L0 := #[.val (.ref p0)]) rfl ?_
  intro p e s m below meth c T H
  show Go p e below _ (T.setTop (mkF m 0 #[.val (.ref p0)] []))
  refine G.aloadN H dc_jdk_42_method_54_code_0 (pc' := 1) rfl rfl rfl ?_
  refine G.getF H (wd34 V) Via.refl f0 dc_jdk_42_method_54_code_1 (pc' := 4) rfl ?_
  intro T1 H2
  refine G.arrlen H2 f1 dc_jdk_42_method_54_code_4 (pc' := 5) rfl ?_
  refine G.aloadN H2 dc_jdk_42_method_54_code_5 (pc' := 6) rfl rfl rfl ?_
  refine G.callV H2 (m4_coder V p0 h0 H2.old f3) (wd45 V) (wd46 V) (nf_sel (wd48 V)) (wd48 V) (wd47 V) (wd5 V) (wd49 V) (by decide) f2 (argsL := []) (rest := [(.int (5 : Int32))]) (W := 1) rfl rfl (lenOf (pd_3) rfl) rfl rfl dc_jdk_42_method_54_code_6 (pc' := 9) rfl (by decide) (by decide) (by decide) (by decide) all0 ?_
  intro T3 h3_ v4 s5 H3 Q6
  obtain ⟨rfl, rfl, rfl⟩ := Q6
  show Go p e below _ (T3.setTop (mkF m 9 #[.val (.ref p0)] [(.int (0 : Int32)), (.int (5 : Int32))]))
  refine G.ishr H3 dc_jdk_42_method_54_code_9 (pc' := 10) rfl ?_
  show Go p e below _ (T3.setTop (mkF m 10 #[.val (.ref p0)] [(.int (5 : Int32))]))
  exact G.retI H3 rfl dc_jdk_42_method_54_code_10 (so := []) all0 (by decide) (by decide) ⟨rfl, rfl, rfl⟩
set_option maxRecDepth 65536 in
set_option maxHeartbeats 40000000 in
theorem m22_untimed {l : Launch} {Z : State} {a0 : Array Value} {n0 : Nat} {z_COMPACT_STRINGS : Int32} {z_SIOOBE_FORMATTER : Value} (V : Env1 Z a0 n0 z_COMPACT_STRINGS z_SIOOBE_FORMATTER) (p0 : Addr) (p1 : Addr) (c0 : ClassId) (x0 : Int32) (x1 : Int32) (x2 : Int32) (x3 : Int32) (x4 : Int32) (h0 : Heap) (hO : Old Z n0 h0) (f0 : Exa Z h0 p0 "java/lang/String") (f1 : Fld Z h0 p0 "java/lang/String" "value" "[B" (.ref p1)) (f2 : Arv Z h0 p1 c0 .byte (5 : Int32) [(.int x0), (.int x1), (.int x2), (.int x3), (.int x4)] (.int 0)) (f3 : Fld Z h0 p0 "java/lang/String" "coder" "B" (.int (0 : Int32))) :
    Met Z a0 ELs True n0 l (⟨"com/example/tenure/tenure/Days", "untimed", "(Ljava/lang/String;)Z"⟩ : MethodName) prog_14_method_4_code 1 (Option.some FieldType.boolean) ({ frames := 2, cells := 2, slots := 44, locals := 26 } : Room) #[(.ref p0)] h0 [p0, p1] (fun v h so => (v = some (.int (0 : Int32)) ∧ so = [] ∧ Keep h0 h [])) := by
  refine Met.of (EWl V) (by first | decide +kernel | rfl) hO (L0 := #[.val (.ref p0)]) rfl ?_
  intro p e s m below meth c T H
  show Go p e below _ (T.setTop (mkF m 0 #[.val (.ref p0)] []))
  refine G.aloadN H dc_prog_14_method_4_code_0 (pc' := 1) rfl rfl rfl ?_
  refine G.callV H (m21_length V p0 p1 c0 x0 x1 x2 x3 x4 h0 H.old f1 f2 f0 f3) (wd40 V) (wd41 V) (nf_sel (wd43 V)) (wd43 V) (wd42 V) (wd5 V) (wd44 V) (by decide) f0 (argsL := []) (rest := []) (W := 0) rfl rfl (lenOf (pd_4) rfl) rfl rfl dc_prog_14_method_4_code_1 (pc' := 4) rfl (by decide) (by decide) (by decide) (by decide) all0 ?_
  intro T1 h1_ v2 s3 H1 Q4
  obtain ⟨rfl, rfl, rfl⟩ := Q4
  show Go p e below _ (T1.setTop (mkF m 4 #[.val (.ref p0)] [(.int (5 : Int32))]))
  refine G.ldcS H1 trivial (wS V) (wd50 V) (by decide) (vs := [(.int (48 : Int32)), (.int (48 : Int32)), (.int (48 : Int32)), (.int (48 : Int32)), (.int (45 : Int32)), (.int (48 : Int32)), (.int (48 : Int32)), (.int (45 : Int32)), (.int (48 : Int32)), (.int (48 : Int32))]) (z := (10 : Int32)) (by decide) (by decide) rfl (n := 40) (by decide) (by decide) (by decide) (by decide) dc_prog_14_method_4_code_4 (pc' := 6) rfl ?_
  intro T5 h5_ a6 b8 k9 H5 E7 X10 F11 F12 A13 Q14
  have S15 : Str Z h5_ a6 b8 k9 [(48 : Int32), (48 : Int32), (48 : Int32), (48 : Int32), (45 : Int32), (48 : Int32), (48 : Int32), (45 : Int32), (48 : Int32), (48 : Int32)] := ⟨X10, F11, F12, A13, by decide, by decide⟩
  show Go p e below _ (T5.setTop (mkF m 6 #[.val (.ref p0)] [(.ref a6), (.int (5 : Int32))]))
  refine G.callV H5 (m6_length V a6 b8 k9 h5_ H5.old F12 A13 X10 F11) (wd40 V) (wd41 V) (nf_sel (wd43 V)) (wd43 V) (wd42 V) (wd5 V) (wd44 V) (by decide) X10 (argsL := []) (rest := [(.int (5 : Int32))]) (W := 1) rfl rfl (lenOf (pd_4) rfl) rfl rfl dc_prog_14_method_4_code_6 (pc' := 9) rfl (by decide) (by decide) (by decide) (by decide) all0 ?_
  intro T16 h16_ v17 s18 H16 Q19
  obtain ⟨rfl, rfl, rfl⟩ := Q19
  show Go p e below _ (T16.setTop (mkF m 9 #[.val (.ref p0)] [(.int (10 : Int32)), (.int (5 : Int32))]))
  refine G.icmpYes H16 dc_prog_14_method_4_code_9 (by decide) (by decide) (pc' := 16) rfl ?_
  refine G.iconst H16 dc_prog_14_method_4_code_16 (pc' := 17) rfl (v := (0 : Int32)) rfl ?_
  have K20 : Keep h0 h5_ [] := (Keep.ext (Keep.refl h0 []) E7)
  exact G.retN H16 (t := .boolean) rfl (by decide) dc_prog_14_method_4_code_17 (so := []) all0 (by decide) (by decide) ⟨rfl, rfl, K20⟩
set_option maxRecDepth 65536 in
set_option maxHeartbeats 40000000 in
theorem m23_prefix {l : Launch} {Z : State} {a0 : Array Value} {n0 : Nat} {z_COMPACT_STRINGS : Int32} {z_SIOOBE_FORMATTER : Value} (V : Env1 Z a0 n0 z_COMPACT_STRINGS z_SIOOBE_FORMATTER) (p0 : Addr) (c0 : ClassId) (x0 : Int32) (x1 : Int32) (x2 : Int32) (x3 : Int32) (x4 : Int32) (x5 : Int32) (x6 : Int32) (x7 : Int32) (x8 : Int32) (x9 : Int32) (x10 : Int32) (x11 : Int32) (x12 : Int32) (x13 : Int32) (x14 : Int32) (x15 : Int32) (x16 : Int32) (x17 : Int32) (x18 : Int32) (x19 : Int32) (h0 : Heap) (hO : Old Z n0 h0) (f0 : Arv Z h0 p0 c0 .char (20 : Int32) [(.int x0), (.int x1), (.int x2), (.int x3), (.int x4), (.int x5), (.int x6), (.int x7), (.int x8), (.int x9), (.int x10), (.int x11), (.int x12), (.int x13), (.int x14), (.int x15), (.int x16), (.int x17), (.int x18), (.int x19)] (.int 0)) (r1 : ¬ x5 < 0 ∧ ¬ (65535 : Int32) < x5) (r2 : ¬ x4 < 0 ∧ ¬ (65535 : Int32) < x4) (r3 : ¬ x3 < 0 ∧ ¬ (65535 : Int32) < x3) (r4 : ¬ x2 < 0 ∧ ¬ (65535 : Int32) < x2) (r5 : ¬ x1 < 0 ∧ ¬ (65535 : Int32) < x1) (r6 : ¬ x0 < 0 ∧ ¬ (65535 : Int32) < x0) :
    Met Z a0 ELs True n0 l (⟨"com/example/tenure/tenure/DaysUntimedPinLaw", "prefix", "([CI)[C"⟩ : MethodName) method_3_code 3 (Option.some (FieldType.array FieldType.char)) ({ frames := 0, cells := 1, slots := 6, locals := 0 } : Room) #[(.ref p0), (.int (6 : Int32))] h0 [] (fun v h so => (∃ a2 : Addr, ∃ k5 : ClassId, v = some (.ref a2) ∧ so = [] ∧ Keep h0 h [] ∧ h0.size ≤ a2 ∧ Arv Z h a2 k5 .char (6 : Int32) [(.int x0), (.int x1), (.int x2), (.int x3), (.int x4), (.int x5)] (.int 0))) := by
  refine Met.of (EWl V) (by first | decide +kernel | rfl) hO (L0 := #[.val (.ref p0), .val (.int (6 : Int32)), .unset]) rfl ?_
  intro p e s m below meth c T H
  show Go p e below _ (T.setTop (mkF m 0 #[.val (.ref p0), .val (.int (6 : Int32)), .unset] []))
  refine G.iloadN H dc_method_3_code_0 (pc' := 1) rfl rfl ?_
  refine G.newP H (aty := .char) (wd0 V) dc_method_3_code_1 (pc' := 3) rfl (by decide) (cap := 6) (by decide) (by decide) (by decide) (by decide) (vs := [(.int (0 : Int32)), (.int (0 : Int32)), (.int (0 : Int32)), (.int (0 : Int32)), (.int (0 : Int32)), (.int (0 : Int32))]) rfl ?_
  intro T1 h1_ a2 k5 ga2 H1 E3 A4
  have na2 : n0 ≤ a2 := Nat.le_trans H.le (Nat.le_of_eq ga2.symm)
  replace A4 : Arv Z h1_ a2 k5 .char (6 : Int32) [(.int (0 : Int32)), (.int (0 : Int32)), (.int (0 : Int32)), (.int (0 : Int32)), (.int (0 : Int32)), (.int (0 : Int32))] (.int 0) := A4
  show Go p e below _ (T1.setTop (mkF m 3 #[.val (.ref p0), .val (.int (6 : Int32)), .unset] [(.ref a2)]))
  refine G.astoreN H1 (L' := #[.val (.ref p0), .val (.int (6 : Int32)), .val (.ref a2)]) dc_method_3_code_3 (pc' := 4) rfl rfl rfl ?_
  refine G.iloadN H1 dc_method_3_code_4 (pc' := 5) rfl rfl ?_
  refine G.tswIn H1 dc_method_3_code_5 (by decide) (o := 207) rfl (by decide) (pc' := 212) rfl ?_
  refine G.aloadN H1 dc_method_3_code_212 (pc' := 213) rfl rfl rfl ?_
  refine G.iconst H1 dc_method_3_code_213 (pc' := 214) rfl (v := (5 : Int32)) rfl ?_
  refine G.aloadN H1 dc_method_3_code_214 (pc' := 215) rfl rfl rfl ?_
  refine G.iconst H1 dc_method_3_code_215 (pc' := 216) rfl (v := (5 : Int32)) rfl ?_
  have F6 : Arv Z h1_ p0 c0 .char (20 : Int32) [(.int x0), (.int x1), (.int x2), (.int x3), (.int x4), (.int x5), (.int x6), (.int x7), (.int x8), (.int x9), (.int x10), (.int x11), (.int x12), (.int x13), (.int x14), (.int x15), (.int x16), (.int x17), (.int x18), (.int x19)] (.int 0) := (Arv.ext f0 E3)
  refine G.caloadG H1 F6 (j := (5 : Int32)) (v := (.int x5)) (by decide) rfl dc_method_3_code_216 (pc' := 217) rfl ?_
  refine G.stC H1 A4 (by decide) (i := 5) rfl (Nat.le_of_ble_eq_true rfl) na2 (y := x5) (own_narC r1) dc_method_3_code_217 (pc' := 218) rfl ?_
  intro T7 h7_ H7 W8 A9
  replace A9 : Arv Z h7_ a2 k5 .char (6 : Int32) [(.int (0 : Int32)), (.int (0 : Int32)), (.int (0 : Int32)), (.int (0 : Int32)), (.int (0 : Int32)), (.int x5)] (.int 0) := A9
  show Go p e below _ (T7.setTop (mkF m 218 #[.val (.ref p0), .val (.int (6 : Int32)), .val (.ref a2)] []))
  refine G.aloadN H7 dc_method_3_code_218 (pc' := 219) rfl rfl rfl ?_
  refine G.iconst H7 dc_method_3_code_219 (pc' := 220) rfl (v := (4 : Int32)) rfl ?_
  refine G.aloadN H7 dc_method_3_code_220 (pc' := 221) rfl rfl rfl ?_
  refine G.iconst H7 dc_method_3_code_221 (pc' := 222) rfl (v := (4 : Int32)) rfl ?_
  have N10 : p0 ≠ a2 := (Nat.ne_of_lt (Nat.lt_of_lt_of_le f0.lt (Nat.le_of_eq ga2.symm)))
  have F11 : Arv Z h7_ p0 c0 .char (20 : Int32) [(.int x0), (.int x1), (.int x2), (.int x3), (.int x4), (.int x5), (.int x6), (.int x7), (.int x8), (.int x9), (.int x10), (.int x11), (.int x12), (.int x13), (.int x14), (.int x15), (.int x16), (.int x17), (.int x18), (.int x19)] (.int 0) := (Arv.other F6 W8 N10)
  refine G.caloadG H7 F11 (j := (4 : Int32)) (v := (.int x4)) (by decide) rfl dc_method_3_code_222 (pc' := 223) rfl ?_
  refine G.stC H7 A9 (by decide) (i := 4) rfl (Nat.le_of_ble_eq_true rfl) na2 (y := x4) (own_narC r2) dc_method_3_code_223 (pc' := 224) rfl ?_
  intro T12 h12_ H12 W13 A14
  replace A14 : Arv Z h12_ a2 k5 .char (6 : Int32) [(.int (0 : Int32)), (.int (0 : Int32)), (.int (0 : Int32)), (.int (0 : Int32)), (.int x4), (.int x5)] (.int 0) := A14
  show Go p e below _ (T12.setTop (mkF m 224 #[.val (.ref p0), .val (.int (6 : Int32)), .val (.ref a2)] []))
  refine G.aloadN H12 dc_method_3_code_224 (pc' := 225) rfl rfl rfl ?_
  refine G.iconst H12 dc_method_3_code_225 (pc' := 226) rfl (v := (3 : Int32)) rfl ?_
  refine G.aloadN H12 dc_method_3_code_226 (pc' := 227) rfl rfl rfl ?_
  refine G.iconst H12 dc_method_3_code_227 (pc' := 228) rfl (v := (3 : Int32)) rfl ?_
  have F15 : Arv Z h12_ p0 c0 .char (20 : Int32) [(.int x0), (.int x1), (.int x2), (.int x3), (.int x4), (.int x5), (.int x6), (.int x7), (.int x8), (.int x9), (.int x10), (.int x11), (.int x12), (.int x13), (.int x14), (.int x15), (.int x16), (.int x17), (.int x18), (.int x19)] (.int 0) := (Arv.other F11 W13 N10)
  refine G.caloadG H12 F15 (j := (3 : Int32)) (v := (.int x3)) (by decide) rfl dc_method_3_code_228 (pc' := 229) rfl ?_
  refine G.stC H12 A14 (by decide) (i := 3) rfl (Nat.le_of_ble_eq_true rfl) na2 (y := x3) (own_narC r3) dc_method_3_code_229 (pc' := 230) rfl ?_
  intro T16 h16_ H16 W17 A18
  replace A18 : Arv Z h16_ a2 k5 .char (6 : Int32) [(.int (0 : Int32)), (.int (0 : Int32)), (.int (0 : Int32)), (.int x3), (.int x4), (.int x5)] (.int 0) := A18
  show Go p e below _ (T16.setTop (mkF m 230 #[.val (.ref p0), .val (.int (6 : Int32)), .val (.ref a2)] []))
  refine G.aloadN H16 dc_method_3_code_230 (pc' := 231) rfl rfl rfl ?_
  refine G.iconst H16 dc_method_3_code_231 (pc' := 232) rfl (v := (2 : Int32)) rfl ?_
  refine G.aloadN H16 dc_method_3_code_232 (pc' := 233) rfl rfl rfl ?_
  refine G.iconst H16 dc_method_3_code_233 (pc' := 234) rfl (v := (2 : Int32)) rfl ?_
  have F19 : Arv Z h16_ p0 c0 .char (20 : Int32) [(.int x0), (.int x1), (.int x2), (.int x3), (.int x4), (.int x5), (.int x6), (.int x7), (.int x8), (.int x9), (.int x10), (.int x11), (.int x12), (.int x13), (.int x14), (.int x15), (.int x16), (.int x17), (.int x18), (.int x19)] (.int 0) := (Arv.other F15 W17 N10)
  refine G.caloadG H16 F19 (j := (2 : Int32)) (v := (.int x2)) (by decide) rfl dc_method_3_code_234 (pc' := 235) rfl ?_
  refine G.stC H16 A18 (by decide) (i := 2) rfl (Nat.le_of_ble_eq_true rfl) na2 (y := x2) (own_narC r4) dc_method_3_code_235 (pc' := 236) rfl ?_
  intro T20 h20_ H20 W21 A22
  replace A22 : Arv Z h20_ a2 k5 .char (6 : Int32) [(.int (0 : Int32)), (.int (0 : Int32)), (.int x2), (.int x3), (.int x4), (.int x5)] (.int 0) := A22
  show Go p e below _ (T20.setTop (mkF m 236 #[.val (.ref p0), .val (.int (6 : Int32)), .val (.ref a2)] []))
  refine G.aloadN H20 dc_method_3_code_236 (pc' := 237) rfl rfl rfl ?_
  refine G.iconst H20 dc_method_3_code_237 (pc' := 238) rfl (v := (1 : Int32)) rfl ?_
  refine G.aloadN H20 dc_method_3_code_238 (pc' := 239) rfl rfl rfl ?_
  refine G.iconst H20 dc_method_3_code_239 (pc' := 240) rfl (v := (1 : Int32)) rfl ?_
  have F23 : Arv Z h20_ p0 c0 .char (20 : Int32) [(.int x0), (.int x1), (.int x2), (.int x3), (.int x4), (.int x5), (.int x6), (.int x7), (.int x8), (.int x9), (.int x10), (.int x11), (.int x12), (.int x13), (.int x14), (.int x15), (.int x16), (.int x17), (.int x18), (.int x19)] (.int 0) := (Arv.other F19 W21 N10)
  refine G.caloadG H20 F23 (j := (1 : Int32)) (v := (.int x1)) (by decide) rfl dc_method_3_code_240 (pc' := 241) rfl ?_
  refine G.stC H20 A22 (by decide) (i := 1) rfl (Nat.le_of_ble_eq_true rfl) na2 (y := x1) (own_narC r5) dc_method_3_code_241 (pc' := 242) rfl ?_
  intro T24 h24_ H24 W25 A26
  replace A26 : Arv Z h24_ a2 k5 .char (6 : Int32) [(.int (0 : Int32)), (.int x1), (.int x2), (.int x3), (.int x4), (.int x5)] (.int 0) := A26
  show Go p e below _ (T24.setTop (mkF m 242 #[.val (.ref p0), .val (.int (6 : Int32)), .val (.ref a2)] []))
  refine G.aloadN H24 dc_method_3_code_242 (pc' := 243) rfl rfl rfl ?_
  refine G.iconst H24 dc_method_3_code_243 (pc' := 244) rfl (v := (0 : Int32)) rfl ?_
  refine G.aloadN H24 dc_method_3_code_244 (pc' := 245) rfl rfl rfl ?_
  refine G.iconst H24 dc_method_3_code_245 (pc' := 246) rfl (v := (0 : Int32)) rfl ?_
  have F27 : Arv Z h24_ p0 c0 .char (20 : Int32) [(.int x0), (.int x1), (.int x2), (.int x3), (.int x4), (.int x5), (.int x6), (.int x7), (.int x8), (.int x9), (.int x10), (.int x11), (.int x12), (.int x13), (.int x14), (.int x15), (.int x16), (.int x17), (.int x18), (.int x19)] (.int 0) := (Arv.other F23 W25 N10)
  refine G.caloadG H24 F27 (j := (0 : Int32)) (v := (.int x0)) (by decide) rfl dc_method_3_code_246 (pc' := 247) rfl ?_
  refine G.stC H24 A26 (by decide) (i := 0) rfl (Nat.le_of_ble_eq_true rfl) na2 (y := x0) (own_narC r6) dc_method_3_code_247 (pc' := 248) rfl ?_
  intro T28 h28_ H28 W29 A30
  replace A30 : Arv Z h28_ a2 k5 .char (6 : Int32) [(.int x0), (.int x1), (.int x2), (.int x3), (.int x4), (.int x5)] (.int 0) := A30
  show Go p e below _ (T28.setTop (mkF m 248 #[.val (.ref p0), .val (.int (6 : Int32)), .val (.ref a2)] []))
  refine G.aloadN H28 dc_method_3_code_248 (pc' := 249) rfl rfl rfl ?_
  have K31 : Keep h0 h28_ [] := (Keep.wr (Keep.wr (Keep.wr (Keep.wr (Keep.wr (Keep.wr (Keep.ext (Keep.refl h0 []) E3) W8 (Or.inr (Nat.le_of_eq ga2.symm))) W13 (Or.inr (Nat.le_of_eq ga2.symm))) W17 (Or.inr (Nat.le_of_eq ga2.symm))) W21 (Or.inr (Nat.le_of_eq ga2.symm))) W25 (Or.inr (Nat.le_of_eq ga2.symm))) W29 (Or.inr (Nat.le_of_eq ga2.symm)))
  exact G.retA H28 (t := (.array .char)) rfl rfl rfl dc_method_3_code_249 (so := []) all0 (by decide) (by decide) ⟨a2, k5, rfl, rfl, K31, (Nat.le_of_eq ga2.symm), A30⟩
set_option maxRecDepth 65536 in
set_option maxHeartbeats 40000000 in
theorem m24_length {l : Launch} {Z : State} {a0 : Array Value} {n0 : Nat} {z_COMPACT_STRINGS : Int32} {z_SIOOBE_FORMATTER : Value} (V : Env1 Z a0 n0 z_COMPACT_STRINGS z_SIOOBE_FORMATTER) (p0 : Addr) (p1 : Addr) (c0 : ClassId) (x0 : Int32) (x1 : Int32) (x2 : Int32) (x3 : Int32) (x4 : Int32) (x5 : Int32) (h0 : Heap) (hO : Old Z n0 h0) (f0 : Fld Z h0 p0 "java/lang/String" "value" "[B" (.ref p1)) (f1 : Arv Z h0 p1 c0 .byte (6 : Int32) [(.int x0), (.int x1), (.int x2), (.int x3), (.int x4), (.int x5)] (.int 0)) (f2 : Exa Z h0 p0 "java/lang/String") (f3 : Fld Z h0 p0 "java/lang/String" "coder" "B" (.int (0 : Int32))) :
    Met Z a0 ELs True n0 l (⟨"java/lang/String", "length", "()I"⟩ : MethodName) jdk_42_method_54_code 1 (Option.some FieldType.int) ({ frames := 1, cells := 0, slots := 0, locals := 13 } : Room) #[(.ref p0)] h0 [] (fun v h so => (v = some (.int (6 : Int32)) ∧ so = [] ∧ h0 = h)) := by
  refine Met.of (EWl V) (by first | decide +kernel | rfl) hO (L0 := #[.val (.ref p0)]) rfl ?_
  intro p e s m below meth c T H
  show Go p e below _ (T.setTop (mkF m 0 #[.val (.ref p0)] []))
  refine G.aloadN H dc_jdk_42_method_54_code_0 (pc' := 1) rfl rfl rfl ?_
  refine G.getF H (wd34 V) Via.refl f0 dc_jdk_42_method_54_code_1 (pc' := 4) rfl ?_
  intro T1 H2
  refine G.arrlen H2 f1 dc_jdk_42_method_54_code_4 (pc' := 5) rfl ?_
  refine G.aloadN H2 dc_jdk_42_method_54_code_5 (pc' := 6) rfl rfl rfl ?_
  refine G.callV H2 (m4_coder V p0 h0 H2.old f3) (wd45 V) (wd46 V) (nf_sel (wd48 V)) (wd48 V) (wd47 V) (wd5 V) (wd49 V) (by decide) f2 (argsL := []) (rest := [(.int (6 : Int32))]) (W := 1) rfl rfl (lenOf (pd_3) rfl) rfl rfl dc_jdk_42_method_54_code_6 (pc' := 9) rfl (by decide) (by decide) (by decide) (by decide) all0 ?_
  intro T3 h3_ v4 s5 H3 Q6
  obtain ⟨rfl, rfl, rfl⟩ := Q6
  show Go p e below _ (T3.setTop (mkF m 9 #[.val (.ref p0)] [(.int (0 : Int32)), (.int (6 : Int32))]))
  refine G.ishr H3 dc_jdk_42_method_54_code_9 (pc' := 10) rfl ?_
  show Go p e below _ (T3.setTop (mkF m 10 #[.val (.ref p0)] [(.int (6 : Int32))]))
  exact G.retI H3 rfl dc_jdk_42_method_54_code_10 (so := []) all0 (by decide) (by decide) ⟨rfl, rfl, rfl⟩
set_option maxRecDepth 65536 in
set_option maxHeartbeats 40000000 in
theorem m25_untimed {l : Launch} {Z : State} {a0 : Array Value} {n0 : Nat} {z_COMPACT_STRINGS : Int32} {z_SIOOBE_FORMATTER : Value} (V : Env1 Z a0 n0 z_COMPACT_STRINGS z_SIOOBE_FORMATTER) (p0 : Addr) (p1 : Addr) (c0 : ClassId) (x0 : Int32) (x1 : Int32) (x2 : Int32) (x3 : Int32) (x4 : Int32) (x5 : Int32) (h0 : Heap) (hO : Old Z n0 h0) (f0 : Exa Z h0 p0 "java/lang/String") (f1 : Fld Z h0 p0 "java/lang/String" "value" "[B" (.ref p1)) (f2 : Arv Z h0 p1 c0 .byte (6 : Int32) [(.int x0), (.int x1), (.int x2), (.int x3), (.int x4), (.int x5)] (.int 0)) (f3 : Fld Z h0 p0 "java/lang/String" "coder" "B" (.int (0 : Int32))) :
    Met Z a0 ELs True n0 l (⟨"com/example/tenure/tenure/Days", "untimed", "(Ljava/lang/String;)Z"⟩ : MethodName) prog_14_method_4_code 1 (Option.some FieldType.boolean) ({ frames := 2, cells := 2, slots := 44, locals := 26 } : Room) #[(.ref p0)] h0 [p0, p1] (fun v h so => (v = some (.int (0 : Int32)) ∧ so = [] ∧ Keep h0 h [])) := by
  refine Met.of (EWl V) (by first | decide +kernel | rfl) hO (L0 := #[.val (.ref p0)]) rfl ?_
  intro p e s m below meth c T H
  show Go p e below _ (T.setTop (mkF m 0 #[.val (.ref p0)] []))
  refine G.aloadN H dc_prog_14_method_4_code_0 (pc' := 1) rfl rfl rfl ?_
  refine G.callV H (m24_length V p0 p1 c0 x0 x1 x2 x3 x4 x5 h0 H.old f1 f2 f0 f3) (wd40 V) (wd41 V) (nf_sel (wd43 V)) (wd43 V) (wd42 V) (wd5 V) (wd44 V) (by decide) f0 (argsL := []) (rest := []) (W := 0) rfl rfl (lenOf (pd_4) rfl) rfl rfl dc_prog_14_method_4_code_1 (pc' := 4) rfl (by decide) (by decide) (by decide) (by decide) all0 ?_
  intro T1 h1_ v2 s3 H1 Q4
  obtain ⟨rfl, rfl, rfl⟩ := Q4
  show Go p e below _ (T1.setTop (mkF m 4 #[.val (.ref p0)] [(.int (6 : Int32))]))
  refine G.ldcS H1 trivial (wS V) (wd50 V) (by decide) (vs := [(.int (48 : Int32)), (.int (48 : Int32)), (.int (48 : Int32)), (.int (48 : Int32)), (.int (45 : Int32)), (.int (48 : Int32)), (.int (48 : Int32)), (.int (45 : Int32)), (.int (48 : Int32)), (.int (48 : Int32))]) (z := (10 : Int32)) (by decide) (by decide) rfl (n := 40) (by decide) (by decide) (by decide) (by decide) dc_prog_14_method_4_code_4 (pc' := 6) rfl ?_
  intro T5 h5_ a6 b8 k9 H5 E7 X10 F11 F12 A13 Q14
  have S15 : Str Z h5_ a6 b8 k9 [(48 : Int32), (48 : Int32), (48 : Int32), (48 : Int32), (45 : Int32), (48 : Int32), (48 : Int32), (45 : Int32), (48 : Int32), (48 : Int32)] := ⟨X10, F11, F12, A13, by decide, by decide⟩
  show Go p e below _ (T5.setTop (mkF m 6 #[.val (.ref p0)] [(.ref a6), (.int (6 : Int32))]))
  refine G.callV H5 (m6_length V a6 b8 k9 h5_ H5.old F12 A13 X10 F11) (wd40 V) (wd41 V) (nf_sel (wd43 V)) (wd43 V) (wd42 V) (wd5 V) (wd44 V) (by decide) X10 (argsL := []) (rest := [(.int (6 : Int32))]) (W := 1) rfl rfl (lenOf (pd_4) rfl) rfl rfl dc_prog_14_method_4_code_6 (pc' := 9) rfl (by decide) (by decide) (by decide) (by decide) all0 ?_
  intro T16 h16_ v17 s18 H16 Q19
  obtain ⟨rfl, rfl, rfl⟩ := Q19
  show Go p e below _ (T16.setTop (mkF m 9 #[.val (.ref p0)] [(.int (10 : Int32)), (.int (6 : Int32))]))
  refine G.icmpYes H16 dc_prog_14_method_4_code_9 (by decide) (by decide) (pc' := 16) rfl ?_
  refine G.iconst H16 dc_prog_14_method_4_code_16 (pc' := 17) rfl (v := (0 : Int32)) rfl ?_
  have K20 : Keep h0 h5_ [] := (Keep.ext (Keep.refl h0 []) E7)
  exact G.retN H16 (t := .boolean) rfl (by decide) dc_prog_14_method_4_code_17 (so := []) all0 (by decide) (by decide) ⟨rfl, rfl, K20⟩
set_option maxRecDepth 65536 in
set_option maxHeartbeats 40000000 in
theorem m26_prefix {l : Launch} {Z : State} {a0 : Array Value} {n0 : Nat} {z_COMPACT_STRINGS : Int32} {z_SIOOBE_FORMATTER : Value} (V : Env1 Z a0 n0 z_COMPACT_STRINGS z_SIOOBE_FORMATTER) (p0 : Addr) (c0 : ClassId) (x0 : Int32) (x1 : Int32) (x2 : Int32) (x3 : Int32) (x4 : Int32) (x5 : Int32) (x6 : Int32) (x7 : Int32) (x8 : Int32) (x9 : Int32) (x10 : Int32) (x11 : Int32) (x12 : Int32) (x13 : Int32) (x14 : Int32) (x15 : Int32) (x16 : Int32) (x17 : Int32) (x18 : Int32) (x19 : Int32) (h0 : Heap) (hO : Old Z n0 h0) (f0 : Arv Z h0 p0 c0 .char (20 : Int32) [(.int x0), (.int x1), (.int x2), (.int x3), (.int x4), (.int x5), (.int x6), (.int x7), (.int x8), (.int x9), (.int x10), (.int x11), (.int x12), (.int x13), (.int x14), (.int x15), (.int x16), (.int x17), (.int x18), (.int x19)] (.int 0)) (r1 : ¬ x6 < 0 ∧ ¬ (65535 : Int32) < x6) (r2 : ¬ x5 < 0 ∧ ¬ (65535 : Int32) < x5) (r3 : ¬ x4 < 0 ∧ ¬ (65535 : Int32) < x4) (r4 : ¬ x3 < 0 ∧ ¬ (65535 : Int32) < x3) (r5 : ¬ x2 < 0 ∧ ¬ (65535 : Int32) < x2) (r6 : ¬ x1 < 0 ∧ ¬ (65535 : Int32) < x1) (r7 : ¬ x0 < 0 ∧ ¬ (65535 : Int32) < x0) :
    Met Z a0 ELs True n0 l (⟨"com/example/tenure/tenure/DaysUntimedPinLaw", "prefix", "([CI)[C"⟩ : MethodName) method_3_code 3 (Option.some (FieldType.array FieldType.char)) ({ frames := 0, cells := 1, slots := 7, locals := 0 } : Room) #[(.ref p0), (.int (7 : Int32))] h0 [] (fun v h so => (∃ a2 : Addr, ∃ k5 : ClassId, v = some (.ref a2) ∧ so = [] ∧ Keep h0 h [] ∧ h0.size ≤ a2 ∧ Arv Z h a2 k5 .char (7 : Int32) [(.int x0), (.int x1), (.int x2), (.int x3), (.int x4), (.int x5), (.int x6)] (.int 0))) := by
  refine Met.of (EWl V) (by first | decide +kernel | rfl) hO (L0 := #[.val (.ref p0), .val (.int (7 : Int32)), .unset]) rfl ?_
  intro p e s m below meth c T H
  show Go p e below _ (T.setTop (mkF m 0 #[.val (.ref p0), .val (.int (7 : Int32)), .unset] []))
  refine G.iloadN H dc_method_3_code_0 (pc' := 1) rfl rfl ?_
  refine G.newP H (aty := .char) (wd0 V) dc_method_3_code_1 (pc' := 3) rfl (by decide) (cap := 7) (by decide) (by decide) (by decide) (by decide) (vs := [(.int (0 : Int32)), (.int (0 : Int32)), (.int (0 : Int32)), (.int (0 : Int32)), (.int (0 : Int32)), (.int (0 : Int32)), (.int (0 : Int32))]) rfl ?_
  intro T1 h1_ a2 k5 ga2 H1 E3 A4
  have na2 : n0 ≤ a2 := Nat.le_trans H.le (Nat.le_of_eq ga2.symm)
  replace A4 : Arv Z h1_ a2 k5 .char (7 : Int32) [(.int (0 : Int32)), (.int (0 : Int32)), (.int (0 : Int32)), (.int (0 : Int32)), (.int (0 : Int32)), (.int (0 : Int32)), (.int (0 : Int32))] (.int 0) := A4
  show Go p e below _ (T1.setTop (mkF m 3 #[.val (.ref p0), .val (.int (7 : Int32)), .unset] [(.ref a2)]))
  refine G.astoreN H1 (L' := #[.val (.ref p0), .val (.int (7 : Int32)), .val (.ref a2)]) dc_method_3_code_3 (pc' := 4) rfl rfl rfl ?_
  refine G.iloadN H1 dc_method_3_code_4 (pc' := 5) rfl rfl ?_
  refine G.tswIn H1 dc_method_3_code_5 (by decide) (o := 199) rfl (by decide) (pc' := 204) rfl ?_
  refine G.aloadN H1 dc_method_3_code_204 (pc' := 205) rfl rfl rfl ?_
  refine G.bipush H1 dc_method_3_code_205 (pc' := 207) rfl (v := (6 : Int32)) rfl ?_
  refine G.aloadN H1 dc_method_3_code_207 (pc' := 208) rfl rfl rfl ?_
  refine G.bipush H1 dc_method_3_code_208 (pc' := 210) rfl (v := (6 : Int32)) rfl ?_
  have F6 : Arv Z h1_ p0 c0 .char (20 : Int32) [(.int x0), (.int x1), (.int x2), (.int x3), (.int x4), (.int x5), (.int x6), (.int x7), (.int x8), (.int x9), (.int x10), (.int x11), (.int x12), (.int x13), (.int x14), (.int x15), (.int x16), (.int x17), (.int x18), (.int x19)] (.int 0) := (Arv.ext f0 E3)
  refine G.caloadG H1 F6 (j := (6 : Int32)) (v := (.int x6)) (by decide) rfl dc_method_3_code_210 (pc' := 211) rfl ?_
  refine G.stC H1 A4 (by decide) (i := 6) rfl (Nat.le_of_ble_eq_true rfl) na2 (y := x6) (own_narC r1) dc_method_3_code_211 (pc' := 212) rfl ?_
  intro T7 h7_ H7 W8 A9
  replace A9 : Arv Z h7_ a2 k5 .char (7 : Int32) [(.int (0 : Int32)), (.int (0 : Int32)), (.int (0 : Int32)), (.int (0 : Int32)), (.int (0 : Int32)), (.int (0 : Int32)), (.int x6)] (.int 0) := A9
  show Go p e below _ (T7.setTop (mkF m 212 #[.val (.ref p0), .val (.int (7 : Int32)), .val (.ref a2)] []))
  refine G.aloadN H7 dc_method_3_code_212 (pc' := 213) rfl rfl rfl ?_
  refine G.iconst H7 dc_method_3_code_213 (pc' := 214) rfl (v := (5 : Int32)) rfl ?_
  refine G.aloadN H7 dc_method_3_code_214 (pc' := 215) rfl rfl rfl ?_
  refine G.iconst H7 dc_method_3_code_215 (pc' := 216) rfl (v := (5 : Int32)) rfl ?_
  have N10 : p0 ≠ a2 := (Nat.ne_of_lt (Nat.lt_of_lt_of_le f0.lt (Nat.le_of_eq ga2.symm)))
  have F11 : Arv Z h7_ p0 c0 .char (20 : Int32) [(.int x0), (.int x1), (.int x2), (.int x3), (.int x4), (.int x5), (.int x6), (.int x7), (.int x8), (.int x9), (.int x10), (.int x11), (.int x12), (.int x13), (.int x14), (.int x15), (.int x16), (.int x17), (.int x18), (.int x19)] (.int 0) := (Arv.other F6 W8 N10)
  refine G.caloadG H7 F11 (j := (5 : Int32)) (v := (.int x5)) (by decide) rfl dc_method_3_code_216 (pc' := 217) rfl ?_
  refine G.stC H7 A9 (by decide) (i := 5) rfl (Nat.le_of_ble_eq_true rfl) na2 (y := x5) (own_narC r2) dc_method_3_code_217 (pc' := 218) rfl ?_
  intro T12 h12_ H12 W13 A14
  replace A14 : Arv Z h12_ a2 k5 .char (7 : Int32) [(.int (0 : Int32)), (.int (0 : Int32)), (.int (0 : Int32)), (.int (0 : Int32)), (.int (0 : Int32)), (.int x5), (.int x6)] (.int 0) := A14
  show Go p e below _ (T12.setTop (mkF m 218 #[.val (.ref p0), .val (.int (7 : Int32)), .val (.ref a2)] []))
  refine G.aloadN H12 dc_method_3_code_218 (pc' := 219) rfl rfl rfl ?_
  refine G.iconst H12 dc_method_3_code_219 (pc' := 220) rfl (v := (4 : Int32)) rfl ?_
  refine G.aloadN H12 dc_method_3_code_220 (pc' := 221) rfl rfl rfl ?_
  refine G.iconst H12 dc_method_3_code_221 (pc' := 222) rfl (v := (4 : Int32)) rfl ?_
  have F15 : Arv Z h12_ p0 c0 .char (20 : Int32) [(.int x0), (.int x1), (.int x2), (.int x3), (.int x4), (.int x5), (.int x6), (.int x7), (.int x8), (.int x9), (.int x10), (.int x11), (.int x12), (.int x13), (.int x14), (.int x15), (.int x16), (.int x17), (.int x18), (.int x19)] (.int 0) := (Arv.other F11 W13 N10)
  refine G.caloadG H12 F15 (j := (4 : Int32)) (v := (.int x4)) (by decide) rfl dc_method_3_code_222 (pc' := 223) rfl ?_
  refine G.stC H12 A14 (by decide) (i := 4) rfl (Nat.le_of_ble_eq_true rfl) na2 (y := x4) (own_narC r3) dc_method_3_code_223 (pc' := 224) rfl ?_
  intro T16 h16_ H16 W17 A18
  replace A18 : Arv Z h16_ a2 k5 .char (7 : Int32) [(.int (0 : Int32)), (.int (0 : Int32)), (.int (0 : Int32)), (.int (0 : Int32)), (.int x4), (.int x5), (.int x6)] (.int 0) := A18
  show Go p e below _ (T16.setTop (mkF m 224 #[.val (.ref p0), .val (.int (7 : Int32)), .val (.ref a2)] []))
  refine G.aloadN H16 dc_method_3_code_224 (pc' := 225) rfl rfl rfl ?_
  refine G.iconst H16 dc_method_3_code_225 (pc' := 226) rfl (v := (3 : Int32)) rfl ?_
  refine G.aloadN H16 dc_method_3_code_226 (pc' := 227) rfl rfl rfl ?_
  refine G.iconst H16 dc_method_3_code_227 (pc' := 228) rfl (v := (3 : Int32)) rfl ?_
  have F19 : Arv Z h16_ p0 c0 .char (20 : Int32) [(.int x0), (.int x1), (.int x2), (.int x3), (.int x4), (.int x5), (.int x6), (.int x7), (.int x8), (.int x9), (.int x10), (.int x11), (.int x12), (.int x13), (.int x14), (.int x15), (.int x16), (.int x17), (.int x18), (.int x19)] (.int 0) := (Arv.other F15 W17 N10)
  refine G.caloadG H16 F19 (j := (3 : Int32)) (v := (.int x3)) (by decide) rfl dc_method_3_code_228 (pc' := 229) rfl ?_
  refine G.stC H16 A18 (by decide) (i := 3) rfl (Nat.le_of_ble_eq_true rfl) na2 (y := x3) (own_narC r4) dc_method_3_code_229 (pc' := 230) rfl ?_
  intro T20 h20_ H20 W21 A22
  replace A22 : Arv Z h20_ a2 k5 .char (7 : Int32) [(.int (0 : Int32)), (.int (0 : Int32)), (.int (0 : Int32)), (.int x3), (.int x4), (.int x5), (.int x6)] (.int 0) := A22
  show Go p e below _ (T20.setTop (mkF m 230 #[.val (.ref p0), .val (.int (7 : Int32)), .val (.ref a2)] []))
  refine G.aloadN H20 dc_method_3_code_230 (pc' := 231) rfl rfl rfl ?_
  refine G.iconst H20 dc_method_3_code_231 (pc' := 232) rfl (v := (2 : Int32)) rfl ?_
  refine G.aloadN H20 dc_method_3_code_232 (pc' := 233) rfl rfl rfl ?_
  refine G.iconst H20 dc_method_3_code_233 (pc' := 234) rfl (v := (2 : Int32)) rfl ?_
  have F23 : Arv Z h20_ p0 c0 .char (20 : Int32) [(.int x0), (.int x1), (.int x2), (.int x3), (.int x4), (.int x5), (.int x6), (.int x7), (.int x8), (.int x9), (.int x10), (.int x11), (.int x12), (.int x13), (.int x14), (.int x15), (.int x16), (.int x17), (.int x18), (.int x19)] (.int 0) := (Arv.other F19 W21 N10)
  refine G.caloadG H20 F23 (j := (2 : Int32)) (v := (.int x2)) (by decide) rfl dc_method_3_code_234 (pc' := 235) rfl ?_
  refine G.stC H20 A22 (by decide) (i := 2) rfl (Nat.le_of_ble_eq_true rfl) na2 (y := x2) (own_narC r5) dc_method_3_code_235 (pc' := 236) rfl ?_
  intro T24 h24_ H24 W25 A26
  replace A26 : Arv Z h24_ a2 k5 .char (7 : Int32) [(.int (0 : Int32)), (.int (0 : Int32)), (.int x2), (.int x3), (.int x4), (.int x5), (.int x6)] (.int 0) := A26
  show Go p e below _ (T24.setTop (mkF m 236 #[.val (.ref p0), .val (.int (7 : Int32)), .val (.ref a2)] []))
  refine G.aloadN H24 dc_method_3_code_236 (pc' := 237) rfl rfl rfl ?_
  refine G.iconst H24 dc_method_3_code_237 (pc' := 238) rfl (v := (1 : Int32)) rfl ?_
  refine G.aloadN H24 dc_method_3_code_238 (pc' := 239) rfl rfl rfl ?_
  refine G.iconst H24 dc_method_3_code_239 (pc' := 240) rfl (v := (1 : Int32)) rfl ?_
  have F27 : Arv Z h24_ p0 c0 .char (20 : Int32) [(.int x0), (.int x1), (.int x2), (.int x3), (.int x4), (.int x5), (.int x6), (.int x7), (.int x8), (.int x9), (.int x10), (.int x11), (.int x12), (.int x13), (.int x14), (.int x15), (.int x16), (.int x17), (.int x18), (.int x19)] (.int 0) := (Arv.other F23 W25 N10)
  refine G.caloadG H24 F27 (j := (1 : Int32)) (v := (.int x1)) (by decide) rfl dc_method_3_code_240 (pc' := 241) rfl ?_
  refine G.stC H24 A26 (by decide) (i := 1) rfl (Nat.le_of_ble_eq_true rfl) na2 (y := x1) (own_narC r6) dc_method_3_code_241 (pc' := 242) rfl ?_
  intro T28 h28_ H28 W29 A30
  replace A30 : Arv Z h28_ a2 k5 .char (7 : Int32) [(.int (0 : Int32)), (.int x1), (.int x2), (.int x3), (.int x4), (.int x5), (.int x6)] (.int 0) := A30
  show Go p e below _ (T28.setTop (mkF m 242 #[.val (.ref p0), .val (.int (7 : Int32)), .val (.ref a2)] []))
  refine G.aloadN H28 dc_method_3_code_242 (pc' := 243) rfl rfl rfl ?_
  refine G.iconst H28 dc_method_3_code_243 (pc' := 244) rfl (v := (0 : Int32)) rfl ?_
  refine G.aloadN H28 dc_method_3_code_244 (pc' := 245) rfl rfl rfl ?_
  refine G.iconst H28 dc_method_3_code_245 (pc' := 246) rfl (v := (0 : Int32)) rfl ?_
  have F31 : Arv Z h28_ p0 c0 .char (20 : Int32) [(.int x0), (.int x1), (.int x2), (.int x3), (.int x4), (.int x5), (.int x6), (.int x7), (.int x8), (.int x9), (.int x10), (.int x11), (.int x12), (.int x13), (.int x14), (.int x15), (.int x16), (.int x17), (.int x18), (.int x19)] (.int 0) := (Arv.other F27 W29 N10)
  refine G.caloadG H28 F31 (j := (0 : Int32)) (v := (.int x0)) (by decide) rfl dc_method_3_code_246 (pc' := 247) rfl ?_
  refine G.stC H28 A30 (by decide) (i := 0) rfl (Nat.le_of_ble_eq_true rfl) na2 (y := x0) (own_narC r7) dc_method_3_code_247 (pc' := 248) rfl ?_
  intro T32 h32_ H32 W33 A34
  replace A34 : Arv Z h32_ a2 k5 .char (7 : Int32) [(.int x0), (.int x1), (.int x2), (.int x3), (.int x4), (.int x5), (.int x6)] (.int 0) := A34
  show Go p e below _ (T32.setTop (mkF m 248 #[.val (.ref p0), .val (.int (7 : Int32)), .val (.ref a2)] []))
  refine G.aloadN H32 dc_method_3_code_248 (pc' := 249) rfl rfl rfl ?_
  have K35 : Keep h0 h32_ [] := (Keep.wr (Keep.wr (Keep.wr (Keep.wr (Keep.wr (Keep.wr (Keep.wr (Keep.ext (Keep.refl h0 []) E3) W8 (Or.inr (Nat.le_of_eq ga2.symm))) W13 (Or.inr (Nat.le_of_eq ga2.symm))) W17 (Or.inr (Nat.le_of_eq ga2.symm))) W21 (Or.inr (Nat.le_of_eq ga2.symm))) W25 (Or.inr (Nat.le_of_eq ga2.symm))) W29 (Or.inr (Nat.le_of_eq ga2.symm))) W33 (Or.inr (Nat.le_of_eq ga2.symm)))
  exact G.retA H32 (t := (.array .char)) rfl rfl rfl dc_method_3_code_249 (so := []) all0 (by decide) (by decide) ⟨a2, k5, rfl, rfl, K35, (Nat.le_of_eq ga2.symm), A34⟩
set_option maxRecDepth 65536 in
set_option maxHeartbeats 40000000 in
theorem m27_length {l : Launch} {Z : State} {a0 : Array Value} {n0 : Nat} {z_COMPACT_STRINGS : Int32} {z_SIOOBE_FORMATTER : Value} (V : Env1 Z a0 n0 z_COMPACT_STRINGS z_SIOOBE_FORMATTER) (p0 : Addr) (p1 : Addr) (c0 : ClassId) (x0 : Int32) (x1 : Int32) (x2 : Int32) (x3 : Int32) (x4 : Int32) (x5 : Int32) (x6 : Int32) (h0 : Heap) (hO : Old Z n0 h0) (f0 : Fld Z h0 p0 "java/lang/String" "value" "[B" (.ref p1)) (f1 : Arv Z h0 p1 c0 .byte (7 : Int32) [(.int x0), (.int x1), (.int x2), (.int x3), (.int x4), (.int x5), (.int x6)] (.int 0)) (f2 : Exa Z h0 p0 "java/lang/String") (f3 : Fld Z h0 p0 "java/lang/String" "coder" "B" (.int (0 : Int32))) :
    Met Z a0 ELs True n0 l (⟨"java/lang/String", "length", "()I"⟩ : MethodName) jdk_42_method_54_code 1 (Option.some FieldType.int) ({ frames := 1, cells := 0, slots := 0, locals := 13 } : Room) #[(.ref p0)] h0 [] (fun v h so => (v = some (.int (7 : Int32)) ∧ so = [] ∧ h0 = h)) := by
  refine Met.of (EWl V) (by first | decide +kernel | rfl) hO (L0 := #[.val (.ref p0)]) rfl ?_
  intro p e s m below meth c T H
  show Go p e below _ (T.setTop (mkF m 0 #[.val (.ref p0)] []))
  refine G.aloadN H dc_jdk_42_method_54_code_0 (pc' := 1) rfl rfl rfl ?_
  refine G.getF H (wd34 V) Via.refl f0 dc_jdk_42_method_54_code_1 (pc' := 4) rfl ?_
  intro T1 H2
  refine G.arrlen H2 f1 dc_jdk_42_method_54_code_4 (pc' := 5) rfl ?_
  refine G.aloadN H2 dc_jdk_42_method_54_code_5 (pc' := 6) rfl rfl rfl ?_
  refine G.callV H2 (m4_coder V p0 h0 H2.old f3) (wd45 V) (wd46 V) (nf_sel (wd48 V)) (wd48 V) (wd47 V) (wd5 V) (wd49 V) (by decide) f2 (argsL := []) (rest := [(.int (7 : Int32))]) (W := 1) rfl rfl (lenOf (pd_3) rfl) rfl rfl dc_jdk_42_method_54_code_6 (pc' := 9) rfl (by decide) (by decide) (by decide) (by decide) all0 ?_
  intro T3 h3_ v4 s5 H3 Q6
  obtain ⟨rfl, rfl, rfl⟩ := Q6
  show Go p e below _ (T3.setTop (mkF m 9 #[.val (.ref p0)] [(.int (0 : Int32)), (.int (7 : Int32))]))
  refine G.ishr H3 dc_jdk_42_method_54_code_9 (pc' := 10) rfl ?_
  show Go p e below _ (T3.setTop (mkF m 10 #[.val (.ref p0)] [(.int (7 : Int32))]))
  exact G.retI H3 rfl dc_jdk_42_method_54_code_10 (so := []) all0 (by decide) (by decide) ⟨rfl, rfl, rfl⟩
set_option maxRecDepth 65536 in
set_option maxHeartbeats 40000000 in
theorem m28_untimed {l : Launch} {Z : State} {a0 : Array Value} {n0 : Nat} {z_COMPACT_STRINGS : Int32} {z_SIOOBE_FORMATTER : Value} (V : Env1 Z a0 n0 z_COMPACT_STRINGS z_SIOOBE_FORMATTER) (p0 : Addr) (p1 : Addr) (c0 : ClassId) (x0 : Int32) (x1 : Int32) (x2 : Int32) (x3 : Int32) (x4 : Int32) (x5 : Int32) (x6 : Int32) (h0 : Heap) (hO : Old Z n0 h0) (f0 : Exa Z h0 p0 "java/lang/String") (f1 : Fld Z h0 p0 "java/lang/String" "value" "[B" (.ref p1)) (f2 : Arv Z h0 p1 c0 .byte (7 : Int32) [(.int x0), (.int x1), (.int x2), (.int x3), (.int x4), (.int x5), (.int x6)] (.int 0)) (f3 : Fld Z h0 p0 "java/lang/String" "coder" "B" (.int (0 : Int32))) :
    Met Z a0 ELs True n0 l (⟨"com/example/tenure/tenure/Days", "untimed", "(Ljava/lang/String;)Z"⟩ : MethodName) prog_14_method_4_code 1 (Option.some FieldType.boolean) ({ frames := 2, cells := 2, slots := 44, locals := 26 } : Room) #[(.ref p0)] h0 [p0, p1] (fun v h so => (v = some (.int (0 : Int32)) ∧ so = [] ∧ Keep h0 h [])) := by
  refine Met.of (EWl V) (by first | decide +kernel | rfl) hO (L0 := #[.val (.ref p0)]) rfl ?_
  intro p e s m below meth c T H
  show Go p e below _ (T.setTop (mkF m 0 #[.val (.ref p0)] []))
  refine G.aloadN H dc_prog_14_method_4_code_0 (pc' := 1) rfl rfl rfl ?_
  refine G.callV H (m27_length V p0 p1 c0 x0 x1 x2 x3 x4 x5 x6 h0 H.old f1 f2 f0 f3) (wd40 V) (wd41 V) (nf_sel (wd43 V)) (wd43 V) (wd42 V) (wd5 V) (wd44 V) (by decide) f0 (argsL := []) (rest := []) (W := 0) rfl rfl (lenOf (pd_4) rfl) rfl rfl dc_prog_14_method_4_code_1 (pc' := 4) rfl (by decide) (by decide) (by decide) (by decide) all0 ?_
  intro T1 h1_ v2 s3 H1 Q4
  obtain ⟨rfl, rfl, rfl⟩ := Q4
  show Go p e below _ (T1.setTop (mkF m 4 #[.val (.ref p0)] [(.int (7 : Int32))]))
  refine G.ldcS H1 trivial (wS V) (wd50 V) (by decide) (vs := [(.int (48 : Int32)), (.int (48 : Int32)), (.int (48 : Int32)), (.int (48 : Int32)), (.int (45 : Int32)), (.int (48 : Int32)), (.int (48 : Int32)), (.int (45 : Int32)), (.int (48 : Int32)), (.int (48 : Int32))]) (z := (10 : Int32)) (by decide) (by decide) rfl (n := 40) (by decide) (by decide) (by decide) (by decide) dc_prog_14_method_4_code_4 (pc' := 6) rfl ?_
  intro T5 h5_ a6 b8 k9 H5 E7 X10 F11 F12 A13 Q14
  have S15 : Str Z h5_ a6 b8 k9 [(48 : Int32), (48 : Int32), (48 : Int32), (48 : Int32), (45 : Int32), (48 : Int32), (48 : Int32), (45 : Int32), (48 : Int32), (48 : Int32)] := ⟨X10, F11, F12, A13, by decide, by decide⟩
  show Go p e below _ (T5.setTop (mkF m 6 #[.val (.ref p0)] [(.ref a6), (.int (7 : Int32))]))
  refine G.callV H5 (m6_length V a6 b8 k9 h5_ H5.old F12 A13 X10 F11) (wd40 V) (wd41 V) (nf_sel (wd43 V)) (wd43 V) (wd42 V) (wd5 V) (wd44 V) (by decide) X10 (argsL := []) (rest := [(.int (7 : Int32))]) (W := 1) rfl rfl (lenOf (pd_4) rfl) rfl rfl dc_prog_14_method_4_code_6 (pc' := 9) rfl (by decide) (by decide) (by decide) (by decide) all0 ?_
  intro T16 h16_ v17 s18 H16 Q19
  obtain ⟨rfl, rfl, rfl⟩ := Q19
  show Go p e below _ (T16.setTop (mkF m 9 #[.val (.ref p0)] [(.int (10 : Int32)), (.int (7 : Int32))]))
  refine G.icmpYes H16 dc_prog_14_method_4_code_9 (by decide) (by decide) (pc' := 16) rfl ?_
  refine G.iconst H16 dc_prog_14_method_4_code_16 (pc' := 17) rfl (v := (0 : Int32)) rfl ?_
  have K20 : Keep h0 h5_ [] := (Keep.ext (Keep.refl h0 []) E7)
  exact G.retN H16 (t := .boolean) rfl (by decide) dc_prog_14_method_4_code_17 (so := []) all0 (by decide) (by decide) ⟨rfl, rfl, K20⟩
set_option maxRecDepth 65536 in
set_option maxHeartbeats 40000000 in
theorem m29_prefix {l : Launch} {Z : State} {a0 : Array Value} {n0 : Nat} {z_COMPACT_STRINGS : Int32} {z_SIOOBE_FORMATTER : Value} (V : Env1 Z a0 n0 z_COMPACT_STRINGS z_SIOOBE_FORMATTER) (p0 : Addr) (c0 : ClassId) (x0 : Int32) (x1 : Int32) (x2 : Int32) (x3 : Int32) (x4 : Int32) (x5 : Int32) (x6 : Int32) (x7 : Int32) (x8 : Int32) (x9 : Int32) (x10 : Int32) (x11 : Int32) (x12 : Int32) (x13 : Int32) (x14 : Int32) (x15 : Int32) (x16 : Int32) (x17 : Int32) (x18 : Int32) (x19 : Int32) (h0 : Heap) (hO : Old Z n0 h0) (f0 : Arv Z h0 p0 c0 .char (20 : Int32) [(.int x0), (.int x1), (.int x2), (.int x3), (.int x4), (.int x5), (.int x6), (.int x7), (.int x8), (.int x9), (.int x10), (.int x11), (.int x12), (.int x13), (.int x14), (.int x15), (.int x16), (.int x17), (.int x18), (.int x19)] (.int 0)) (r1 : ¬ x7 < 0 ∧ ¬ (65535 : Int32) < x7) (r2 : ¬ x6 < 0 ∧ ¬ (65535 : Int32) < x6) (r3 : ¬ x5 < 0 ∧ ¬ (65535 : Int32) < x5) (r4 : ¬ x4 < 0 ∧ ¬ (65535 : Int32) < x4) (r5 : ¬ x3 < 0 ∧ ¬ (65535 : Int32) < x3) (r6 : ¬ x2 < 0 ∧ ¬ (65535 : Int32) < x2) (r7 : ¬ x1 < 0 ∧ ¬ (65535 : Int32) < x1) (r8 : ¬ x0 < 0 ∧ ¬ (65535 : Int32) < x0) :
    Met Z a0 ELs True n0 l (⟨"com/example/tenure/tenure/DaysUntimedPinLaw", "prefix", "([CI)[C"⟩ : MethodName) method_3_code 3 (Option.some (FieldType.array FieldType.char)) ({ frames := 0, cells := 1, slots := 8, locals := 0 } : Room) #[(.ref p0), (.int (8 : Int32))] h0 [] (fun v h so => (∃ a2 : Addr, ∃ k5 : ClassId, v = some (.ref a2) ∧ so = [] ∧ Keep h0 h [] ∧ h0.size ≤ a2 ∧ Arv Z h a2 k5 .char (8 : Int32) [(.int x0), (.int x1), (.int x2), (.int x3), (.int x4), (.int x5), (.int x6), (.int x7)] (.int 0))) := by
  refine Met.of (EWl V) (by first | decide +kernel | rfl) hO (L0 := #[.val (.ref p0), .val (.int (8 : Int32)), .unset]) rfl ?_
  intro p e s m below meth c T H
  show Go p e below _ (T.setTop (mkF m 0 #[.val (.ref p0), .val (.int (8 : Int32)), .unset] []))
  refine G.iloadN H dc_method_3_code_0 (pc' := 1) rfl rfl ?_
  refine G.newP H (aty := .char) (wd0 V) dc_method_3_code_1 (pc' := 3) rfl (by decide) (cap := 8) (by decide) (by decide) (by decide) (by decide) (vs := [(.int (0 : Int32)), (.int (0 : Int32)), (.int (0 : Int32)), (.int (0 : Int32)), (.int (0 : Int32)), (.int (0 : Int32)), (.int (0 : Int32)), (.int (0 : Int32))]) rfl ?_
  intro T1 h1_ a2 k5 ga2 H1 E3 A4
  have na2 : n0 ≤ a2 := Nat.le_trans H.le (Nat.le_of_eq ga2.symm)
  replace A4 : Arv Z h1_ a2 k5 .char (8 : Int32) [(.int (0 : Int32)), (.int (0 : Int32)), (.int (0 : Int32)), (.int (0 : Int32)), (.int (0 : Int32)), (.int (0 : Int32)), (.int (0 : Int32)), (.int (0 : Int32))] (.int 0) := A4
  show Go p e below _ (T1.setTop (mkF m 3 #[.val (.ref p0), .val (.int (8 : Int32)), .unset] [(.ref a2)]))
  refine G.astoreN H1 (L' := #[.val (.ref p0), .val (.int (8 : Int32)), .val (.ref a2)]) dc_method_3_code_3 (pc' := 4) rfl rfl rfl ?_
  refine G.iloadN H1 dc_method_3_code_4 (pc' := 5) rfl rfl ?_
  refine G.tswIn H1 dc_method_3_code_5 (by decide) (o := 191) rfl (by decide) (pc' := 196) rfl ?_
  refine G.aloadN H1 dc_method_3_code_196 (pc' := 197) rfl rfl rfl ?_
  refine G.bipush H1 dc_method_3_code_197 (pc' := 199) rfl (v := (7 : Int32)) rfl ?_
  refine G.aloadN H1 dc_method_3_code_199 (pc' := 200) rfl rfl rfl ?_
  refine G.bipush H1 dc_method_3_code_200 (pc' := 202) rfl (v := (7 : Int32)) rfl ?_
  have F6 : Arv Z h1_ p0 c0 .char (20 : Int32) [(.int x0), (.int x1), (.int x2), (.int x3), (.int x4), (.int x5), (.int x6), (.int x7), (.int x8), (.int x9), (.int x10), (.int x11), (.int x12), (.int x13), (.int x14), (.int x15), (.int x16), (.int x17), (.int x18), (.int x19)] (.int 0) := (Arv.ext f0 E3)
  refine G.caloadG H1 F6 (j := (7 : Int32)) (v := (.int x7)) (by decide) rfl dc_method_3_code_202 (pc' := 203) rfl ?_
  refine G.stC H1 A4 (by decide) (i := 7) rfl (Nat.le_of_ble_eq_true rfl) na2 (y := x7) (own_narC r1) dc_method_3_code_203 (pc' := 204) rfl ?_
  intro T7 h7_ H7 W8 A9
  replace A9 : Arv Z h7_ a2 k5 .char (8 : Int32) [(.int (0 : Int32)), (.int (0 : Int32)), (.int (0 : Int32)), (.int (0 : Int32)), (.int (0 : Int32)), (.int (0 : Int32)), (.int (0 : Int32)), (.int x7)] (.int 0) := A9
  show Go p e below _ (T7.setTop (mkF m 204 #[.val (.ref p0), .val (.int (8 : Int32)), .val (.ref a2)] []))
  refine G.aloadN H7 dc_method_3_code_204 (pc' := 205) rfl rfl rfl ?_
  refine G.bipush H7 dc_method_3_code_205 (pc' := 207) rfl (v := (6 : Int32)) rfl ?_
  refine G.aloadN H7 dc_method_3_code_207 (pc' := 208) rfl rfl rfl ?_
  refine G.bipush H7 dc_method_3_code_208 (pc' := 210) rfl (v := (6 : Int32)) rfl ?_
  have N10 : p0 ≠ a2 := (Nat.ne_of_lt (Nat.lt_of_lt_of_le f0.lt (Nat.le_of_eq ga2.symm)))
  have F11 : Arv Z h7_ p0 c0 .char (20 : Int32) [(.int x0), (.int x1), (.int x2), (.int x3), (.int x4), (.int x5), (.int x6), (.int x7), (.int x8), (.int x9), (.int x10), (.int x11), (.int x12), (.int x13), (.int x14), (.int x15), (.int x16), (.int x17), (.int x18), (.int x19)] (.int 0) := (Arv.other F6 W8 N10)
  refine G.caloadG H7 F11 (j := (6 : Int32)) (v := (.int x6)) (by decide) rfl dc_method_3_code_210 (pc' := 211) rfl ?_
  refine G.stC H7 A9 (by decide) (i := 6) rfl (Nat.le_of_ble_eq_true rfl) na2 (y := x6) (own_narC r2) dc_method_3_code_211 (pc' := 212) rfl ?_
  intro T12 h12_ H12 W13 A14
  replace A14 : Arv Z h12_ a2 k5 .char (8 : Int32) [(.int (0 : Int32)), (.int (0 : Int32)), (.int (0 : Int32)), (.int (0 : Int32)), (.int (0 : Int32)), (.int (0 : Int32)), (.int x6), (.int x7)] (.int 0) := A14
  show Go p e below _ (T12.setTop (mkF m 212 #[.val (.ref p0), .val (.int (8 : Int32)), .val (.ref a2)] []))
  refine G.aloadN H12 dc_method_3_code_212 (pc' := 213) rfl rfl rfl ?_
  refine G.iconst H12 dc_method_3_code_213 (pc' := 214) rfl (v := (5 : Int32)) rfl ?_
  refine G.aloadN H12 dc_method_3_code_214 (pc' := 215) rfl rfl rfl ?_
  refine G.iconst H12 dc_method_3_code_215 (pc' := 216) rfl (v := (5 : Int32)) rfl ?_
  have F15 : Arv Z h12_ p0 c0 .char (20 : Int32) [(.int x0), (.int x1), (.int x2), (.int x3), (.int x4), (.int x5), (.int x6), (.int x7), (.int x8), (.int x9), (.int x10), (.int x11), (.int x12), (.int x13), (.int x14), (.int x15), (.int x16), (.int x17), (.int x18), (.int x19)] (.int 0) := (Arv.other F11 W13 N10)
  refine G.caloadG H12 F15 (j := (5 : Int32)) (v := (.int x5)) (by decide) rfl dc_method_3_code_216 (pc' := 217) rfl ?_
  refine G.stC H12 A14 (by decide) (i := 5) rfl (Nat.le_of_ble_eq_true rfl) na2 (y := x5) (own_narC r3) dc_method_3_code_217 (pc' := 218) rfl ?_
  intro T16 h16_ H16 W17 A18
  replace A18 : Arv Z h16_ a2 k5 .char (8 : Int32) [(.int (0 : Int32)), (.int (0 : Int32)), (.int (0 : Int32)), (.int (0 : Int32)), (.int (0 : Int32)), (.int x5), (.int x6), (.int x7)] (.int 0) := A18
  show Go p e below _ (T16.setTop (mkF m 218 #[.val (.ref p0), .val (.int (8 : Int32)), .val (.ref a2)] []))
  refine G.aloadN H16 dc_method_3_code_218 (pc' := 219) rfl rfl rfl ?_
  refine G.iconst H16 dc_method_3_code_219 (pc' := 220) rfl (v := (4 : Int32)) rfl ?_
  refine G.aloadN H16 dc_method_3_code_220 (pc' := 221) rfl rfl rfl ?_
  refine G.iconst H16 dc_method_3_code_221 (pc' := 222) rfl (v := (4 : Int32)) rfl ?_
  have F19 : Arv Z h16_ p0 c0 .char (20 : Int32) [(.int x0), (.int x1), (.int x2), (.int x3), (.int x4), (.int x5), (.int x6), (.int x7), (.int x8), (.int x9), (.int x10), (.int x11), (.int x12), (.int x13), (.int x14), (.int x15), (.int x16), (.int x17), (.int x18), (.int x19)] (.int 0) := (Arv.other F15 W17 N10)
  refine G.caloadG H16 F19 (j := (4 : Int32)) (v := (.int x4)) (by decide) rfl dc_method_3_code_222 (pc' := 223) rfl ?_
  refine G.stC H16 A18 (by decide) (i := 4) rfl (Nat.le_of_ble_eq_true rfl) na2 (y := x4) (own_narC r4) dc_method_3_code_223 (pc' := 224) rfl ?_
  intro T20 h20_ H20 W21 A22
  replace A22 : Arv Z h20_ a2 k5 .char (8 : Int32) [(.int (0 : Int32)), (.int (0 : Int32)), (.int (0 : Int32)), (.int (0 : Int32)), (.int x4), (.int x5), (.int x6), (.int x7)] (.int 0) := A22
  show Go p e below _ (T20.setTop (mkF m 224 #[.val (.ref p0), .val (.int (8 : Int32)), .val (.ref a2)] []))
  refine G.aloadN H20 dc_method_3_code_224 (pc' := 225) rfl rfl rfl ?_
  refine G.iconst H20 dc_method_3_code_225 (pc' := 226) rfl (v := (3 : Int32)) rfl ?_
  refine G.aloadN H20 dc_method_3_code_226 (pc' := 227) rfl rfl rfl ?_
  refine G.iconst H20 dc_method_3_code_227 (pc' := 228) rfl (v := (3 : Int32)) rfl ?_
  have F23 : Arv Z h20_ p0 c0 .char (20 : Int32) [(.int x0), (.int x1), (.int x2), (.int x3), (.int x4), (.int x5), (.int x6), (.int x7), (.int x8), (.int x9), (.int x10), (.int x11), (.int x12), (.int x13), (.int x14), (.int x15), (.int x16), (.int x17), (.int x18), (.int x19)] (.int 0) := (Arv.other F19 W21 N10)
  refine G.caloadG H20 F23 (j := (3 : Int32)) (v := (.int x3)) (by decide) rfl dc_method_3_code_228 (pc' := 229) rfl ?_
  refine G.stC H20 A22 (by decide) (i := 3) rfl (Nat.le_of_ble_eq_true rfl) na2 (y := x3) (own_narC r5) dc_method_3_code_229 (pc' := 230) rfl ?_
  intro T24 h24_ H24 W25 A26
  replace A26 : Arv Z h24_ a2 k5 .char (8 : Int32) [(.int (0 : Int32)), (.int (0 : Int32)), (.int (0 : Int32)), (.int x3), (.int x4), (.int x5), (.int x6), (.int x7)] (.int 0) := A26
  show Go p e below _ (T24.setTop (mkF m 230 #[.val (.ref p0), .val (.int (8 : Int32)), .val (.ref a2)] []))
  refine G.aloadN H24 dc_method_3_code_230 (pc' := 231) rfl rfl rfl ?_
  refine G.iconst H24 dc_method_3_code_231 (pc' := 232) rfl (v := (2 : Int32)) rfl ?_
  refine G.aloadN H24 dc_method_3_code_232 (pc' := 233) rfl rfl rfl ?_
  refine G.iconst H24 dc_method_3_code_233 (pc' := 234) rfl (v := (2 : Int32)) rfl ?_
  have F27 : Arv Z h24_ p0 c0 .char (20 : Int32) [(.int x0), (.int x1), (.int x2), (.int x3), (.int x4), (.int x5), (.int x6), (.int x7), (.int x8), (.int x9), (.int x10), (.int x11), (.int x12), (.int x13), (.int x14), (.int x15), (.int x16), (.int x17), (.int x18), (.int x19)] (.int 0) := (Arv.other F23 W25 N10)
  refine G.caloadG H24 F27 (j := (2 : Int32)) (v := (.int x2)) (by decide) rfl dc_method_3_code_234 (pc' := 235) rfl ?_
  refine G.stC H24 A26 (by decide) (i := 2) rfl (Nat.le_of_ble_eq_true rfl) na2 (y := x2) (own_narC r6) dc_method_3_code_235 (pc' := 236) rfl ?_
  intro T28 h28_ H28 W29 A30
  replace A30 : Arv Z h28_ a2 k5 .char (8 : Int32) [(.int (0 : Int32)), (.int (0 : Int32)), (.int x2), (.int x3), (.int x4), (.int x5), (.int x6), (.int x7)] (.int 0) := A30
  show Go p e below _ (T28.setTop (mkF m 236 #[.val (.ref p0), .val (.int (8 : Int32)), .val (.ref a2)] []))
  refine G.aloadN H28 dc_method_3_code_236 (pc' := 237) rfl rfl rfl ?_
  refine G.iconst H28 dc_method_3_code_237 (pc' := 238) rfl (v := (1 : Int32)) rfl ?_
  refine G.aloadN H28 dc_method_3_code_238 (pc' := 239) rfl rfl rfl ?_
  refine G.iconst H28 dc_method_3_code_239 (pc' := 240) rfl (v := (1 : Int32)) rfl ?_
  have F31 : Arv Z h28_ p0 c0 .char (20 : Int32) [(.int x0), (.int x1), (.int x2), (.int x3), (.int x4), (.int x5), (.int x6), (.int x7), (.int x8), (.int x9), (.int x10), (.int x11), (.int x12), (.int x13), (.int x14), (.int x15), (.int x16), (.int x17), (.int x18), (.int x19)] (.int 0) := (Arv.other F27 W29 N10)
  refine G.caloadG H28 F31 (j := (1 : Int32)) (v := (.int x1)) (by decide) rfl dc_method_3_code_240 (pc' := 241) rfl ?_
  refine G.stC H28 A30 (by decide) (i := 1) rfl (Nat.le_of_ble_eq_true rfl) na2 (y := x1) (own_narC r7) dc_method_3_code_241 (pc' := 242) rfl ?_
  intro T32 h32_ H32 W33 A34
  replace A34 : Arv Z h32_ a2 k5 .char (8 : Int32) [(.int (0 : Int32)), (.int x1), (.int x2), (.int x3), (.int x4), (.int x5), (.int x6), (.int x7)] (.int 0) := A34
  show Go p e below _ (T32.setTop (mkF m 242 #[.val (.ref p0), .val (.int (8 : Int32)), .val (.ref a2)] []))
  refine G.aloadN H32 dc_method_3_code_242 (pc' := 243) rfl rfl rfl ?_
  refine G.iconst H32 dc_method_3_code_243 (pc' := 244) rfl (v := (0 : Int32)) rfl ?_
  refine G.aloadN H32 dc_method_3_code_244 (pc' := 245) rfl rfl rfl ?_
  refine G.iconst H32 dc_method_3_code_245 (pc' := 246) rfl (v := (0 : Int32)) rfl ?_
  have F35 : Arv Z h32_ p0 c0 .char (20 : Int32) [(.int x0), (.int x1), (.int x2), (.int x3), (.int x4), (.int x5), (.int x6), (.int x7), (.int x8), (.int x9), (.int x10), (.int x11), (.int x12), (.int x13), (.int x14), (.int x15), (.int x16), (.int x17), (.int x18), (.int x19)] (.int 0) := (Arv.other F31 W33 N10)
  refine G.caloadG H32 F35 (j := (0 : Int32)) (v := (.int x0)) (by decide) rfl dc_method_3_code_246 (pc' := 247) rfl ?_
  refine G.stC H32 A34 (by decide) (i := 0) rfl (Nat.le_of_ble_eq_true rfl) na2 (y := x0) (own_narC r8) dc_method_3_code_247 (pc' := 248) rfl ?_
  intro T36 h36_ H36 W37 A38
  replace A38 : Arv Z h36_ a2 k5 .char (8 : Int32) [(.int x0), (.int x1), (.int x2), (.int x3), (.int x4), (.int x5), (.int x6), (.int x7)] (.int 0) := A38
  show Go p e below _ (T36.setTop (mkF m 248 #[.val (.ref p0), .val (.int (8 : Int32)), .val (.ref a2)] []))
  refine G.aloadN H36 dc_method_3_code_248 (pc' := 249) rfl rfl rfl ?_
  have K39 : Keep h0 h36_ [] := (Keep.wr (Keep.wr (Keep.wr (Keep.wr (Keep.wr (Keep.wr (Keep.wr (Keep.wr (Keep.ext (Keep.refl h0 []) E3) W8 (Or.inr (Nat.le_of_eq ga2.symm))) W13 (Or.inr (Nat.le_of_eq ga2.symm))) W17 (Or.inr (Nat.le_of_eq ga2.symm))) W21 (Or.inr (Nat.le_of_eq ga2.symm))) W25 (Or.inr (Nat.le_of_eq ga2.symm))) W29 (Or.inr (Nat.le_of_eq ga2.symm))) W33 (Or.inr (Nat.le_of_eq ga2.symm))) W37 (Or.inr (Nat.le_of_eq ga2.symm)))
  exact G.retA H36 (t := (.array .char)) rfl rfl rfl dc_method_3_code_249 (so := []) all0 (by decide) (by decide) ⟨a2, k5, rfl, rfl, K39, (Nat.le_of_eq ga2.symm), A38⟩
set_option maxRecDepth 65536 in
set_option maxHeartbeats 40000000 in
theorem m30_length {l : Launch} {Z : State} {a0 : Array Value} {n0 : Nat} {z_COMPACT_STRINGS : Int32} {z_SIOOBE_FORMATTER : Value} (V : Env1 Z a0 n0 z_COMPACT_STRINGS z_SIOOBE_FORMATTER) (p0 : Addr) (p1 : Addr) (c0 : ClassId) (x0 : Int32) (x1 : Int32) (x2 : Int32) (x3 : Int32) (x4 : Int32) (x5 : Int32) (x6 : Int32) (x7 : Int32) (h0 : Heap) (hO : Old Z n0 h0) (f0 : Fld Z h0 p0 "java/lang/String" "value" "[B" (.ref p1)) (f1 : Arv Z h0 p1 c0 .byte (8 : Int32) [(.int x0), (.int x1), (.int x2), (.int x3), (.int x4), (.int x5), (.int x6), (.int x7)] (.int 0)) (f2 : Exa Z h0 p0 "java/lang/String") (f3 : Fld Z h0 p0 "java/lang/String" "coder" "B" (.int (0 : Int32))) :
    Met Z a0 ELs True n0 l (⟨"java/lang/String", "length", "()I"⟩ : MethodName) jdk_42_method_54_code 1 (Option.some FieldType.int) ({ frames := 1, cells := 0, slots := 0, locals := 13 } : Room) #[(.ref p0)] h0 [] (fun v h so => (v = some (.int (8 : Int32)) ∧ so = [] ∧ h0 = h)) := by
  refine Met.of (EWl V) (by first | decide +kernel | rfl) hO (L0 := #[.val (.ref p0)]) rfl ?_
  intro p e s m below meth c T H
  show Go p e below _ (T.setTop (mkF m 0 #[.val (.ref p0)] []))
  refine G.aloadN H dc_jdk_42_method_54_code_0 (pc' := 1) rfl rfl rfl ?_
  refine G.getF H (wd34 V) Via.refl f0 dc_jdk_42_method_54_code_1 (pc' := 4) rfl ?_
  intro T1 H2
  refine G.arrlen H2 f1 dc_jdk_42_method_54_code_4 (pc' := 5) rfl ?_
  refine G.aloadN H2 dc_jdk_42_method_54_code_5 (pc' := 6) rfl rfl rfl ?_
  refine G.callV H2 (m4_coder V p0 h0 H2.old f3) (wd45 V) (wd46 V) (nf_sel (wd48 V)) (wd48 V) (wd47 V) (wd5 V) (wd49 V) (by decide) f2 (argsL := []) (rest := [(.int (8 : Int32))]) (W := 1) rfl rfl (lenOf (pd_3) rfl) rfl rfl dc_jdk_42_method_54_code_6 (pc' := 9) rfl (by decide) (by decide) (by decide) (by decide) all0 ?_
  intro T3 h3_ v4 s5 H3 Q6
  obtain ⟨rfl, rfl, rfl⟩ := Q6
  show Go p e below _ (T3.setTop (mkF m 9 #[.val (.ref p0)] [(.int (0 : Int32)), (.int (8 : Int32))]))
  refine G.ishr H3 dc_jdk_42_method_54_code_9 (pc' := 10) rfl ?_
  show Go p e below _ (T3.setTop (mkF m 10 #[.val (.ref p0)] [(.int (8 : Int32))]))
  exact G.retI H3 rfl dc_jdk_42_method_54_code_10 (so := []) all0 (by decide) (by decide) ⟨rfl, rfl, rfl⟩
set_option maxRecDepth 65536 in
set_option maxHeartbeats 40000000 in
theorem m31_untimed {l : Launch} {Z : State} {a0 : Array Value} {n0 : Nat} {z_COMPACT_STRINGS : Int32} {z_SIOOBE_FORMATTER : Value} (V : Env1 Z a0 n0 z_COMPACT_STRINGS z_SIOOBE_FORMATTER) (p0 : Addr) (p1 : Addr) (c0 : ClassId) (x0 : Int32) (x1 : Int32) (x2 : Int32) (x3 : Int32) (x4 : Int32) (x5 : Int32) (x6 : Int32) (x7 : Int32) (h0 : Heap) (hO : Old Z n0 h0) (f0 : Exa Z h0 p0 "java/lang/String") (f1 : Fld Z h0 p0 "java/lang/String" "value" "[B" (.ref p1)) (f2 : Arv Z h0 p1 c0 .byte (8 : Int32) [(.int x0), (.int x1), (.int x2), (.int x3), (.int x4), (.int x5), (.int x6), (.int x7)] (.int 0)) (f3 : Fld Z h0 p0 "java/lang/String" "coder" "B" (.int (0 : Int32))) :
    Met Z a0 ELs True n0 l (⟨"com/example/tenure/tenure/Days", "untimed", "(Ljava/lang/String;)Z"⟩ : MethodName) prog_14_method_4_code 1 (Option.some FieldType.boolean) ({ frames := 2, cells := 2, slots := 44, locals := 26 } : Room) #[(.ref p0)] h0 [p0, p1] (fun v h so => (v = some (.int (0 : Int32)) ∧ so = [] ∧ Keep h0 h [])) := by
  refine Met.of (EWl V) (by first | decide +kernel | rfl) hO (L0 := #[.val (.ref p0)]) rfl ?_
  intro p e s m below meth c T H
  show Go p e below _ (T.setTop (mkF m 0 #[.val (.ref p0)] []))
  refine G.aloadN H dc_prog_14_method_4_code_0 (pc' := 1) rfl rfl rfl ?_
  refine G.callV H (m30_length V p0 p1 c0 x0 x1 x2 x3 x4 x5 x6 x7 h0 H.old f1 f2 f0 f3) (wd40 V) (wd41 V) (nf_sel (wd43 V)) (wd43 V) (wd42 V) (wd5 V) (wd44 V) (by decide) f0 (argsL := []) (rest := []) (W := 0) rfl rfl (lenOf (pd_4) rfl) rfl rfl dc_prog_14_method_4_code_1 (pc' := 4) rfl (by decide) (by decide) (by decide) (by decide) all0 ?_
  intro T1 h1_ v2 s3 H1 Q4
  obtain ⟨rfl, rfl, rfl⟩ := Q4
  show Go p e below _ (T1.setTop (mkF m 4 #[.val (.ref p0)] [(.int (8 : Int32))]))
  refine G.ldcS H1 trivial (wS V) (wd50 V) (by decide) (vs := [(.int (48 : Int32)), (.int (48 : Int32)), (.int (48 : Int32)), (.int (48 : Int32)), (.int (45 : Int32)), (.int (48 : Int32)), (.int (48 : Int32)), (.int (45 : Int32)), (.int (48 : Int32)), (.int (48 : Int32))]) (z := (10 : Int32)) (by decide) (by decide) rfl (n := 40) (by decide) (by decide) (by decide) (by decide) dc_prog_14_method_4_code_4 (pc' := 6) rfl ?_
  intro T5 h5_ a6 b8 k9 H5 E7 X10 F11 F12 A13 Q14
  have S15 : Str Z h5_ a6 b8 k9 [(48 : Int32), (48 : Int32), (48 : Int32), (48 : Int32), (45 : Int32), (48 : Int32), (48 : Int32), (45 : Int32), (48 : Int32), (48 : Int32)] := ⟨X10, F11, F12, A13, by decide, by decide⟩
  show Go p e below _ (T5.setTop (mkF m 6 #[.val (.ref p0)] [(.ref a6), (.int (8 : Int32))]))
  refine G.callV H5 (m6_length V a6 b8 k9 h5_ H5.old F12 A13 X10 F11) (wd40 V) (wd41 V) (nf_sel (wd43 V)) (wd43 V) (wd42 V) (wd5 V) (wd44 V) (by decide) X10 (argsL := []) (rest := [(.int (8 : Int32))]) (W := 1) rfl rfl (lenOf (pd_4) rfl) rfl rfl dc_prog_14_method_4_code_6 (pc' := 9) rfl (by decide) (by decide) (by decide) (by decide) all0 ?_
  intro T16 h16_ v17 s18 H16 Q19
  obtain ⟨rfl, rfl, rfl⟩ := Q19
  show Go p e below _ (T16.setTop (mkF m 9 #[.val (.ref p0)] [(.int (10 : Int32)), (.int (8 : Int32))]))
  refine G.icmpYes H16 dc_prog_14_method_4_code_9 (by decide) (by decide) (pc' := 16) rfl ?_
  refine G.iconst H16 dc_prog_14_method_4_code_16 (pc' := 17) rfl (v := (0 : Int32)) rfl ?_
  have K20 : Keep h0 h5_ [] := (Keep.ext (Keep.refl h0 []) E7)
  exact G.retN H16 (t := .boolean) rfl (by decide) dc_prog_14_method_4_code_17 (so := []) all0 (by decide) (by decide) ⟨rfl, rfl, K20⟩
set_option maxRecDepth 65536 in
set_option maxHeartbeats 40000000 in
theorem m32_prefix {l : Launch} {Z : State} {a0 : Array Value} {n0 : Nat} {z_COMPACT_STRINGS : Int32} {z_SIOOBE_FORMATTER : Value} (V : Env1 Z a0 n0 z_COMPACT_STRINGS z_SIOOBE_FORMATTER) (p0 : Addr) (c0 : ClassId) (x0 : Int32) (x1 : Int32) (x2 : Int32) (x3 : Int32) (x4 : Int32) (x5 : Int32) (x6 : Int32) (x7 : Int32) (x8 : Int32) (x9 : Int32) (x10 : Int32) (x11 : Int32) (x12 : Int32) (x13 : Int32) (x14 : Int32) (x15 : Int32) (x16 : Int32) (x17 : Int32) (x18 : Int32) (x19 : Int32) (h0 : Heap) (hO : Old Z n0 h0) (f0 : Arv Z h0 p0 c0 .char (20 : Int32) [(.int x0), (.int x1), (.int x2), (.int x3), (.int x4), (.int x5), (.int x6), (.int x7), (.int x8), (.int x9), (.int x10), (.int x11), (.int x12), (.int x13), (.int x14), (.int x15), (.int x16), (.int x17), (.int x18), (.int x19)] (.int 0)) (r1 : ¬ x8 < 0 ∧ ¬ (65535 : Int32) < x8) (r2 : ¬ x7 < 0 ∧ ¬ (65535 : Int32) < x7) (r3 : ¬ x6 < 0 ∧ ¬ (65535 : Int32) < x6) (r4 : ¬ x5 < 0 ∧ ¬ (65535 : Int32) < x5) (r5 : ¬ x4 < 0 ∧ ¬ (65535 : Int32) < x4) (r6 : ¬ x3 < 0 ∧ ¬ (65535 : Int32) < x3) (r7 : ¬ x2 < 0 ∧ ¬ (65535 : Int32) < x2) (r8 : ¬ x1 < 0 ∧ ¬ (65535 : Int32) < x1) (r9 : ¬ x0 < 0 ∧ ¬ (65535 : Int32) < x0) :
    Met Z a0 ELs True n0 l (⟨"com/example/tenure/tenure/DaysUntimedPinLaw", "prefix", "([CI)[C"⟩ : MethodName) method_3_code 3 (Option.some (FieldType.array FieldType.char)) ({ frames := 0, cells := 1, slots := 9, locals := 0 } : Room) #[(.ref p0), (.int (9 : Int32))] h0 [] (fun v h so => (∃ a2 : Addr, ∃ k5 : ClassId, v = some (.ref a2) ∧ so = [] ∧ Keep h0 h [] ∧ h0.size ≤ a2 ∧ Arv Z h a2 k5 .char (9 : Int32) [(.int x0), (.int x1), (.int x2), (.int x3), (.int x4), (.int x5), (.int x6), (.int x7), (.int x8)] (.int 0))) := by
  refine Met.of (EWl V) (by first | decide +kernel | rfl) hO (L0 := #[.val (.ref p0), .val (.int (9 : Int32)), .unset]) rfl ?_
  intro p e s m below meth c T H
  show Go p e below _ (T.setTop (mkF m 0 #[.val (.ref p0), .val (.int (9 : Int32)), .unset] []))
  refine G.iloadN H dc_method_3_code_0 (pc' := 1) rfl rfl ?_
  refine G.newP H (aty := .char) (wd0 V) dc_method_3_code_1 (pc' := 3) rfl (by decide) (cap := 9) (by decide) (by decide) (by decide) (by decide) (vs := [(.int (0 : Int32)), (.int (0 : Int32)), (.int (0 : Int32)), (.int (0 : Int32)), (.int (0 : Int32)), (.int (0 : Int32)), (.int (0 : Int32)), (.int (0 : Int32)), (.int (0 : Int32))]) rfl ?_
  intro T1 h1_ a2 k5 ga2 H1 E3 A4
  have na2 : n0 ≤ a2 := Nat.le_trans H.le (Nat.le_of_eq ga2.symm)
  replace A4 : Arv Z h1_ a2 k5 .char (9 : Int32) [(.int (0 : Int32)), (.int (0 : Int32)), (.int (0 : Int32)), (.int (0 : Int32)), (.int (0 : Int32)), (.int (0 : Int32)), (.int (0 : Int32)), (.int (0 : Int32)), (.int (0 : Int32))] (.int 0) := A4
  show Go p e below _ (T1.setTop (mkF m 3 #[.val (.ref p0), .val (.int (9 : Int32)), .unset] [(.ref a2)]))
  refine G.astoreN H1 (L' := #[.val (.ref p0), .val (.int (9 : Int32)), .val (.ref a2)]) dc_method_3_code_3 (pc' := 4) rfl rfl rfl ?_
  refine G.iloadN H1 dc_method_3_code_4 (pc' := 5) rfl rfl ?_
  refine G.tswIn H1 dc_method_3_code_5 (by decide) (o := 183) rfl (by decide) (pc' := 188) rfl ?_
  refine G.aloadN H1 dc_method_3_code_188 (pc' := 189) rfl rfl rfl ?_
  refine G.bipush H1 dc_method_3_code_189 (pc' := 191) rfl (v := (8 : Int32)) rfl ?_
  refine G.aloadN H1 dc_method_3_code_191 (pc' := 192) rfl rfl rfl ?_
  refine G.bipush H1 dc_method_3_code_192 (pc' := 194) rfl (v := (8 : Int32)) rfl ?_
  have F6 : Arv Z h1_ p0 c0 .char (20 : Int32) [(.int x0), (.int x1), (.int x2), (.int x3), (.int x4), (.int x5), (.int x6), (.int x7), (.int x8), (.int x9), (.int x10), (.int x11), (.int x12), (.int x13), (.int x14), (.int x15), (.int x16), (.int x17), (.int x18), (.int x19)] (.int 0) := (Arv.ext f0 E3)
  refine G.caloadG H1 F6 (j := (8 : Int32)) (v := (.int x8)) (by decide) rfl dc_method_3_code_194 (pc' := 195) rfl ?_
  refine G.stC H1 A4 (by decide) (i := 8) rfl (Nat.le_of_ble_eq_true rfl) na2 (y := x8) (own_narC r1) dc_method_3_code_195 (pc' := 196) rfl ?_
  intro T7 h7_ H7 W8 A9
  replace A9 : Arv Z h7_ a2 k5 .char (9 : Int32) [(.int (0 : Int32)), (.int (0 : Int32)), (.int (0 : Int32)), (.int (0 : Int32)), (.int (0 : Int32)), (.int (0 : Int32)), (.int (0 : Int32)), (.int (0 : Int32)), (.int x8)] (.int 0) := A9
  show Go p e below _ (T7.setTop (mkF m 196 #[.val (.ref p0), .val (.int (9 : Int32)), .val (.ref a2)] []))
  refine G.aloadN H7 dc_method_3_code_196 (pc' := 197) rfl rfl rfl ?_
  refine G.bipush H7 dc_method_3_code_197 (pc' := 199) rfl (v := (7 : Int32)) rfl ?_
  refine G.aloadN H7 dc_method_3_code_199 (pc' := 200) rfl rfl rfl ?_
  refine G.bipush H7 dc_method_3_code_200 (pc' := 202) rfl (v := (7 : Int32)) rfl ?_
  have N10 : p0 ≠ a2 := (Nat.ne_of_lt (Nat.lt_of_lt_of_le f0.lt (Nat.le_of_eq ga2.symm)))
  have F11 : Arv Z h7_ p0 c0 .char (20 : Int32) [(.int x0), (.int x1), (.int x2), (.int x3), (.int x4), (.int x5), (.int x6), (.int x7), (.int x8), (.int x9), (.int x10), (.int x11), (.int x12), (.int x13), (.int x14), (.int x15), (.int x16), (.int x17), (.int x18), (.int x19)] (.int 0) := (Arv.other F6 W8 N10)
  refine G.caloadG H7 F11 (j := (7 : Int32)) (v := (.int x7)) (by decide) rfl dc_method_3_code_202 (pc' := 203) rfl ?_
  refine G.stC H7 A9 (by decide) (i := 7) rfl (Nat.le_of_ble_eq_true rfl) na2 (y := x7) (own_narC r2) dc_method_3_code_203 (pc' := 204) rfl ?_
  intro T12 h12_ H12 W13 A14
  replace A14 : Arv Z h12_ a2 k5 .char (9 : Int32) [(.int (0 : Int32)), (.int (0 : Int32)), (.int (0 : Int32)), (.int (0 : Int32)), (.int (0 : Int32)), (.int (0 : Int32)), (.int (0 : Int32)), (.int x7), (.int x8)] (.int 0) := A14
  show Go p e below _ (T12.setTop (mkF m 204 #[.val (.ref p0), .val (.int (9 : Int32)), .val (.ref a2)] []))
  refine G.aloadN H12 dc_method_3_code_204 (pc' := 205) rfl rfl rfl ?_
  refine G.bipush H12 dc_method_3_code_205 (pc' := 207) rfl (v := (6 : Int32)) rfl ?_
  refine G.aloadN H12 dc_method_3_code_207 (pc' := 208) rfl rfl rfl ?_
  refine G.bipush H12 dc_method_3_code_208 (pc' := 210) rfl (v := (6 : Int32)) rfl ?_
  have F15 : Arv Z h12_ p0 c0 .char (20 : Int32) [(.int x0), (.int x1), (.int x2), (.int x3), (.int x4), (.int x5), (.int x6), (.int x7), (.int x8), (.int x9), (.int x10), (.int x11), (.int x12), (.int x13), (.int x14), (.int x15), (.int x16), (.int x17), (.int x18), (.int x19)] (.int 0) := (Arv.other F11 W13 N10)
  refine G.caloadG H12 F15 (j := (6 : Int32)) (v := (.int x6)) (by decide) rfl dc_method_3_code_210 (pc' := 211) rfl ?_
  refine G.stC H12 A14 (by decide) (i := 6) rfl (Nat.le_of_ble_eq_true rfl) na2 (y := x6) (own_narC r3) dc_method_3_code_211 (pc' := 212) rfl ?_
  intro T16 h16_ H16 W17 A18
  replace A18 : Arv Z h16_ a2 k5 .char (9 : Int32) [(.int (0 : Int32)), (.int (0 : Int32)), (.int (0 : Int32)), (.int (0 : Int32)), (.int (0 : Int32)), (.int (0 : Int32)), (.int x6), (.int x7), (.int x8)] (.int 0) := A18
  show Go p e below _ (T16.setTop (mkF m 212 #[.val (.ref p0), .val (.int (9 : Int32)), .val (.ref a2)] []))
  refine G.aloadN H16 dc_method_3_code_212 (pc' := 213) rfl rfl rfl ?_
  refine G.iconst H16 dc_method_3_code_213 (pc' := 214) rfl (v := (5 : Int32)) rfl ?_
  refine G.aloadN H16 dc_method_3_code_214 (pc' := 215) rfl rfl rfl ?_
  refine G.iconst H16 dc_method_3_code_215 (pc' := 216) rfl (v := (5 : Int32)) rfl ?_
  have F19 : Arv Z h16_ p0 c0 .char (20 : Int32) [(.int x0), (.int x1), (.int x2), (.int x3), (.int x4), (.int x5), (.int x6), (.int x7), (.int x8), (.int x9), (.int x10), (.int x11), (.int x12), (.int x13), (.int x14), (.int x15), (.int x16), (.int x17), (.int x18), (.int x19)] (.int 0) := (Arv.other F15 W17 N10)
  refine G.caloadG H16 F19 (j := (5 : Int32)) (v := (.int x5)) (by decide) rfl dc_method_3_code_216 (pc' := 217) rfl ?_
  refine G.stC H16 A18 (by decide) (i := 5) rfl (Nat.le_of_ble_eq_true rfl) na2 (y := x5) (own_narC r4) dc_method_3_code_217 (pc' := 218) rfl ?_
  intro T20 h20_ H20 W21 A22
  replace A22 : Arv Z h20_ a2 k5 .char (9 : Int32) [(.int (0 : Int32)), (.int (0 : Int32)), (.int (0 : Int32)), (.int (0 : Int32)), (.int (0 : Int32)), (.int x5), (.int x6), (.int x7), (.int x8)] (.int 0) := A22
  show Go p e below _ (T20.setTop (mkF m 218 #[.val (.ref p0), .val (.int (9 : Int32)), .val (.ref a2)] []))
  refine G.aloadN H20 dc_method_3_code_218 (pc' := 219) rfl rfl rfl ?_
  refine G.iconst H20 dc_method_3_code_219 (pc' := 220) rfl (v := (4 : Int32)) rfl ?_
  refine G.aloadN H20 dc_method_3_code_220 (pc' := 221) rfl rfl rfl ?_
  refine G.iconst H20 dc_method_3_code_221 (pc' := 222) rfl (v := (4 : Int32)) rfl ?_
  have F23 : Arv Z h20_ p0 c0 .char (20 : Int32) [(.int x0), (.int x1), (.int x2), (.int x3), (.int x4), (.int x5), (.int x6), (.int x7), (.int x8), (.int x9), (.int x10), (.int x11), (.int x12), (.int x13), (.int x14), (.int x15), (.int x16), (.int x17), (.int x18), (.int x19)] (.int 0) := (Arv.other F19 W21 N10)
  refine G.caloadG H20 F23 (j := (4 : Int32)) (v := (.int x4)) (by decide) rfl dc_method_3_code_222 (pc' := 223) rfl ?_
  refine G.stC H20 A22 (by decide) (i := 4) rfl (Nat.le_of_ble_eq_true rfl) na2 (y := x4) (own_narC r5) dc_method_3_code_223 (pc' := 224) rfl ?_
  intro T24 h24_ H24 W25 A26
  replace A26 : Arv Z h24_ a2 k5 .char (9 : Int32) [(.int (0 : Int32)), (.int (0 : Int32)), (.int (0 : Int32)), (.int (0 : Int32)), (.int x4), (.int x5), (.int x6), (.int x7), (.int x8)] (.int 0) := A26
  show Go p e below _ (T24.setTop (mkF m 224 #[.val (.ref p0), .val (.int (9 : Int32)), .val (.ref a2)] []))
  refine G.aloadN H24 dc_method_3_code_224 (pc' := 225) rfl rfl rfl ?_
  refine G.iconst H24 dc_method_3_code_225 (pc' := 226) rfl (v := (3 : Int32)) rfl ?_
  refine G.aloadN H24 dc_method_3_code_226 (pc' := 227) rfl rfl rfl ?_
  refine G.iconst H24 dc_method_3_code_227 (pc' := 228) rfl (v := (3 : Int32)) rfl ?_
  have F27 : Arv Z h24_ p0 c0 .char (20 : Int32) [(.int x0), (.int x1), (.int x2), (.int x3), (.int x4), (.int x5), (.int x6), (.int x7), (.int x8), (.int x9), (.int x10), (.int x11), (.int x12), (.int x13), (.int x14), (.int x15), (.int x16), (.int x17), (.int x18), (.int x19)] (.int 0) := (Arv.other F23 W25 N10)
  refine G.caloadG H24 F27 (j := (3 : Int32)) (v := (.int x3)) (by decide) rfl dc_method_3_code_228 (pc' := 229) rfl ?_
  refine G.stC H24 A26 (by decide) (i := 3) rfl (Nat.le_of_ble_eq_true rfl) na2 (y := x3) (own_narC r6) dc_method_3_code_229 (pc' := 230) rfl ?_
  intro T28 h28_ H28 W29 A30
  replace A30 : Arv Z h28_ a2 k5 .char (9 : Int32) [(.int (0 : Int32)), (.int (0 : Int32)), (.int (0 : Int32)), (.int x3), (.int x4), (.int x5), (.int x6), (.int x7), (.int x8)] (.int 0) := A30
  show Go p e below _ (T28.setTop (mkF m 230 #[.val (.ref p0), .val (.int (9 : Int32)), .val (.ref a2)] []))
  refine G.aloadN H28 dc_method_3_code_230 (pc' := 231) rfl rfl rfl ?_
  refine G.iconst H28 dc_method_3_code_231 (pc' := 232) rfl (v := (2 : Int32)) rfl ?_
  refine G.aloadN H28 dc_method_3_code_232 (pc' := 233) rfl rfl rfl ?_
  refine G.iconst H28 dc_method_3_code_233 (pc' := 234) rfl (v := (2 : Int32)) rfl ?_
  have F31 : Arv Z h28_ p0 c0 .char (20 : Int32) [(.int x0), (.int x1), (.int x2), (.int x3), (.int x4), (.int x5), (.int x6), (.int x7), (.int x8), (.int x9), (.int x10), (.int x11), (.int x12), (.int x13), (.int x14), (.int x15), (.int x16), (.int x17), (.int x18), (.int x19)] (.int 0) := (Arv.other F27 W29 N10)
  refine G.caloadG H28 F31 (j := (2 : Int32)) (v := (.int x2)) (by decide) rfl dc_method_3_code_234 (pc' := 235) rfl ?_
  refine G.stC H28 A30 (by decide) (i := 2) rfl (Nat.le_of_ble_eq_true rfl) na2 (y := x2) (own_narC r7) dc_method_3_code_235 (pc' := 236) rfl ?_
  intro T32 h32_ H32 W33 A34
  replace A34 : Arv Z h32_ a2 k5 .char (9 : Int32) [(.int (0 : Int32)), (.int (0 : Int32)), (.int x2), (.int x3), (.int x4), (.int x5), (.int x6), (.int x7), (.int x8)] (.int 0) := A34
  show Go p e below _ (T32.setTop (mkF m 236 #[.val (.ref p0), .val (.int (9 : Int32)), .val (.ref a2)] []))
  refine G.aloadN H32 dc_method_3_code_236 (pc' := 237) rfl rfl rfl ?_
  refine G.iconst H32 dc_method_3_code_237 (pc' := 238) rfl (v := (1 : Int32)) rfl ?_
  refine G.aloadN H32 dc_method_3_code_238 (pc' := 239) rfl rfl rfl ?_
  refine G.iconst H32 dc_method_3_code_239 (pc' := 240) rfl (v := (1 : Int32)) rfl ?_
  have F35 : Arv Z h32_ p0 c0 .char (20 : Int32) [(.int x0), (.int x1), (.int x2), (.int x3), (.int x4), (.int x5), (.int x6), (.int x7), (.int x8), (.int x9), (.int x10), (.int x11), (.int x12), (.int x13), (.int x14), (.int x15), (.int x16), (.int x17), (.int x18), (.int x19)] (.int 0) := (Arv.other F31 W33 N10)
  refine G.caloadG H32 F35 (j := (1 : Int32)) (v := (.int x1)) (by decide) rfl dc_method_3_code_240 (pc' := 241) rfl ?_
  refine G.stC H32 A34 (by decide) (i := 1) rfl (Nat.le_of_ble_eq_true rfl) na2 (y := x1) (own_narC r8) dc_method_3_code_241 (pc' := 242) rfl ?_
  intro T36 h36_ H36 W37 A38
  replace A38 : Arv Z h36_ a2 k5 .char (9 : Int32) [(.int (0 : Int32)), (.int x1), (.int x2), (.int x3), (.int x4), (.int x5), (.int x6), (.int x7), (.int x8)] (.int 0) := A38
  show Go p e below _ (T36.setTop (mkF m 242 #[.val (.ref p0), .val (.int (9 : Int32)), .val (.ref a2)] []))
  refine G.aloadN H36 dc_method_3_code_242 (pc' := 243) rfl rfl rfl ?_
  refine G.iconst H36 dc_method_3_code_243 (pc' := 244) rfl (v := (0 : Int32)) rfl ?_
  refine G.aloadN H36 dc_method_3_code_244 (pc' := 245) rfl rfl rfl ?_
  refine G.iconst H36 dc_method_3_code_245 (pc' := 246) rfl (v := (0 : Int32)) rfl ?_
  have F39 : Arv Z h36_ p0 c0 .char (20 : Int32) [(.int x0), (.int x1), (.int x2), (.int x3), (.int x4), (.int x5), (.int x6), (.int x7), (.int x8), (.int x9), (.int x10), (.int x11), (.int x12), (.int x13), (.int x14), (.int x15), (.int x16), (.int x17), (.int x18), (.int x19)] (.int 0) := (Arv.other F35 W37 N10)
  refine G.caloadG H36 F39 (j := (0 : Int32)) (v := (.int x0)) (by decide) rfl dc_method_3_code_246 (pc' := 247) rfl ?_
  refine G.stC H36 A38 (by decide) (i := 0) rfl (Nat.le_of_ble_eq_true rfl) na2 (y := x0) (own_narC r9) dc_method_3_code_247 (pc' := 248) rfl ?_
  intro T40 h40_ H40 W41 A42
  replace A42 : Arv Z h40_ a2 k5 .char (9 : Int32) [(.int x0), (.int x1), (.int x2), (.int x3), (.int x4), (.int x5), (.int x6), (.int x7), (.int x8)] (.int 0) := A42
  show Go p e below _ (T40.setTop (mkF m 248 #[.val (.ref p0), .val (.int (9 : Int32)), .val (.ref a2)] []))
  refine G.aloadN H40 dc_method_3_code_248 (pc' := 249) rfl rfl rfl ?_
  have K43 : Keep h0 h40_ [] := (Keep.wr (Keep.wr (Keep.wr (Keep.wr (Keep.wr (Keep.wr (Keep.wr (Keep.wr (Keep.wr (Keep.ext (Keep.refl h0 []) E3) W8 (Or.inr (Nat.le_of_eq ga2.symm))) W13 (Or.inr (Nat.le_of_eq ga2.symm))) W17 (Or.inr (Nat.le_of_eq ga2.symm))) W21 (Or.inr (Nat.le_of_eq ga2.symm))) W25 (Or.inr (Nat.le_of_eq ga2.symm))) W29 (Or.inr (Nat.le_of_eq ga2.symm))) W33 (Or.inr (Nat.le_of_eq ga2.symm))) W37 (Or.inr (Nat.le_of_eq ga2.symm))) W41 (Or.inr (Nat.le_of_eq ga2.symm)))
  exact G.retA H40 (t := (.array .char)) rfl rfl rfl dc_method_3_code_249 (so := []) all0 (by decide) (by decide) ⟨a2, k5, rfl, rfl, K43, (Nat.le_of_eq ga2.symm), A42⟩
set_option maxRecDepth 65536 in
set_option maxHeartbeats 40000000 in
theorem m33_length {l : Launch} {Z : State} {a0 : Array Value} {n0 : Nat} {z_COMPACT_STRINGS : Int32} {z_SIOOBE_FORMATTER : Value} (V : Env1 Z a0 n0 z_COMPACT_STRINGS z_SIOOBE_FORMATTER) (p0 : Addr) (p1 : Addr) (c0 : ClassId) (x0 : Int32) (x1 : Int32) (x2 : Int32) (x3 : Int32) (x4 : Int32) (x5 : Int32) (x6 : Int32) (x7 : Int32) (x8 : Int32) (h0 : Heap) (hO : Old Z n0 h0) (f0 : Fld Z h0 p0 "java/lang/String" "value" "[B" (.ref p1)) (f1 : Arv Z h0 p1 c0 .byte (9 : Int32) [(.int x0), (.int x1), (.int x2), (.int x3), (.int x4), (.int x5), (.int x6), (.int x7), (.int x8)] (.int 0)) (f2 : Exa Z h0 p0 "java/lang/String") (f3 : Fld Z h0 p0 "java/lang/String" "coder" "B" (.int (0 : Int32))) :
    Met Z a0 ELs True n0 l (⟨"java/lang/String", "length", "()I"⟩ : MethodName) jdk_42_method_54_code 1 (Option.some FieldType.int) ({ frames := 1, cells := 0, slots := 0, locals := 13 } : Room) #[(.ref p0)] h0 [] (fun v h so => (v = some (.int (9 : Int32)) ∧ so = [] ∧ h0 = h)) := by
  refine Met.of (EWl V) (by first | decide +kernel | rfl) hO (L0 := #[.val (.ref p0)]) rfl ?_
  intro p e s m below meth c T H
  show Go p e below _ (T.setTop (mkF m 0 #[.val (.ref p0)] []))
  refine G.aloadN H dc_jdk_42_method_54_code_0 (pc' := 1) rfl rfl rfl ?_
  refine G.getF H (wd34 V) Via.refl f0 dc_jdk_42_method_54_code_1 (pc' := 4) rfl ?_
  intro T1 H2
  refine G.arrlen H2 f1 dc_jdk_42_method_54_code_4 (pc' := 5) rfl ?_
  refine G.aloadN H2 dc_jdk_42_method_54_code_5 (pc' := 6) rfl rfl rfl ?_
  refine G.callV H2 (m4_coder V p0 h0 H2.old f3) (wd45 V) (wd46 V) (nf_sel (wd48 V)) (wd48 V) (wd47 V) (wd5 V) (wd49 V) (by decide) f2 (argsL := []) (rest := [(.int (9 : Int32))]) (W := 1) rfl rfl (lenOf (pd_3) rfl) rfl rfl dc_jdk_42_method_54_code_6 (pc' := 9) rfl (by decide) (by decide) (by decide) (by decide) all0 ?_
  intro T3 h3_ v4 s5 H3 Q6
  obtain ⟨rfl, rfl, rfl⟩ := Q6
  show Go p e below _ (T3.setTop (mkF m 9 #[.val (.ref p0)] [(.int (0 : Int32)), (.int (9 : Int32))]))
  refine G.ishr H3 dc_jdk_42_method_54_code_9 (pc' := 10) rfl ?_
  show Go p e below _ (T3.setTop (mkF m 10 #[.val (.ref p0)] [(.int (9 : Int32))]))
  exact G.retI H3 rfl dc_jdk_42_method_54_code_10 (so := []) all0 (by decide) (by decide) ⟨rfl, rfl, rfl⟩
set_option maxRecDepth 65536 in
set_option maxHeartbeats 40000000 in
theorem m34_untimed {l : Launch} {Z : State} {a0 : Array Value} {n0 : Nat} {z_COMPACT_STRINGS : Int32} {z_SIOOBE_FORMATTER : Value} (V : Env1 Z a0 n0 z_COMPACT_STRINGS z_SIOOBE_FORMATTER) (p0 : Addr) (p1 : Addr) (c0 : ClassId) (x0 : Int32) (x1 : Int32) (x2 : Int32) (x3 : Int32) (x4 : Int32) (x5 : Int32) (x6 : Int32) (x7 : Int32) (x8 : Int32) (h0 : Heap) (hO : Old Z n0 h0) (f0 : Exa Z h0 p0 "java/lang/String") (f1 : Fld Z h0 p0 "java/lang/String" "value" "[B" (.ref p1)) (f2 : Arv Z h0 p1 c0 .byte (9 : Int32) [(.int x0), (.int x1), (.int x2), (.int x3), (.int x4), (.int x5), (.int x6), (.int x7), (.int x8)] (.int 0)) (f3 : Fld Z h0 p0 "java/lang/String" "coder" "B" (.int (0 : Int32))) :
    Met Z a0 ELs True n0 l (⟨"com/example/tenure/tenure/Days", "untimed", "(Ljava/lang/String;)Z"⟩ : MethodName) prog_14_method_4_code 1 (Option.some FieldType.boolean) ({ frames := 2, cells := 2, slots := 44, locals := 26 } : Room) #[(.ref p0)] h0 [p0, p1] (fun v h so => (v = some (.int (0 : Int32)) ∧ so = [] ∧ Keep h0 h [])) := by
  refine Met.of (EWl V) (by first | decide +kernel | rfl) hO (L0 := #[.val (.ref p0)]) rfl ?_
  intro p e s m below meth c T H
  show Go p e below _ (T.setTop (mkF m 0 #[.val (.ref p0)] []))
  refine G.aloadN H dc_prog_14_method_4_code_0 (pc' := 1) rfl rfl rfl ?_
  refine G.callV H (m33_length V p0 p1 c0 x0 x1 x2 x3 x4 x5 x6 x7 x8 h0 H.old f1 f2 f0 f3) (wd40 V) (wd41 V) (nf_sel (wd43 V)) (wd43 V) (wd42 V) (wd5 V) (wd44 V) (by decide) f0 (argsL := []) (rest := []) (W := 0) rfl rfl (lenOf (pd_4) rfl) rfl rfl dc_prog_14_method_4_code_1 (pc' := 4) rfl (by decide) (by decide) (by decide) (by decide) all0 ?_
  intro T1 h1_ v2 s3 H1 Q4
  obtain ⟨rfl, rfl, rfl⟩ := Q4
  show Go p e below _ (T1.setTop (mkF m 4 #[.val (.ref p0)] [(.int (9 : Int32))]))
  refine G.ldcS H1 trivial (wS V) (wd50 V) (by decide) (vs := [(.int (48 : Int32)), (.int (48 : Int32)), (.int (48 : Int32)), (.int (48 : Int32)), (.int (45 : Int32)), (.int (48 : Int32)), (.int (48 : Int32)), (.int (45 : Int32)), (.int (48 : Int32)), (.int (48 : Int32))]) (z := (10 : Int32)) (by decide) (by decide) rfl (n := 40) (by decide) (by decide) (by decide) (by decide) dc_prog_14_method_4_code_4 (pc' := 6) rfl ?_
  intro T5 h5_ a6 b8 k9 H5 E7 X10 F11 F12 A13 Q14
  have S15 : Str Z h5_ a6 b8 k9 [(48 : Int32), (48 : Int32), (48 : Int32), (48 : Int32), (45 : Int32), (48 : Int32), (48 : Int32), (45 : Int32), (48 : Int32), (48 : Int32)] := ⟨X10, F11, F12, A13, by decide, by decide⟩
  show Go p e below _ (T5.setTop (mkF m 6 #[.val (.ref p0)] [(.ref a6), (.int (9 : Int32))]))
  refine G.callV H5 (m6_length V a6 b8 k9 h5_ H5.old F12 A13 X10 F11) (wd40 V) (wd41 V) (nf_sel (wd43 V)) (wd43 V) (wd42 V) (wd5 V) (wd44 V) (by decide) X10 (argsL := []) (rest := [(.int (9 : Int32))]) (W := 1) rfl rfl (lenOf (pd_4) rfl) rfl rfl dc_prog_14_method_4_code_6 (pc' := 9) rfl (by decide) (by decide) (by decide) (by decide) all0 ?_
  intro T16 h16_ v17 s18 H16 Q19
  obtain ⟨rfl, rfl, rfl⟩ := Q19
  show Go p e below _ (T16.setTop (mkF m 9 #[.val (.ref p0)] [(.int (10 : Int32)), (.int (9 : Int32))]))
  refine G.icmpYes H16 dc_prog_14_method_4_code_9 (by decide) (by decide) (pc' := 16) rfl ?_
  refine G.iconst H16 dc_prog_14_method_4_code_16 (pc' := 17) rfl (v := (0 : Int32)) rfl ?_
  have K20 : Keep h0 h5_ [] := (Keep.ext (Keep.refl h0 []) E7)
  exact G.retN H16 (t := .boolean) rfl (by decide) dc_prog_14_method_4_code_17 (so := []) all0 (by decide) (by decide) ⟨rfl, rfl, K20⟩
set_option maxRecDepth 65536 in
set_option maxHeartbeats 40000000 in
theorem m35_prefix {l : Launch} {Z : State} {a0 : Array Value} {n0 : Nat} {z_COMPACT_STRINGS : Int32} {z_SIOOBE_FORMATTER : Value} (V : Env1 Z a0 n0 z_COMPACT_STRINGS z_SIOOBE_FORMATTER) (p0 : Addr) (c0 : ClassId) (x0 : Int32) (x1 : Int32) (x2 : Int32) (x3 : Int32) (x4 : Int32) (x5 : Int32) (x6 : Int32) (x7 : Int32) (x8 : Int32) (x9 : Int32) (x10 : Int32) (x11 : Int32) (x12 : Int32) (x13 : Int32) (x14 : Int32) (x15 : Int32) (x16 : Int32) (x17 : Int32) (x18 : Int32) (x19 : Int32) (h0 : Heap) (hO : Old Z n0 h0) (f0 : Arv Z h0 p0 c0 .char (20 : Int32) [(.int x0), (.int x1), (.int x2), (.int x3), (.int x4), (.int x5), (.int x6), (.int x7), (.int x8), (.int x9), (.int x10), (.int x11), (.int x12), (.int x13), (.int x14), (.int x15), (.int x16), (.int x17), (.int x18), (.int x19)] (.int 0)) (r1 : ¬ x9 < 0 ∧ ¬ (65535 : Int32) < x9) (r2 : ¬ x8 < 0 ∧ ¬ (65535 : Int32) < x8) (r3 : ¬ x7 < 0 ∧ ¬ (65535 : Int32) < x7) (r4 : ¬ x6 < 0 ∧ ¬ (65535 : Int32) < x6) (r5 : ¬ x5 < 0 ∧ ¬ (65535 : Int32) < x5) (r6 : ¬ x4 < 0 ∧ ¬ (65535 : Int32) < x4) (r7 : ¬ x3 < 0 ∧ ¬ (65535 : Int32) < x3) (r8 : ¬ x2 < 0 ∧ ¬ (65535 : Int32) < x2) (r9 : ¬ x1 < 0 ∧ ¬ (65535 : Int32) < x1) (r10 : ¬ x0 < 0 ∧ ¬ (65535 : Int32) < x0) :
    Met Z a0 ELs True n0 l (⟨"com/example/tenure/tenure/DaysUntimedPinLaw", "prefix", "([CI)[C"⟩ : MethodName) method_3_code 3 (Option.some (FieldType.array FieldType.char)) ({ frames := 0, cells := 1, slots := 10, locals := 0 } : Room) #[(.ref p0), (.int (10 : Int32))] h0 [] (fun v h so => (∃ a2 : Addr, ∃ k5 : ClassId, v = some (.ref a2) ∧ so = [] ∧ Keep h0 h [] ∧ h0.size ≤ a2 ∧ Arv Z h a2 k5 .char (10 : Int32) [(.int x0), (.int x1), (.int x2), (.int x3), (.int x4), (.int x5), (.int x6), (.int x7), (.int x8), (.int x9)] (.int 0))) := by
  refine Met.of (EWl V) (by first | decide +kernel | rfl) hO (L0 := #[.val (.ref p0), .val (.int (10 : Int32)), .unset]) rfl ?_
  intro p e s m below meth c T H
  show Go p e below _ (T.setTop (mkF m 0 #[.val (.ref p0), .val (.int (10 : Int32)), .unset] []))
  refine G.iloadN H dc_method_3_code_0 (pc' := 1) rfl rfl ?_
  refine G.newP H (aty := .char) (wd0 V) dc_method_3_code_1 (pc' := 3) rfl (by decide) (cap := 10) (by decide) (by decide) (by decide) (by decide) (vs := [(.int (0 : Int32)), (.int (0 : Int32)), (.int (0 : Int32)), (.int (0 : Int32)), (.int (0 : Int32)), (.int (0 : Int32)), (.int (0 : Int32)), (.int (0 : Int32)), (.int (0 : Int32)), (.int (0 : Int32))]) rfl ?_
  intro T1 h1_ a2 k5 ga2 H1 E3 A4
  have na2 : n0 ≤ a2 := Nat.le_trans H.le (Nat.le_of_eq ga2.symm)
  replace A4 : Arv Z h1_ a2 k5 .char (10 : Int32) [(.int (0 : Int32)), (.int (0 : Int32)), (.int (0 : Int32)), (.int (0 : Int32)), (.int (0 : Int32)), (.int (0 : Int32)), (.int (0 : Int32)), (.int (0 : Int32)), (.int (0 : Int32)), (.int (0 : Int32))] (.int 0) := A4
  show Go p e below _ (T1.setTop (mkF m 3 #[.val (.ref p0), .val (.int (10 : Int32)), .unset] [(.ref a2)]))
  refine G.astoreN H1 (L' := #[.val (.ref p0), .val (.int (10 : Int32)), .val (.ref a2)]) dc_method_3_code_3 (pc' := 4) rfl rfl rfl ?_
  refine G.iloadN H1 dc_method_3_code_4 (pc' := 5) rfl rfl ?_
  refine G.tswIn H1 dc_method_3_code_5 (by decide) (o := 175) rfl (by decide) (pc' := 180) rfl ?_
  refine G.aloadN H1 dc_method_3_code_180 (pc' := 181) rfl rfl rfl ?_
  refine G.bipush H1 dc_method_3_code_181 (pc' := 183) rfl (v := (9 : Int32)) rfl ?_
  refine G.aloadN H1 dc_method_3_code_183 (pc' := 184) rfl rfl rfl ?_
  refine G.bipush H1 dc_method_3_code_184 (pc' := 186) rfl (v := (9 : Int32)) rfl ?_
  have F6 : Arv Z h1_ p0 c0 .char (20 : Int32) [(.int x0), (.int x1), (.int x2), (.int x3), (.int x4), (.int x5), (.int x6), (.int x7), (.int x8), (.int x9), (.int x10), (.int x11), (.int x12), (.int x13), (.int x14), (.int x15), (.int x16), (.int x17), (.int x18), (.int x19)] (.int 0) := (Arv.ext f0 E3)
  refine G.caloadG H1 F6 (j := (9 : Int32)) (v := (.int x9)) (by decide) rfl dc_method_3_code_186 (pc' := 187) rfl ?_
  refine G.stC H1 A4 (by decide) (i := 9) rfl (Nat.le_of_ble_eq_true rfl) na2 (y := x9) (own_narC r1) dc_method_3_code_187 (pc' := 188) rfl ?_
  intro T7 h7_ H7 W8 A9
  replace A9 : Arv Z h7_ a2 k5 .char (10 : Int32) [(.int (0 : Int32)), (.int (0 : Int32)), (.int (0 : Int32)), (.int (0 : Int32)), (.int (0 : Int32)), (.int (0 : Int32)), (.int (0 : Int32)), (.int (0 : Int32)), (.int (0 : Int32)), (.int x9)] (.int 0) := A9
  show Go p e below _ (T7.setTop (mkF m 188 #[.val (.ref p0), .val (.int (10 : Int32)), .val (.ref a2)] []))
  refine G.aloadN H7 dc_method_3_code_188 (pc' := 189) rfl rfl rfl ?_
  refine G.bipush H7 dc_method_3_code_189 (pc' := 191) rfl (v := (8 : Int32)) rfl ?_
  refine G.aloadN H7 dc_method_3_code_191 (pc' := 192) rfl rfl rfl ?_
  refine G.bipush H7 dc_method_3_code_192 (pc' := 194) rfl (v := (8 : Int32)) rfl ?_
  have N10 : p0 ≠ a2 := (Nat.ne_of_lt (Nat.lt_of_lt_of_le f0.lt (Nat.le_of_eq ga2.symm)))
  have F11 : Arv Z h7_ p0 c0 .char (20 : Int32) [(.int x0), (.int x1), (.int x2), (.int x3), (.int x4), (.int x5), (.int x6), (.int x7), (.int x8), (.int x9), (.int x10), (.int x11), (.int x12), (.int x13), (.int x14), (.int x15), (.int x16), (.int x17), (.int x18), (.int x19)] (.int 0) := (Arv.other F6 W8 N10)
  refine G.caloadG H7 F11 (j := (8 : Int32)) (v := (.int x8)) (by decide) rfl dc_method_3_code_194 (pc' := 195) rfl ?_
  refine G.stC H7 A9 (by decide) (i := 8) rfl (Nat.le_of_ble_eq_true rfl) na2 (y := x8) (own_narC r2) dc_method_3_code_195 (pc' := 196) rfl ?_
  intro T12 h12_ H12 W13 A14
  replace A14 : Arv Z h12_ a2 k5 .char (10 : Int32) [(.int (0 : Int32)), (.int (0 : Int32)), (.int (0 : Int32)), (.int (0 : Int32)), (.int (0 : Int32)), (.int (0 : Int32)), (.int (0 : Int32)), (.int (0 : Int32)), (.int x8), (.int x9)] (.int 0) := A14
  show Go p e below _ (T12.setTop (mkF m 196 #[.val (.ref p0), .val (.int (10 : Int32)), .val (.ref a2)] []))
  refine G.aloadN H12 dc_method_3_code_196 (pc' := 197) rfl rfl rfl ?_
  refine G.bipush H12 dc_method_3_code_197 (pc' := 199) rfl (v := (7 : Int32)) rfl ?_
  refine G.aloadN H12 dc_method_3_code_199 (pc' := 200) rfl rfl rfl ?_
  refine G.bipush H12 dc_method_3_code_200 (pc' := 202) rfl (v := (7 : Int32)) rfl ?_
  have F15 : Arv Z h12_ p0 c0 .char (20 : Int32) [(.int x0), (.int x1), (.int x2), (.int x3), (.int x4), (.int x5), (.int x6), (.int x7), (.int x8), (.int x9), (.int x10), (.int x11), (.int x12), (.int x13), (.int x14), (.int x15), (.int x16), (.int x17), (.int x18), (.int x19)] (.int 0) := (Arv.other F11 W13 N10)
  refine G.caloadG H12 F15 (j := (7 : Int32)) (v := (.int x7)) (by decide) rfl dc_method_3_code_202 (pc' := 203) rfl ?_
  refine G.stC H12 A14 (by decide) (i := 7) rfl (Nat.le_of_ble_eq_true rfl) na2 (y := x7) (own_narC r3) dc_method_3_code_203 (pc' := 204) rfl ?_
  intro T16 h16_ H16 W17 A18
  replace A18 : Arv Z h16_ a2 k5 .char (10 : Int32) [(.int (0 : Int32)), (.int (0 : Int32)), (.int (0 : Int32)), (.int (0 : Int32)), (.int (0 : Int32)), (.int (0 : Int32)), (.int (0 : Int32)), (.int x7), (.int x8), (.int x9)] (.int 0) := A18
  show Go p e below _ (T16.setTop (mkF m 204 #[.val (.ref p0), .val (.int (10 : Int32)), .val (.ref a2)] []))
  refine G.aloadN H16 dc_method_3_code_204 (pc' := 205) rfl rfl rfl ?_
  refine G.bipush H16 dc_method_3_code_205 (pc' := 207) rfl (v := (6 : Int32)) rfl ?_
  refine G.aloadN H16 dc_method_3_code_207 (pc' := 208) rfl rfl rfl ?_
  refine G.bipush H16 dc_method_3_code_208 (pc' := 210) rfl (v := (6 : Int32)) rfl ?_
  have F19 : Arv Z h16_ p0 c0 .char (20 : Int32) [(.int x0), (.int x1), (.int x2), (.int x3), (.int x4), (.int x5), (.int x6), (.int x7), (.int x8), (.int x9), (.int x10), (.int x11), (.int x12), (.int x13), (.int x14), (.int x15), (.int x16), (.int x17), (.int x18), (.int x19)] (.int 0) := (Arv.other F15 W17 N10)
  refine G.caloadG H16 F19 (j := (6 : Int32)) (v := (.int x6)) (by decide) rfl dc_method_3_code_210 (pc' := 211) rfl ?_
  refine G.stC H16 A18 (by decide) (i := 6) rfl (Nat.le_of_ble_eq_true rfl) na2 (y := x6) (own_narC r4) dc_method_3_code_211 (pc' := 212) rfl ?_
  intro T20 h20_ H20 W21 A22
  replace A22 : Arv Z h20_ a2 k5 .char (10 : Int32) [(.int (0 : Int32)), (.int (0 : Int32)), (.int (0 : Int32)), (.int (0 : Int32)), (.int (0 : Int32)), (.int (0 : Int32)), (.int x6), (.int x7), (.int x8), (.int x9)] (.int 0) := A22
  show Go p e below _ (T20.setTop (mkF m 212 #[.val (.ref p0), .val (.int (10 : Int32)), .val (.ref a2)] []))
  refine G.aloadN H20 dc_method_3_code_212 (pc' := 213) rfl rfl rfl ?_
  refine G.iconst H20 dc_method_3_code_213 (pc' := 214) rfl (v := (5 : Int32)) rfl ?_
  refine G.aloadN H20 dc_method_3_code_214 (pc' := 215) rfl rfl rfl ?_
  refine G.iconst H20 dc_method_3_code_215 (pc' := 216) rfl (v := (5 : Int32)) rfl ?_
  have F23 : Arv Z h20_ p0 c0 .char (20 : Int32) [(.int x0), (.int x1), (.int x2), (.int x3), (.int x4), (.int x5), (.int x6), (.int x7), (.int x8), (.int x9), (.int x10), (.int x11), (.int x12), (.int x13), (.int x14), (.int x15), (.int x16), (.int x17), (.int x18), (.int x19)] (.int 0) := (Arv.other F19 W21 N10)
  refine G.caloadG H20 F23 (j := (5 : Int32)) (v := (.int x5)) (by decide) rfl dc_method_3_code_216 (pc' := 217) rfl ?_
  refine G.stC H20 A22 (by decide) (i := 5) rfl (Nat.le_of_ble_eq_true rfl) na2 (y := x5) (own_narC r5) dc_method_3_code_217 (pc' := 218) rfl ?_
  intro T24 h24_ H24 W25 A26
  replace A26 : Arv Z h24_ a2 k5 .char (10 : Int32) [(.int (0 : Int32)), (.int (0 : Int32)), (.int (0 : Int32)), (.int (0 : Int32)), (.int (0 : Int32)), (.int x5), (.int x6), (.int x7), (.int x8), (.int x9)] (.int 0) := A26
  show Go p e below _ (T24.setTop (mkF m 218 #[.val (.ref p0), .val (.int (10 : Int32)), .val (.ref a2)] []))
  refine G.aloadN H24 dc_method_3_code_218 (pc' := 219) rfl rfl rfl ?_
  refine G.iconst H24 dc_method_3_code_219 (pc' := 220) rfl (v := (4 : Int32)) rfl ?_
  refine G.aloadN H24 dc_method_3_code_220 (pc' := 221) rfl rfl rfl ?_
  refine G.iconst H24 dc_method_3_code_221 (pc' := 222) rfl (v := (4 : Int32)) rfl ?_
  have F27 : Arv Z h24_ p0 c0 .char (20 : Int32) [(.int x0), (.int x1), (.int x2), (.int x3), (.int x4), (.int x5), (.int x6), (.int x7), (.int x8), (.int x9), (.int x10), (.int x11), (.int x12), (.int x13), (.int x14), (.int x15), (.int x16), (.int x17), (.int x18), (.int x19)] (.int 0) := (Arv.other F23 W25 N10)
  refine G.caloadG H24 F27 (j := (4 : Int32)) (v := (.int x4)) (by decide) rfl dc_method_3_code_222 (pc' := 223) rfl ?_
  refine G.stC H24 A26 (by decide) (i := 4) rfl (Nat.le_of_ble_eq_true rfl) na2 (y := x4) (own_narC r6) dc_method_3_code_223 (pc' := 224) rfl ?_
  intro T28 h28_ H28 W29 A30
  replace A30 : Arv Z h28_ a2 k5 .char (10 : Int32) [(.int (0 : Int32)), (.int (0 : Int32)), (.int (0 : Int32)), (.int (0 : Int32)), (.int x4), (.int x5), (.int x6), (.int x7), (.int x8), (.int x9)] (.int 0) := A30
  show Go p e below _ (T28.setTop (mkF m 224 #[.val (.ref p0), .val (.int (10 : Int32)), .val (.ref a2)] []))
  refine G.aloadN H28 dc_method_3_code_224 (pc' := 225) rfl rfl rfl ?_
  refine G.iconst H28 dc_method_3_code_225 (pc' := 226) rfl (v := (3 : Int32)) rfl ?_
  refine G.aloadN H28 dc_method_3_code_226 (pc' := 227) rfl rfl rfl ?_
  refine G.iconst H28 dc_method_3_code_227 (pc' := 228) rfl (v := (3 : Int32)) rfl ?_
  have F31 : Arv Z h28_ p0 c0 .char (20 : Int32) [(.int x0), (.int x1), (.int x2), (.int x3), (.int x4), (.int x5), (.int x6), (.int x7), (.int x8), (.int x9), (.int x10), (.int x11), (.int x12), (.int x13), (.int x14), (.int x15), (.int x16), (.int x17), (.int x18), (.int x19)] (.int 0) := (Arv.other F27 W29 N10)
  refine G.caloadG H28 F31 (j := (3 : Int32)) (v := (.int x3)) (by decide) rfl dc_method_3_code_228 (pc' := 229) rfl ?_
  refine G.stC H28 A30 (by decide) (i := 3) rfl (Nat.le_of_ble_eq_true rfl) na2 (y := x3) (own_narC r7) dc_method_3_code_229 (pc' := 230) rfl ?_
  intro T32 h32_ H32 W33 A34
  replace A34 : Arv Z h32_ a2 k5 .char (10 : Int32) [(.int (0 : Int32)), (.int (0 : Int32)), (.int (0 : Int32)), (.int x3), (.int x4), (.int x5), (.int x6), (.int x7), (.int x8), (.int x9)] (.int 0) := A34
  show Go p e below _ (T32.setTop (mkF m 230 #[.val (.ref p0), .val (.int (10 : Int32)), .val (.ref a2)] []))
  refine G.aloadN H32 dc_method_3_code_230 (pc' := 231) rfl rfl rfl ?_
  refine G.iconst H32 dc_method_3_code_231 (pc' := 232) rfl (v := (2 : Int32)) rfl ?_
  refine G.aloadN H32 dc_method_3_code_232 (pc' := 233) rfl rfl rfl ?_
  refine G.iconst H32 dc_method_3_code_233 (pc' := 234) rfl (v := (2 : Int32)) rfl ?_
  have F35 : Arv Z h32_ p0 c0 .char (20 : Int32) [(.int x0), (.int x1), (.int x2), (.int x3), (.int x4), (.int x5), (.int x6), (.int x7), (.int x8), (.int x9), (.int x10), (.int x11), (.int x12), (.int x13), (.int x14), (.int x15), (.int x16), (.int x17), (.int x18), (.int x19)] (.int 0) := (Arv.other F31 W33 N10)
  refine G.caloadG H32 F35 (j := (2 : Int32)) (v := (.int x2)) (by decide) rfl dc_method_3_code_234 (pc' := 235) rfl ?_
  refine G.stC H32 A34 (by decide) (i := 2) rfl (Nat.le_of_ble_eq_true rfl) na2 (y := x2) (own_narC r8) dc_method_3_code_235 (pc' := 236) rfl ?_
  intro T36 h36_ H36 W37 A38
  replace A38 : Arv Z h36_ a2 k5 .char (10 : Int32) [(.int (0 : Int32)), (.int (0 : Int32)), (.int x2), (.int x3), (.int x4), (.int x5), (.int x6), (.int x7), (.int x8), (.int x9)] (.int 0) := A38
  show Go p e below _ (T36.setTop (mkF m 236 #[.val (.ref p0), .val (.int (10 : Int32)), .val (.ref a2)] []))
  refine G.aloadN H36 dc_method_3_code_236 (pc' := 237) rfl rfl rfl ?_
  refine G.iconst H36 dc_method_3_code_237 (pc' := 238) rfl (v := (1 : Int32)) rfl ?_
  refine G.aloadN H36 dc_method_3_code_238 (pc' := 239) rfl rfl rfl ?_
  refine G.iconst H36 dc_method_3_code_239 (pc' := 240) rfl (v := (1 : Int32)) rfl ?_
  have F39 : Arv Z h36_ p0 c0 .char (20 : Int32) [(.int x0), (.int x1), (.int x2), (.int x3), (.int x4), (.int x5), (.int x6), (.int x7), (.int x8), (.int x9), (.int x10), (.int x11), (.int x12), (.int x13), (.int x14), (.int x15), (.int x16), (.int x17), (.int x18), (.int x19)] (.int 0) := (Arv.other F35 W37 N10)
  refine G.caloadG H36 F39 (j := (1 : Int32)) (v := (.int x1)) (by decide) rfl dc_method_3_code_240 (pc' := 241) rfl ?_
  refine G.stC H36 A38 (by decide) (i := 1) rfl (Nat.le_of_ble_eq_true rfl) na2 (y := x1) (own_narC r9) dc_method_3_code_241 (pc' := 242) rfl ?_
  intro T40 h40_ H40 W41 A42
  replace A42 : Arv Z h40_ a2 k5 .char (10 : Int32) [(.int (0 : Int32)), (.int x1), (.int x2), (.int x3), (.int x4), (.int x5), (.int x6), (.int x7), (.int x8), (.int x9)] (.int 0) := A42
  show Go p e below _ (T40.setTop (mkF m 242 #[.val (.ref p0), .val (.int (10 : Int32)), .val (.ref a2)] []))
  refine G.aloadN H40 dc_method_3_code_242 (pc' := 243) rfl rfl rfl ?_
  refine G.iconst H40 dc_method_3_code_243 (pc' := 244) rfl (v := (0 : Int32)) rfl ?_
  refine G.aloadN H40 dc_method_3_code_244 (pc' := 245) rfl rfl rfl ?_
  refine G.iconst H40 dc_method_3_code_245 (pc' := 246) rfl (v := (0 : Int32)) rfl ?_
  have F43 : Arv Z h40_ p0 c0 .char (20 : Int32) [(.int x0), (.int x1), (.int x2), (.int x3), (.int x4), (.int x5), (.int x6), (.int x7), (.int x8), (.int x9), (.int x10), (.int x11), (.int x12), (.int x13), (.int x14), (.int x15), (.int x16), (.int x17), (.int x18), (.int x19)] (.int 0) := (Arv.other F39 W41 N10)
  refine G.caloadG H40 F43 (j := (0 : Int32)) (v := (.int x0)) (by decide) rfl dc_method_3_code_246 (pc' := 247) rfl ?_
  refine G.stC H40 A42 (by decide) (i := 0) rfl (Nat.le_of_ble_eq_true rfl) na2 (y := x0) (own_narC r10) dc_method_3_code_247 (pc' := 248) rfl ?_
  intro T44 h44_ H44 W45 A46
  replace A46 : Arv Z h44_ a2 k5 .char (10 : Int32) [(.int x0), (.int x1), (.int x2), (.int x3), (.int x4), (.int x5), (.int x6), (.int x7), (.int x8), (.int x9)] (.int 0) := A46
  show Go p e below _ (T44.setTop (mkF m 248 #[.val (.ref p0), .val (.int (10 : Int32)), .val (.ref a2)] []))
  refine G.aloadN H44 dc_method_3_code_248 (pc' := 249) rfl rfl rfl ?_
  have K47 : Keep h0 h44_ [] := (Keep.wr (Keep.wr (Keep.wr (Keep.wr (Keep.wr (Keep.wr (Keep.wr (Keep.wr (Keep.wr (Keep.wr (Keep.ext (Keep.refl h0 []) E3) W8 (Or.inr (Nat.le_of_eq ga2.symm))) W13 (Or.inr (Nat.le_of_eq ga2.symm))) W17 (Or.inr (Nat.le_of_eq ga2.symm))) W21 (Or.inr (Nat.le_of_eq ga2.symm))) W25 (Or.inr (Nat.le_of_eq ga2.symm))) W29 (Or.inr (Nat.le_of_eq ga2.symm))) W33 (Or.inr (Nat.le_of_eq ga2.symm))) W37 (Or.inr (Nat.le_of_eq ga2.symm))) W41 (Or.inr (Nat.le_of_eq ga2.symm))) W45 (Or.inr (Nat.le_of_eq ga2.symm)))
  exact G.retA H44 (t := (.array .char)) rfl rfl rfl dc_method_3_code_249 (so := []) all0 (by decide) (by decide) ⟨a2, k5, rfl, rfl, K47, (Nat.le_of_eq ga2.symm), A46⟩
set_option maxRecDepth 65536 in
set_option maxHeartbeats 40000000 in
theorem m36_length {l : Launch} {Z : State} {a0 : Array Value} {n0 : Nat} {z_COMPACT_STRINGS : Int32} {z_SIOOBE_FORMATTER : Value} (V : Env1 Z a0 n0 z_COMPACT_STRINGS z_SIOOBE_FORMATTER) (p0 : Addr) (p1 : Addr) (c0 : ClassId) (x0 : Int32) (x1 : Int32) (x2 : Int32) (x3 : Int32) (x4 : Int32) (x5 : Int32) (x6 : Int32) (x7 : Int32) (x8 : Int32) (x9 : Int32) (h0 : Heap) (hO : Old Z n0 h0) (f0 : Fld Z h0 p0 "java/lang/String" "value" "[B" (.ref p1)) (f1 : Arv Z h0 p1 c0 .byte (10 : Int32) [(.int x0), (.int x1), (.int x2), (.int x3), (.int x4), (.int x5), (.int x6), (.int x7), (.int x8), (.int x9)] (.int 0)) (f2 : Exa Z h0 p0 "java/lang/String") (f3 : Fld Z h0 p0 "java/lang/String" "coder" "B" (.int (0 : Int32))) :
    Met Z a0 ELs True n0 l (⟨"java/lang/String", "length", "()I"⟩ : MethodName) jdk_42_method_54_code 1 (Option.some FieldType.int) ({ frames := 1, cells := 0, slots := 0, locals := 13 } : Room) #[(.ref p0)] h0 [] (fun v h so => (v = some (.int (10 : Int32)) ∧ so = [] ∧ h0 = h)) := by
  refine Met.of (EWl V) (by first | decide +kernel | rfl) hO (L0 := #[.val (.ref p0)]) rfl ?_
  intro p e s m below meth c T H
  show Go p e below _ (T.setTop (mkF m 0 #[.val (.ref p0)] []))
  refine G.aloadN H dc_jdk_42_method_54_code_0 (pc' := 1) rfl rfl rfl ?_
  refine G.getF H (wd34 V) Via.refl f0 dc_jdk_42_method_54_code_1 (pc' := 4) rfl ?_
  intro T1 H2
  refine G.arrlen H2 f1 dc_jdk_42_method_54_code_4 (pc' := 5) rfl ?_
  refine G.aloadN H2 dc_jdk_42_method_54_code_5 (pc' := 6) rfl rfl rfl ?_
  refine G.callV H2 (m4_coder V p0 h0 H2.old f3) (wd45 V) (wd46 V) (nf_sel (wd48 V)) (wd48 V) (wd47 V) (wd5 V) (wd49 V) (by decide) f2 (argsL := []) (rest := [(.int (10 : Int32))]) (W := 1) rfl rfl (lenOf (pd_3) rfl) rfl rfl dc_jdk_42_method_54_code_6 (pc' := 9) rfl (by decide) (by decide) (by decide) (by decide) all0 ?_
  intro T3 h3_ v4 s5 H3 Q6
  obtain ⟨rfl, rfl, rfl⟩ := Q6
  show Go p e below _ (T3.setTop (mkF m 9 #[.val (.ref p0)] [(.int (0 : Int32)), (.int (10 : Int32))]))
  refine G.ishr H3 dc_jdk_42_method_54_code_9 (pc' := 10) rfl ?_
  show Go p e below _ (T3.setTop (mkF m 10 #[.val (.ref p0)] [(.int (10 : Int32))]))
  exact G.retI H3 rfl dc_jdk_42_method_54_code_10 (so := []) all0 (by decide) (by decide) ⟨rfl, rfl, rfl⟩
set_option maxRecDepth 65536 in
set_option maxHeartbeats 40000000 in
theorem m37_untimed {l : Launch} {Z : State} {a0 : Array Value} {n0 : Nat} {z_COMPACT_STRINGS : Int32} {z_SIOOBE_FORMATTER : Value} (V : Env1 Z a0 n0 z_COMPACT_STRINGS z_SIOOBE_FORMATTER) (p0 : Addr) (p1 : Addr) (c0 : ClassId) (x0 : Int32) (x1 : Int32) (x2 : Int32) (x3 : Int32) (x4 : Int32) (x5 : Int32) (x6 : Int32) (x7 : Int32) (x8 : Int32) (x9 : Int32) (h0 : Heap) (hO : Old Z n0 h0) (f0 : Exa Z h0 p0 "java/lang/String") (f1 : Fld Z h0 p0 "java/lang/String" "value" "[B" (.ref p1)) (f2 : Arv Z h0 p1 c0 .byte (10 : Int32) [(.int x0), (.int x1), (.int x2), (.int x3), (.int x4), (.int x5), (.int x6), (.int x7), (.int x8), (.int x9)] (.int 0)) (f3 : Fld Z h0 p0 "java/lang/String" "coder" "B" (.int (0 : Int32))) :
    Met Z a0 ELs True n0 l (⟨"com/example/tenure/tenure/Days", "untimed", "(Ljava/lang/String;)Z"⟩ : MethodName) prog_14_method_4_code 1 (Option.some FieldType.boolean) ({ frames := 2, cells := 2, slots := 44, locals := 26 } : Room) #[(.ref p0)] h0 [p0, p1] (fun v h so => (v = some (.int (1 : Int32)) ∧ so = [] ∧ Keep h0 h [])) := by
  refine Met.of (EWl V) (by first | decide +kernel | rfl) hO (L0 := #[.val (.ref p0)]) rfl ?_
  intro p e s m below meth c T H
  show Go p e below _ (T.setTop (mkF m 0 #[.val (.ref p0)] []))
  refine G.aloadN H dc_prog_14_method_4_code_0 (pc' := 1) rfl rfl rfl ?_
  refine G.callV H (m36_length V p0 p1 c0 x0 x1 x2 x3 x4 x5 x6 x7 x8 x9 h0 H.old f1 f2 f0 f3) (wd40 V) (wd41 V) (nf_sel (wd43 V)) (wd43 V) (wd42 V) (wd5 V) (wd44 V) (by decide) f0 (argsL := []) (rest := []) (W := 0) rfl rfl (lenOf (pd_4) rfl) rfl rfl dc_prog_14_method_4_code_1 (pc' := 4) rfl (by decide) (by decide) (by decide) (by decide) all0 ?_
  intro T1 h1_ v2 s3 H1 Q4
  obtain ⟨rfl, rfl, rfl⟩ := Q4
  show Go p e below _ (T1.setTop (mkF m 4 #[.val (.ref p0)] [(.int (10 : Int32))]))
  refine G.ldcS H1 trivial (wS V) (wd50 V) (by decide) (vs := [(.int (48 : Int32)), (.int (48 : Int32)), (.int (48 : Int32)), (.int (48 : Int32)), (.int (45 : Int32)), (.int (48 : Int32)), (.int (48 : Int32)), (.int (45 : Int32)), (.int (48 : Int32)), (.int (48 : Int32))]) (z := (10 : Int32)) (by decide) (by decide) rfl (n := 40) (by decide) (by decide) (by decide) (by decide) dc_prog_14_method_4_code_4 (pc' := 6) rfl ?_
  intro T5 h5_ a6 b8 k9 H5 E7 X10 F11 F12 A13 Q14
  have S15 : Str Z h5_ a6 b8 k9 [(48 : Int32), (48 : Int32), (48 : Int32), (48 : Int32), (45 : Int32), (48 : Int32), (48 : Int32), (45 : Int32), (48 : Int32), (48 : Int32)] := ⟨X10, F11, F12, A13, by decide, by decide⟩
  show Go p e below _ (T5.setTop (mkF m 6 #[.val (.ref p0)] [(.ref a6), (.int (10 : Int32))]))
  refine G.callV H5 (m6_length V a6 b8 k9 h5_ H5.old F12 A13 X10 F11) (wd40 V) (wd41 V) (nf_sel (wd43 V)) (wd43 V) (wd42 V) (wd5 V) (wd44 V) (by decide) X10 (argsL := []) (rest := [(.int (10 : Int32))]) (W := 1) rfl rfl (lenOf (pd_4) rfl) rfl rfl dc_prog_14_method_4_code_6 (pc' := 9) rfl (by decide) (by decide) (by decide) (by decide) all0 ?_
  intro T16 h16_ v17 s18 H16 Q19
  obtain ⟨rfl, rfl, rfl⟩ := Q19
  show Go p e below _ (T16.setTop (mkF m 9 #[.val (.ref p0)] [(.int (10 : Int32)), (.int (10 : Int32))]))
  refine G.icmpNo H16 dc_prog_14_method_4_code_9 (pc' := 12) rfl (by decide) ?_
  refine G.iconst H16 dc_prog_14_method_4_code_12 (pc' := 13) rfl (v := (1 : Int32)) rfl ?_
  refine G.goto H16 dc_prog_14_method_4_code_13 (by decide) (pc' := 17) rfl ?_
  have K20 : Keep h0 h5_ [] := (Keep.ext (Keep.refl h0 []) E7)
  exact G.retN H16 (t := .boolean) rfl (by decide) dc_prog_14_method_4_code_17 (so := []) all0 (by decide) (by decide) ⟨rfl, rfl, K20⟩
set_option maxRecDepth 65536 in
set_option maxHeartbeats 40000000 in
theorem m38_prefix {l : Launch} {Z : State} {a0 : Array Value} {n0 : Nat} {z_COMPACT_STRINGS : Int32} {z_SIOOBE_FORMATTER : Value} (V : Env1 Z a0 n0 z_COMPACT_STRINGS z_SIOOBE_FORMATTER) (p0 : Addr) (c0 : ClassId) (x0 : Int32) (x1 : Int32) (x2 : Int32) (x3 : Int32) (x4 : Int32) (x5 : Int32) (x6 : Int32) (x7 : Int32) (x8 : Int32) (x9 : Int32) (x10 : Int32) (x11 : Int32) (x12 : Int32) (x13 : Int32) (x14 : Int32) (x15 : Int32) (x16 : Int32) (x17 : Int32) (x18 : Int32) (x19 : Int32) (h0 : Heap) (hO : Old Z n0 h0) (f0 : Arv Z h0 p0 c0 .char (20 : Int32) [(.int x0), (.int x1), (.int x2), (.int x3), (.int x4), (.int x5), (.int x6), (.int x7), (.int x8), (.int x9), (.int x10), (.int x11), (.int x12), (.int x13), (.int x14), (.int x15), (.int x16), (.int x17), (.int x18), (.int x19)] (.int 0)) (r1 : ¬ x10 < 0 ∧ ¬ (65535 : Int32) < x10) (r2 : ¬ x9 < 0 ∧ ¬ (65535 : Int32) < x9) (r3 : ¬ x8 < 0 ∧ ¬ (65535 : Int32) < x8) (r4 : ¬ x7 < 0 ∧ ¬ (65535 : Int32) < x7) (r5 : ¬ x6 < 0 ∧ ¬ (65535 : Int32) < x6) (r6 : ¬ x5 < 0 ∧ ¬ (65535 : Int32) < x5) (r7 : ¬ x4 < 0 ∧ ¬ (65535 : Int32) < x4) (r8 : ¬ x3 < 0 ∧ ¬ (65535 : Int32) < x3) (r9 : ¬ x2 < 0 ∧ ¬ (65535 : Int32) < x2) (r10 : ¬ x1 < 0 ∧ ¬ (65535 : Int32) < x1) (r11 : ¬ x0 < 0 ∧ ¬ (65535 : Int32) < x0) :
    Met Z a0 ELs True n0 l (⟨"com/example/tenure/tenure/DaysUntimedPinLaw", "prefix", "([CI)[C"⟩ : MethodName) method_3_code 3 (Option.some (FieldType.array FieldType.char)) ({ frames := 0, cells := 1, slots := 11, locals := 0 } : Room) #[(.ref p0), (.int (11 : Int32))] h0 [] (fun v h so => (∃ a2 : Addr, ∃ k5 : ClassId, v = some (.ref a2) ∧ so = [] ∧ Keep h0 h [] ∧ h0.size ≤ a2 ∧ Arv Z h a2 k5 .char (11 : Int32) [(.int x0), (.int x1), (.int x2), (.int x3), (.int x4), (.int x5), (.int x6), (.int x7), (.int x8), (.int x9), (.int x10)] (.int 0))) := by
  refine Met.of (EWl V) (by first | decide +kernel | rfl) hO (L0 := #[.val (.ref p0), .val (.int (11 : Int32)), .unset]) rfl ?_
  intro p e s m below meth c T H
  show Go p e below _ (T.setTop (mkF m 0 #[.val (.ref p0), .val (.int (11 : Int32)), .unset] []))
  refine G.iloadN H dc_method_3_code_0 (pc' := 1) rfl rfl ?_
  refine G.newP H (aty := .char) (wd0 V) dc_method_3_code_1 (pc' := 3) rfl (by decide) (cap := 11) (by decide) (by decide) (by decide) (by decide) (vs := [(.int (0 : Int32)), (.int (0 : Int32)), (.int (0 : Int32)), (.int (0 : Int32)), (.int (0 : Int32)), (.int (0 : Int32)), (.int (0 : Int32)), (.int (0 : Int32)), (.int (0 : Int32)), (.int (0 : Int32)), (.int (0 : Int32))]) rfl ?_
  intro T1 h1_ a2 k5 ga2 H1 E3 A4
  have na2 : n0 ≤ a2 := Nat.le_trans H.le (Nat.le_of_eq ga2.symm)
  replace A4 : Arv Z h1_ a2 k5 .char (11 : Int32) [(.int (0 : Int32)), (.int (0 : Int32)), (.int (0 : Int32)), (.int (0 : Int32)), (.int (0 : Int32)), (.int (0 : Int32)), (.int (0 : Int32)), (.int (0 : Int32)), (.int (0 : Int32)), (.int (0 : Int32)), (.int (0 : Int32))] (.int 0) := A4
  show Go p e below _ (T1.setTop (mkF m 3 #[.val (.ref p0), .val (.int (11 : Int32)), .unset] [(.ref a2)]))
  refine G.astoreN H1 (L' := #[.val (.ref p0), .val (.int (11 : Int32)), .val (.ref a2)]) dc_method_3_code_3 (pc' := 4) rfl rfl rfl ?_
  refine G.iloadN H1 dc_method_3_code_4 (pc' := 5) rfl rfl ?_
  refine G.tswIn H1 dc_method_3_code_5 (by decide) (o := 167) rfl (by decide) (pc' := 172) rfl ?_
  refine G.aloadN H1 dc_method_3_code_172 (pc' := 173) rfl rfl rfl ?_
  refine G.bipush H1 dc_method_3_code_173 (pc' := 175) rfl (v := (10 : Int32)) rfl ?_
  refine G.aloadN H1 dc_method_3_code_175 (pc' := 176) rfl rfl rfl ?_
  refine G.bipush H1 dc_method_3_code_176 (pc' := 178) rfl (v := (10 : Int32)) rfl ?_
  have F6 : Arv Z h1_ p0 c0 .char (20 : Int32) [(.int x0), (.int x1), (.int x2), (.int x3), (.int x4), (.int x5), (.int x6), (.int x7), (.int x8), (.int x9), (.int x10), (.int x11), (.int x12), (.int x13), (.int x14), (.int x15), (.int x16), (.int x17), (.int x18), (.int x19)] (.int 0) := (Arv.ext f0 E3)
  refine G.caloadG H1 F6 (j := (10 : Int32)) (v := (.int x10)) (by decide) rfl dc_method_3_code_178 (pc' := 179) rfl ?_
  refine G.stC H1 A4 (by decide) (i := 10) rfl (Nat.le_of_ble_eq_true rfl) na2 (y := x10) (own_narC r1) dc_method_3_code_179 (pc' := 180) rfl ?_
  intro T7 h7_ H7 W8 A9
  replace A9 : Arv Z h7_ a2 k5 .char (11 : Int32) [(.int (0 : Int32)), (.int (0 : Int32)), (.int (0 : Int32)), (.int (0 : Int32)), (.int (0 : Int32)), (.int (0 : Int32)), (.int (0 : Int32)), (.int (0 : Int32)), (.int (0 : Int32)), (.int (0 : Int32)), (.int x10)] (.int 0) := A9
  show Go p e below _ (T7.setTop (mkF m 180 #[.val (.ref p0), .val (.int (11 : Int32)), .val (.ref a2)] []))
  refine G.aloadN H7 dc_method_3_code_180 (pc' := 181) rfl rfl rfl ?_
  refine G.bipush H7 dc_method_3_code_181 (pc' := 183) rfl (v := (9 : Int32)) rfl ?_
  refine G.aloadN H7 dc_method_3_code_183 (pc' := 184) rfl rfl rfl ?_
  refine G.bipush H7 dc_method_3_code_184 (pc' := 186) rfl (v := (9 : Int32)) rfl ?_
  have N10 : p0 ≠ a2 := (Nat.ne_of_lt (Nat.lt_of_lt_of_le f0.lt (Nat.le_of_eq ga2.symm)))
  have F11 : Arv Z h7_ p0 c0 .char (20 : Int32) [(.int x0), (.int x1), (.int x2), (.int x3), (.int x4), (.int x5), (.int x6), (.int x7), (.int x8), (.int x9), (.int x10), (.int x11), (.int x12), (.int x13), (.int x14), (.int x15), (.int x16), (.int x17), (.int x18), (.int x19)] (.int 0) := (Arv.other F6 W8 N10)
  refine G.caloadG H7 F11 (j := (9 : Int32)) (v := (.int x9)) (by decide) rfl dc_method_3_code_186 (pc' := 187) rfl ?_
  refine G.stC H7 A9 (by decide) (i := 9) rfl (Nat.le_of_ble_eq_true rfl) na2 (y := x9) (own_narC r2) dc_method_3_code_187 (pc' := 188) rfl ?_
  intro T12 h12_ H12 W13 A14
  replace A14 : Arv Z h12_ a2 k5 .char (11 : Int32) [(.int (0 : Int32)), (.int (0 : Int32)), (.int (0 : Int32)), (.int (0 : Int32)), (.int (0 : Int32)), (.int (0 : Int32)), (.int (0 : Int32)), (.int (0 : Int32)), (.int (0 : Int32)), (.int x9), (.int x10)] (.int 0) := A14
  show Go p e below _ (T12.setTop (mkF m 188 #[.val (.ref p0), .val (.int (11 : Int32)), .val (.ref a2)] []))
  refine G.aloadN H12 dc_method_3_code_188 (pc' := 189) rfl rfl rfl ?_
  refine G.bipush H12 dc_method_3_code_189 (pc' := 191) rfl (v := (8 : Int32)) rfl ?_
  refine G.aloadN H12 dc_method_3_code_191 (pc' := 192) rfl rfl rfl ?_
  refine G.bipush H12 dc_method_3_code_192 (pc' := 194) rfl (v := (8 : Int32)) rfl ?_
  have F15 : Arv Z h12_ p0 c0 .char (20 : Int32) [(.int x0), (.int x1), (.int x2), (.int x3), (.int x4), (.int x5), (.int x6), (.int x7), (.int x8), (.int x9), (.int x10), (.int x11), (.int x12), (.int x13), (.int x14), (.int x15), (.int x16), (.int x17), (.int x18), (.int x19)] (.int 0) := (Arv.other F11 W13 N10)
  refine G.caloadG H12 F15 (j := (8 : Int32)) (v := (.int x8)) (by decide) rfl dc_method_3_code_194 (pc' := 195) rfl ?_
  refine G.stC H12 A14 (by decide) (i := 8) rfl (Nat.le_of_ble_eq_true rfl) na2 (y := x8) (own_narC r3) dc_method_3_code_195 (pc' := 196) rfl ?_
  intro T16 h16_ H16 W17 A18
  replace A18 : Arv Z h16_ a2 k5 .char (11 : Int32) [(.int (0 : Int32)), (.int (0 : Int32)), (.int (0 : Int32)), (.int (0 : Int32)), (.int (0 : Int32)), (.int (0 : Int32)), (.int (0 : Int32)), (.int (0 : Int32)), (.int x8), (.int x9), (.int x10)] (.int 0) := A18
  show Go p e below _ (T16.setTop (mkF m 196 #[.val (.ref p0), .val (.int (11 : Int32)), .val (.ref a2)] []))
  refine G.aloadN H16 dc_method_3_code_196 (pc' := 197) rfl rfl rfl ?_
  refine G.bipush H16 dc_method_3_code_197 (pc' := 199) rfl (v := (7 : Int32)) rfl ?_
  refine G.aloadN H16 dc_method_3_code_199 (pc' := 200) rfl rfl rfl ?_
  refine G.bipush H16 dc_method_3_code_200 (pc' := 202) rfl (v := (7 : Int32)) rfl ?_
  have F19 : Arv Z h16_ p0 c0 .char (20 : Int32) [(.int x0), (.int x1), (.int x2), (.int x3), (.int x4), (.int x5), (.int x6), (.int x7), (.int x8), (.int x9), (.int x10), (.int x11), (.int x12), (.int x13), (.int x14), (.int x15), (.int x16), (.int x17), (.int x18), (.int x19)] (.int 0) := (Arv.other F15 W17 N10)
  refine G.caloadG H16 F19 (j := (7 : Int32)) (v := (.int x7)) (by decide) rfl dc_method_3_code_202 (pc' := 203) rfl ?_
  refine G.stC H16 A18 (by decide) (i := 7) rfl (Nat.le_of_ble_eq_true rfl) na2 (y := x7) (own_narC r4) dc_method_3_code_203 (pc' := 204) rfl ?_
  intro T20 h20_ H20 W21 A22
  replace A22 : Arv Z h20_ a2 k5 .char (11 : Int32) [(.int (0 : Int32)), (.int (0 : Int32)), (.int (0 : Int32)), (.int (0 : Int32)), (.int (0 : Int32)), (.int (0 : Int32)), (.int (0 : Int32)), (.int x7), (.int x8), (.int x9), (.int x10)] (.int 0) := A22
  show Go p e below _ (T20.setTop (mkF m 204 #[.val (.ref p0), .val (.int (11 : Int32)), .val (.ref a2)] []))
  refine G.aloadN H20 dc_method_3_code_204 (pc' := 205) rfl rfl rfl ?_
  refine G.bipush H20 dc_method_3_code_205 (pc' := 207) rfl (v := (6 : Int32)) rfl ?_
  refine G.aloadN H20 dc_method_3_code_207 (pc' := 208) rfl rfl rfl ?_
  refine G.bipush H20 dc_method_3_code_208 (pc' := 210) rfl (v := (6 : Int32)) rfl ?_
  have F23 : Arv Z h20_ p0 c0 .char (20 : Int32) [(.int x0), (.int x1), (.int x2), (.int x3), (.int x4), (.int x5), (.int x6), (.int x7), (.int x8), (.int x9), (.int x10), (.int x11), (.int x12), (.int x13), (.int x14), (.int x15), (.int x16), (.int x17), (.int x18), (.int x19)] (.int 0) := (Arv.other F19 W21 N10)
  refine G.caloadG H20 F23 (j := (6 : Int32)) (v := (.int x6)) (by decide) rfl dc_method_3_code_210 (pc' := 211) rfl ?_
  refine G.stC H20 A22 (by decide) (i := 6) rfl (Nat.le_of_ble_eq_true rfl) na2 (y := x6) (own_narC r5) dc_method_3_code_211 (pc' := 212) rfl ?_
  intro T24 h24_ H24 W25 A26
  replace A26 : Arv Z h24_ a2 k5 .char (11 : Int32) [(.int (0 : Int32)), (.int (0 : Int32)), (.int (0 : Int32)), (.int (0 : Int32)), (.int (0 : Int32)), (.int (0 : Int32)), (.int x6), (.int x7), (.int x8), (.int x9), (.int x10)] (.int 0) := A26
  show Go p e below _ (T24.setTop (mkF m 212 #[.val (.ref p0), .val (.int (11 : Int32)), .val (.ref a2)] []))
  refine G.aloadN H24 dc_method_3_code_212 (pc' := 213) rfl rfl rfl ?_
  refine G.iconst H24 dc_method_3_code_213 (pc' := 214) rfl (v := (5 : Int32)) rfl ?_
  refine G.aloadN H24 dc_method_3_code_214 (pc' := 215) rfl rfl rfl ?_
  refine G.iconst H24 dc_method_3_code_215 (pc' := 216) rfl (v := (5 : Int32)) rfl ?_
  have F27 : Arv Z h24_ p0 c0 .char (20 : Int32) [(.int x0), (.int x1), (.int x2), (.int x3), (.int x4), (.int x5), (.int x6), (.int x7), (.int x8), (.int x9), (.int x10), (.int x11), (.int x12), (.int x13), (.int x14), (.int x15), (.int x16), (.int x17), (.int x18), (.int x19)] (.int 0) := (Arv.other F23 W25 N10)
  refine G.caloadG H24 F27 (j := (5 : Int32)) (v := (.int x5)) (by decide) rfl dc_method_3_code_216 (pc' := 217) rfl ?_
  refine G.stC H24 A26 (by decide) (i := 5) rfl (Nat.le_of_ble_eq_true rfl) na2 (y := x5) (own_narC r6) dc_method_3_code_217 (pc' := 218) rfl ?_
  intro T28 h28_ H28 W29 A30
  replace A30 : Arv Z h28_ a2 k5 .char (11 : Int32) [(.int (0 : Int32)), (.int (0 : Int32)), (.int (0 : Int32)), (.int (0 : Int32)), (.int (0 : Int32)), (.int x5), (.int x6), (.int x7), (.int x8), (.int x9), (.int x10)] (.int 0) := A30
  show Go p e below _ (T28.setTop (mkF m 218 #[.val (.ref p0), .val (.int (11 : Int32)), .val (.ref a2)] []))
  refine G.aloadN H28 dc_method_3_code_218 (pc' := 219) rfl rfl rfl ?_
  refine G.iconst H28 dc_method_3_code_219 (pc' := 220) rfl (v := (4 : Int32)) rfl ?_
  refine G.aloadN H28 dc_method_3_code_220 (pc' := 221) rfl rfl rfl ?_
  refine G.iconst H28 dc_method_3_code_221 (pc' := 222) rfl (v := (4 : Int32)) rfl ?_
  have F31 : Arv Z h28_ p0 c0 .char (20 : Int32) [(.int x0), (.int x1), (.int x2), (.int x3), (.int x4), (.int x5), (.int x6), (.int x7), (.int x8), (.int x9), (.int x10), (.int x11), (.int x12), (.int x13), (.int x14), (.int x15), (.int x16), (.int x17), (.int x18), (.int x19)] (.int 0) := (Arv.other F27 W29 N10)
  refine G.caloadG H28 F31 (j := (4 : Int32)) (v := (.int x4)) (by decide) rfl dc_method_3_code_222 (pc' := 223) rfl ?_
  refine G.stC H28 A30 (by decide) (i := 4) rfl (Nat.le_of_ble_eq_true rfl) na2 (y := x4) (own_narC r7) dc_method_3_code_223 (pc' := 224) rfl ?_
  intro T32 h32_ H32 W33 A34
  replace A34 : Arv Z h32_ a2 k5 .char (11 : Int32) [(.int (0 : Int32)), (.int (0 : Int32)), (.int (0 : Int32)), (.int (0 : Int32)), (.int x4), (.int x5), (.int x6), (.int x7), (.int x8), (.int x9), (.int x10)] (.int 0) := A34
  show Go p e below _ (T32.setTop (mkF m 224 #[.val (.ref p0), .val (.int (11 : Int32)), .val (.ref a2)] []))
  refine G.aloadN H32 dc_method_3_code_224 (pc' := 225) rfl rfl rfl ?_
  refine G.iconst H32 dc_method_3_code_225 (pc' := 226) rfl (v := (3 : Int32)) rfl ?_
  refine G.aloadN H32 dc_method_3_code_226 (pc' := 227) rfl rfl rfl ?_
  refine G.iconst H32 dc_method_3_code_227 (pc' := 228) rfl (v := (3 : Int32)) rfl ?_
  have F35 : Arv Z h32_ p0 c0 .char (20 : Int32) [(.int x0), (.int x1), (.int x2), (.int x3), (.int x4), (.int x5), (.int x6), (.int x7), (.int x8), (.int x9), (.int x10), (.int x11), (.int x12), (.int x13), (.int x14), (.int x15), (.int x16), (.int x17), (.int x18), (.int x19)] (.int 0) := (Arv.other F31 W33 N10)
  refine G.caloadG H32 F35 (j := (3 : Int32)) (v := (.int x3)) (by decide) rfl dc_method_3_code_228 (pc' := 229) rfl ?_
  refine G.stC H32 A34 (by decide) (i := 3) rfl (Nat.le_of_ble_eq_true rfl) na2 (y := x3) (own_narC r8) dc_method_3_code_229 (pc' := 230) rfl ?_
  intro T36 h36_ H36 W37 A38
  replace A38 : Arv Z h36_ a2 k5 .char (11 : Int32) [(.int (0 : Int32)), (.int (0 : Int32)), (.int (0 : Int32)), (.int x3), (.int x4), (.int x5), (.int x6), (.int x7), (.int x8), (.int x9), (.int x10)] (.int 0) := A38
  show Go p e below _ (T36.setTop (mkF m 230 #[.val (.ref p0), .val (.int (11 : Int32)), .val (.ref a2)] []))
  refine G.aloadN H36 dc_method_3_code_230 (pc' := 231) rfl rfl rfl ?_
  refine G.iconst H36 dc_method_3_code_231 (pc' := 232) rfl (v := (2 : Int32)) rfl ?_
  refine G.aloadN H36 dc_method_3_code_232 (pc' := 233) rfl rfl rfl ?_
  refine G.iconst H36 dc_method_3_code_233 (pc' := 234) rfl (v := (2 : Int32)) rfl ?_
  have F39 : Arv Z h36_ p0 c0 .char (20 : Int32) [(.int x0), (.int x1), (.int x2), (.int x3), (.int x4), (.int x5), (.int x6), (.int x7), (.int x8), (.int x9), (.int x10), (.int x11), (.int x12), (.int x13), (.int x14), (.int x15), (.int x16), (.int x17), (.int x18), (.int x19)] (.int 0) := (Arv.other F35 W37 N10)
  refine G.caloadG H36 F39 (j := (2 : Int32)) (v := (.int x2)) (by decide) rfl dc_method_3_code_234 (pc' := 235) rfl ?_
  refine G.stC H36 A38 (by decide) (i := 2) rfl (Nat.le_of_ble_eq_true rfl) na2 (y := x2) (own_narC r9) dc_method_3_code_235 (pc' := 236) rfl ?_
  intro T40 h40_ H40 W41 A42
  replace A42 : Arv Z h40_ a2 k5 .char (11 : Int32) [(.int (0 : Int32)), (.int (0 : Int32)), (.int x2), (.int x3), (.int x4), (.int x5), (.int x6), (.int x7), (.int x8), (.int x9), (.int x10)] (.int 0) := A42
  show Go p e below _ (T40.setTop (mkF m 236 #[.val (.ref p0), .val (.int (11 : Int32)), .val (.ref a2)] []))
  refine G.aloadN H40 dc_method_3_code_236 (pc' := 237) rfl rfl rfl ?_
  refine G.iconst H40 dc_method_3_code_237 (pc' := 238) rfl (v := (1 : Int32)) rfl ?_
  refine G.aloadN H40 dc_method_3_code_238 (pc' := 239) rfl rfl rfl ?_
  refine G.iconst H40 dc_method_3_code_239 (pc' := 240) rfl (v := (1 : Int32)) rfl ?_
  have F43 : Arv Z h40_ p0 c0 .char (20 : Int32) [(.int x0), (.int x1), (.int x2), (.int x3), (.int x4), (.int x5), (.int x6), (.int x7), (.int x8), (.int x9), (.int x10), (.int x11), (.int x12), (.int x13), (.int x14), (.int x15), (.int x16), (.int x17), (.int x18), (.int x19)] (.int 0) := (Arv.other F39 W41 N10)
  refine G.caloadG H40 F43 (j := (1 : Int32)) (v := (.int x1)) (by decide) rfl dc_method_3_code_240 (pc' := 241) rfl ?_
  refine G.stC H40 A42 (by decide) (i := 1) rfl (Nat.le_of_ble_eq_true rfl) na2 (y := x1) (own_narC r10) dc_method_3_code_241 (pc' := 242) rfl ?_
  intro T44 h44_ H44 W45 A46
  replace A46 : Arv Z h44_ a2 k5 .char (11 : Int32) [(.int (0 : Int32)), (.int x1), (.int x2), (.int x3), (.int x4), (.int x5), (.int x6), (.int x7), (.int x8), (.int x9), (.int x10)] (.int 0) := A46
  show Go p e below _ (T44.setTop (mkF m 242 #[.val (.ref p0), .val (.int (11 : Int32)), .val (.ref a2)] []))
  refine G.aloadN H44 dc_method_3_code_242 (pc' := 243) rfl rfl rfl ?_
  refine G.iconst H44 dc_method_3_code_243 (pc' := 244) rfl (v := (0 : Int32)) rfl ?_
  refine G.aloadN H44 dc_method_3_code_244 (pc' := 245) rfl rfl rfl ?_
  refine G.iconst H44 dc_method_3_code_245 (pc' := 246) rfl (v := (0 : Int32)) rfl ?_
  have F47 : Arv Z h44_ p0 c0 .char (20 : Int32) [(.int x0), (.int x1), (.int x2), (.int x3), (.int x4), (.int x5), (.int x6), (.int x7), (.int x8), (.int x9), (.int x10), (.int x11), (.int x12), (.int x13), (.int x14), (.int x15), (.int x16), (.int x17), (.int x18), (.int x19)] (.int 0) := (Arv.other F43 W45 N10)
  refine G.caloadG H44 F47 (j := (0 : Int32)) (v := (.int x0)) (by decide) rfl dc_method_3_code_246 (pc' := 247) rfl ?_
  refine G.stC H44 A46 (by decide) (i := 0) rfl (Nat.le_of_ble_eq_true rfl) na2 (y := x0) (own_narC r11) dc_method_3_code_247 (pc' := 248) rfl ?_
  intro T48 h48_ H48 W49 A50
  replace A50 : Arv Z h48_ a2 k5 .char (11 : Int32) [(.int x0), (.int x1), (.int x2), (.int x3), (.int x4), (.int x5), (.int x6), (.int x7), (.int x8), (.int x9), (.int x10)] (.int 0) := A50
  show Go p e below _ (T48.setTop (mkF m 248 #[.val (.ref p0), .val (.int (11 : Int32)), .val (.ref a2)] []))
  refine G.aloadN H48 dc_method_3_code_248 (pc' := 249) rfl rfl rfl ?_
  have K51 : Keep h0 h48_ [] := (Keep.wr (Keep.wr (Keep.wr (Keep.wr (Keep.wr (Keep.wr (Keep.wr (Keep.wr (Keep.wr (Keep.wr (Keep.wr (Keep.ext (Keep.refl h0 []) E3) W8 (Or.inr (Nat.le_of_eq ga2.symm))) W13 (Or.inr (Nat.le_of_eq ga2.symm))) W17 (Or.inr (Nat.le_of_eq ga2.symm))) W21 (Or.inr (Nat.le_of_eq ga2.symm))) W25 (Or.inr (Nat.le_of_eq ga2.symm))) W29 (Or.inr (Nat.le_of_eq ga2.symm))) W33 (Or.inr (Nat.le_of_eq ga2.symm))) W37 (Or.inr (Nat.le_of_eq ga2.symm))) W41 (Or.inr (Nat.le_of_eq ga2.symm))) W45 (Or.inr (Nat.le_of_eq ga2.symm))) W49 (Or.inr (Nat.le_of_eq ga2.symm)))
  exact G.retA H48 (t := (.array .char)) rfl rfl rfl dc_method_3_code_249 (so := []) all0 (by decide) (by decide) ⟨a2, k5, rfl, rfl, K51, (Nat.le_of_eq ga2.symm), A50⟩
set_option maxRecDepth 65536 in
set_option maxHeartbeats 40000000 in
theorem m39_length {l : Launch} {Z : State} {a0 : Array Value} {n0 : Nat} {z_COMPACT_STRINGS : Int32} {z_SIOOBE_FORMATTER : Value} (V : Env1 Z a0 n0 z_COMPACT_STRINGS z_SIOOBE_FORMATTER) (p0 : Addr) (p1 : Addr) (c0 : ClassId) (x0 : Int32) (x1 : Int32) (x2 : Int32) (x3 : Int32) (x4 : Int32) (x5 : Int32) (x6 : Int32) (x7 : Int32) (x8 : Int32) (x9 : Int32) (x10 : Int32) (h0 : Heap) (hO : Old Z n0 h0) (f0 : Fld Z h0 p0 "java/lang/String" "value" "[B" (.ref p1)) (f1 : Arv Z h0 p1 c0 .byte (11 : Int32) [(.int x0), (.int x1), (.int x2), (.int x3), (.int x4), (.int x5), (.int x6), (.int x7), (.int x8), (.int x9), (.int x10)] (.int 0)) (f2 : Exa Z h0 p0 "java/lang/String") (f3 : Fld Z h0 p0 "java/lang/String" "coder" "B" (.int (0 : Int32))) :
    Met Z a0 ELs True n0 l (⟨"java/lang/String", "length", "()I"⟩ : MethodName) jdk_42_method_54_code 1 (Option.some FieldType.int) ({ frames := 1, cells := 0, slots := 0, locals := 13 } : Room) #[(.ref p0)] h0 [] (fun v h so => (v = some (.int (11 : Int32)) ∧ so = [] ∧ h0 = h)) := by
  refine Met.of (EWl V) (by first | decide +kernel | rfl) hO (L0 := #[.val (.ref p0)]) rfl ?_
  intro p e s m below meth c T H
  show Go p e below _ (T.setTop (mkF m 0 #[.val (.ref p0)] []))
  refine G.aloadN H dc_jdk_42_method_54_code_0 (pc' := 1) rfl rfl rfl ?_
  refine G.getF H (wd34 V) Via.refl f0 dc_jdk_42_method_54_code_1 (pc' := 4) rfl ?_
  intro T1 H2
  refine G.arrlen H2 f1 dc_jdk_42_method_54_code_4 (pc' := 5) rfl ?_
  refine G.aloadN H2 dc_jdk_42_method_54_code_5 (pc' := 6) rfl rfl rfl ?_
  refine G.callV H2 (m4_coder V p0 h0 H2.old f3) (wd45 V) (wd46 V) (nf_sel (wd48 V)) (wd48 V) (wd47 V) (wd5 V) (wd49 V) (by decide) f2 (argsL := []) (rest := [(.int (11 : Int32))]) (W := 1) rfl rfl (lenOf (pd_3) rfl) rfl rfl dc_jdk_42_method_54_code_6 (pc' := 9) rfl (by decide) (by decide) (by decide) (by decide) all0 ?_
  intro T3 h3_ v4 s5 H3 Q6
  obtain ⟨rfl, rfl, rfl⟩ := Q6
  show Go p e below _ (T3.setTop (mkF m 9 #[.val (.ref p0)] [(.int (0 : Int32)), (.int (11 : Int32))]))
  refine G.ishr H3 dc_jdk_42_method_54_code_9 (pc' := 10) rfl ?_
  show Go p e below _ (T3.setTop (mkF m 10 #[.val (.ref p0)] [(.int (11 : Int32))]))
  exact G.retI H3 rfl dc_jdk_42_method_54_code_10 (so := []) all0 (by decide) (by decide) ⟨rfl, rfl, rfl⟩
set_option maxRecDepth 65536 in
set_option maxHeartbeats 40000000 in
theorem m40_untimed {l : Launch} {Z : State} {a0 : Array Value} {n0 : Nat} {z_COMPACT_STRINGS : Int32} {z_SIOOBE_FORMATTER : Value} (V : Env1 Z a0 n0 z_COMPACT_STRINGS z_SIOOBE_FORMATTER) (p0 : Addr) (p1 : Addr) (c0 : ClassId) (x0 : Int32) (x1 : Int32) (x2 : Int32) (x3 : Int32) (x4 : Int32) (x5 : Int32) (x6 : Int32) (x7 : Int32) (x8 : Int32) (x9 : Int32) (x10 : Int32) (h0 : Heap) (hO : Old Z n0 h0) (f0 : Exa Z h0 p0 "java/lang/String") (f1 : Fld Z h0 p0 "java/lang/String" "value" "[B" (.ref p1)) (f2 : Arv Z h0 p1 c0 .byte (11 : Int32) [(.int x0), (.int x1), (.int x2), (.int x3), (.int x4), (.int x5), (.int x6), (.int x7), (.int x8), (.int x9), (.int x10)] (.int 0)) (f3 : Fld Z h0 p0 "java/lang/String" "coder" "B" (.int (0 : Int32))) :
    Met Z a0 ELs True n0 l (⟨"com/example/tenure/tenure/Days", "untimed", "(Ljava/lang/String;)Z"⟩ : MethodName) prog_14_method_4_code 1 (Option.some FieldType.boolean) ({ frames := 2, cells := 2, slots := 44, locals := 26 } : Room) #[(.ref p0)] h0 [p0, p1] (fun v h so => (v = some (.int (0 : Int32)) ∧ so = [] ∧ Keep h0 h [])) := by
  refine Met.of (EWl V) (by first | decide +kernel | rfl) hO (L0 := #[.val (.ref p0)]) rfl ?_
  intro p e s m below meth c T H
  show Go p e below _ (T.setTop (mkF m 0 #[.val (.ref p0)] []))
  refine G.aloadN H dc_prog_14_method_4_code_0 (pc' := 1) rfl rfl rfl ?_
  refine G.callV H (m39_length V p0 p1 c0 x0 x1 x2 x3 x4 x5 x6 x7 x8 x9 x10 h0 H.old f1 f2 f0 f3) (wd40 V) (wd41 V) (nf_sel (wd43 V)) (wd43 V) (wd42 V) (wd5 V) (wd44 V) (by decide) f0 (argsL := []) (rest := []) (W := 0) rfl rfl (lenOf (pd_4) rfl) rfl rfl dc_prog_14_method_4_code_1 (pc' := 4) rfl (by decide) (by decide) (by decide) (by decide) all0 ?_
  intro T1 h1_ v2 s3 H1 Q4
  obtain ⟨rfl, rfl, rfl⟩ := Q4
  show Go p e below _ (T1.setTop (mkF m 4 #[.val (.ref p0)] [(.int (11 : Int32))]))
  refine G.ldcS H1 trivial (wS V) (wd50 V) (by decide) (vs := [(.int (48 : Int32)), (.int (48 : Int32)), (.int (48 : Int32)), (.int (48 : Int32)), (.int (45 : Int32)), (.int (48 : Int32)), (.int (48 : Int32)), (.int (45 : Int32)), (.int (48 : Int32)), (.int (48 : Int32))]) (z := (10 : Int32)) (by decide) (by decide) rfl (n := 40) (by decide) (by decide) (by decide) (by decide) dc_prog_14_method_4_code_4 (pc' := 6) rfl ?_
  intro T5 h5_ a6 b8 k9 H5 E7 X10 F11 F12 A13 Q14
  have S15 : Str Z h5_ a6 b8 k9 [(48 : Int32), (48 : Int32), (48 : Int32), (48 : Int32), (45 : Int32), (48 : Int32), (48 : Int32), (45 : Int32), (48 : Int32), (48 : Int32)] := ⟨X10, F11, F12, A13, by decide, by decide⟩
  show Go p e below _ (T5.setTop (mkF m 6 #[.val (.ref p0)] [(.ref a6), (.int (11 : Int32))]))
  refine G.callV H5 (m6_length V a6 b8 k9 h5_ H5.old F12 A13 X10 F11) (wd40 V) (wd41 V) (nf_sel (wd43 V)) (wd43 V) (wd42 V) (wd5 V) (wd44 V) (by decide) X10 (argsL := []) (rest := [(.int (11 : Int32))]) (W := 1) rfl rfl (lenOf (pd_4) rfl) rfl rfl dc_prog_14_method_4_code_6 (pc' := 9) rfl (by decide) (by decide) (by decide) (by decide) all0 ?_
  intro T16 h16_ v17 s18 H16 Q19
  obtain ⟨rfl, rfl, rfl⟩ := Q19
  show Go p e below _ (T16.setTop (mkF m 9 #[.val (.ref p0)] [(.int (10 : Int32)), (.int (11 : Int32))]))
  refine G.icmpYes H16 dc_prog_14_method_4_code_9 (by decide) (by decide) (pc' := 16) rfl ?_
  refine G.iconst H16 dc_prog_14_method_4_code_16 (pc' := 17) rfl (v := (0 : Int32)) rfl ?_
  have K20 : Keep h0 h5_ [] := (Keep.ext (Keep.refl h0 []) E7)
  exact G.retN H16 (t := .boolean) rfl (by decide) dc_prog_14_method_4_code_17 (so := []) all0 (by decide) (by decide) ⟨rfl, rfl, K20⟩
set_option maxRecDepth 65536 in
set_option maxHeartbeats 40000000 in
theorem m41_prefix {l : Launch} {Z : State} {a0 : Array Value} {n0 : Nat} {z_COMPACT_STRINGS : Int32} {z_SIOOBE_FORMATTER : Value} (V : Env1 Z a0 n0 z_COMPACT_STRINGS z_SIOOBE_FORMATTER) (p0 : Addr) (c0 : ClassId) (x0 : Int32) (x1 : Int32) (x2 : Int32) (x3 : Int32) (x4 : Int32) (x5 : Int32) (x6 : Int32) (x7 : Int32) (x8 : Int32) (x9 : Int32) (x10 : Int32) (x11 : Int32) (x12 : Int32) (x13 : Int32) (x14 : Int32) (x15 : Int32) (x16 : Int32) (x17 : Int32) (x18 : Int32) (x19 : Int32) (h0 : Heap) (hO : Old Z n0 h0) (f0 : Arv Z h0 p0 c0 .char (20 : Int32) [(.int x0), (.int x1), (.int x2), (.int x3), (.int x4), (.int x5), (.int x6), (.int x7), (.int x8), (.int x9), (.int x10), (.int x11), (.int x12), (.int x13), (.int x14), (.int x15), (.int x16), (.int x17), (.int x18), (.int x19)] (.int 0)) (r1 : ¬ x11 < 0 ∧ ¬ (65535 : Int32) < x11) (r2 : ¬ x10 < 0 ∧ ¬ (65535 : Int32) < x10) (r3 : ¬ x9 < 0 ∧ ¬ (65535 : Int32) < x9) (r4 : ¬ x8 < 0 ∧ ¬ (65535 : Int32) < x8) (r5 : ¬ x7 < 0 ∧ ¬ (65535 : Int32) < x7) (r6 : ¬ x6 < 0 ∧ ¬ (65535 : Int32) < x6) (r7 : ¬ x5 < 0 ∧ ¬ (65535 : Int32) < x5) (r8 : ¬ x4 < 0 ∧ ¬ (65535 : Int32) < x4) (r9 : ¬ x3 < 0 ∧ ¬ (65535 : Int32) < x3) (r10 : ¬ x2 < 0 ∧ ¬ (65535 : Int32) < x2) (r11 : ¬ x1 < 0 ∧ ¬ (65535 : Int32) < x1) (r12 : ¬ x0 < 0 ∧ ¬ (65535 : Int32) < x0) :
    Met Z a0 ELs True n0 l (⟨"com/example/tenure/tenure/DaysUntimedPinLaw", "prefix", "([CI)[C"⟩ : MethodName) method_3_code 3 (Option.some (FieldType.array FieldType.char)) ({ frames := 0, cells := 1, slots := 12, locals := 0 } : Room) #[(.ref p0), (.int (12 : Int32))] h0 [] (fun v h so => (∃ a2 : Addr, ∃ k5 : ClassId, v = some (.ref a2) ∧ so = [] ∧ Keep h0 h [] ∧ h0.size ≤ a2 ∧ Arv Z h a2 k5 .char (12 : Int32) [(.int x0), (.int x1), (.int x2), (.int x3), (.int x4), (.int x5), (.int x6), (.int x7), (.int x8), (.int x9), (.int x10), (.int x11)] (.int 0))) := by
  refine Met.of (EWl V) (by first | decide +kernel | rfl) hO (L0 := #[.val (.ref p0), .val (.int (12 : Int32)), .unset]) rfl ?_
  intro p e s m below meth c T H
  show Go p e below _ (T.setTop (mkF m 0 #[.val (.ref p0), .val (.int (12 : Int32)), .unset] []))
  refine G.iloadN H dc_method_3_code_0 (pc' := 1) rfl rfl ?_
  refine G.newP H (aty := .char) (wd0 V) dc_method_3_code_1 (pc' := 3) rfl (by decide) (cap := 12) (by decide) (by decide) (by decide) (by decide) (vs := [(.int (0 : Int32)), (.int (0 : Int32)), (.int (0 : Int32)), (.int (0 : Int32)), (.int (0 : Int32)), (.int (0 : Int32)), (.int (0 : Int32)), (.int (0 : Int32)), (.int (0 : Int32)), (.int (0 : Int32)), (.int (0 : Int32)), (.int (0 : Int32))]) rfl ?_
  intro T1 h1_ a2 k5 ga2 H1 E3 A4
  have na2 : n0 ≤ a2 := Nat.le_trans H.le (Nat.le_of_eq ga2.symm)
  replace A4 : Arv Z h1_ a2 k5 .char (12 : Int32) [(.int (0 : Int32)), (.int (0 : Int32)), (.int (0 : Int32)), (.int (0 : Int32)), (.int (0 : Int32)), (.int (0 : Int32)), (.int (0 : Int32)), (.int (0 : Int32)), (.int (0 : Int32)), (.int (0 : Int32)), (.int (0 : Int32)), (.int (0 : Int32))] (.int 0) := A4
  show Go p e below _ (T1.setTop (mkF m 3 #[.val (.ref p0), .val (.int (12 : Int32)), .unset] [(.ref a2)]))
  refine G.astoreN H1 (L' := #[.val (.ref p0), .val (.int (12 : Int32)), .val (.ref a2)]) dc_method_3_code_3 (pc' := 4) rfl rfl rfl ?_
  refine G.iloadN H1 dc_method_3_code_4 (pc' := 5) rfl rfl ?_
  refine G.tswIn H1 dc_method_3_code_5 (by decide) (o := 159) rfl (by decide) (pc' := 164) rfl ?_
  refine G.aloadN H1 dc_method_3_code_164 (pc' := 165) rfl rfl rfl ?_
  refine G.bipush H1 dc_method_3_code_165 (pc' := 167) rfl (v := (11 : Int32)) rfl ?_
  refine G.aloadN H1 dc_method_3_code_167 (pc' := 168) rfl rfl rfl ?_
  refine G.bipush H1 dc_method_3_code_168 (pc' := 170) rfl (v := (11 : Int32)) rfl ?_
  have F6 : Arv Z h1_ p0 c0 .char (20 : Int32) [(.int x0), (.int x1), (.int x2), (.int x3), (.int x4), (.int x5), (.int x6), (.int x7), (.int x8), (.int x9), (.int x10), (.int x11), (.int x12), (.int x13), (.int x14), (.int x15), (.int x16), (.int x17), (.int x18), (.int x19)] (.int 0) := (Arv.ext f0 E3)
  refine G.caloadG H1 F6 (j := (11 : Int32)) (v := (.int x11)) (by decide) rfl dc_method_3_code_170 (pc' := 171) rfl ?_
  refine G.stC H1 A4 (by decide) (i := 11) rfl (Nat.le_of_ble_eq_true rfl) na2 (y := x11) (own_narC r1) dc_method_3_code_171 (pc' := 172) rfl ?_
  intro T7 h7_ H7 W8 A9
  replace A9 : Arv Z h7_ a2 k5 .char (12 : Int32) [(.int (0 : Int32)), (.int (0 : Int32)), (.int (0 : Int32)), (.int (0 : Int32)), (.int (0 : Int32)), (.int (0 : Int32)), (.int (0 : Int32)), (.int (0 : Int32)), (.int (0 : Int32)), (.int (0 : Int32)), (.int (0 : Int32)), (.int x11)] (.int 0) := A9
  show Go p e below _ (T7.setTop (mkF m 172 #[.val (.ref p0), .val (.int (12 : Int32)), .val (.ref a2)] []))
  refine G.aloadN H7 dc_method_3_code_172 (pc' := 173) rfl rfl rfl ?_
  refine G.bipush H7 dc_method_3_code_173 (pc' := 175) rfl (v := (10 : Int32)) rfl ?_
  refine G.aloadN H7 dc_method_3_code_175 (pc' := 176) rfl rfl rfl ?_
  refine G.bipush H7 dc_method_3_code_176 (pc' := 178) rfl (v := (10 : Int32)) rfl ?_
  have N10 : p0 ≠ a2 := (Nat.ne_of_lt (Nat.lt_of_lt_of_le f0.lt (Nat.le_of_eq ga2.symm)))
  have F11 : Arv Z h7_ p0 c0 .char (20 : Int32) [(.int x0), (.int x1), (.int x2), (.int x3), (.int x4), (.int x5), (.int x6), (.int x7), (.int x8), (.int x9), (.int x10), (.int x11), (.int x12), (.int x13), (.int x14), (.int x15), (.int x16), (.int x17), (.int x18), (.int x19)] (.int 0) := (Arv.other F6 W8 N10)
  refine G.caloadG H7 F11 (j := (10 : Int32)) (v := (.int x10)) (by decide) rfl dc_method_3_code_178 (pc' := 179) rfl ?_
  refine G.stC H7 A9 (by decide) (i := 10) rfl (Nat.le_of_ble_eq_true rfl) na2 (y := x10) (own_narC r2) dc_method_3_code_179 (pc' := 180) rfl ?_
  intro T12 h12_ H12 W13 A14
  replace A14 : Arv Z h12_ a2 k5 .char (12 : Int32) [(.int (0 : Int32)), (.int (0 : Int32)), (.int (0 : Int32)), (.int (0 : Int32)), (.int (0 : Int32)), (.int (0 : Int32)), (.int (0 : Int32)), (.int (0 : Int32)), (.int (0 : Int32)), (.int (0 : Int32)), (.int x10), (.int x11)] (.int 0) := A14
  show Go p e below _ (T12.setTop (mkF m 180 #[.val (.ref p0), .val (.int (12 : Int32)), .val (.ref a2)] []))
  refine G.aloadN H12 dc_method_3_code_180 (pc' := 181) rfl rfl rfl ?_
  refine G.bipush H12 dc_method_3_code_181 (pc' := 183) rfl (v := (9 : Int32)) rfl ?_
  refine G.aloadN H12 dc_method_3_code_183 (pc' := 184) rfl rfl rfl ?_
  refine G.bipush H12 dc_method_3_code_184 (pc' := 186) rfl (v := (9 : Int32)) rfl ?_
  have F15 : Arv Z h12_ p0 c0 .char (20 : Int32) [(.int x0), (.int x1), (.int x2), (.int x3), (.int x4), (.int x5), (.int x6), (.int x7), (.int x8), (.int x9), (.int x10), (.int x11), (.int x12), (.int x13), (.int x14), (.int x15), (.int x16), (.int x17), (.int x18), (.int x19)] (.int 0) := (Arv.other F11 W13 N10)
  refine G.caloadG H12 F15 (j := (9 : Int32)) (v := (.int x9)) (by decide) rfl dc_method_3_code_186 (pc' := 187) rfl ?_
  refine G.stC H12 A14 (by decide) (i := 9) rfl (Nat.le_of_ble_eq_true rfl) na2 (y := x9) (own_narC r3) dc_method_3_code_187 (pc' := 188) rfl ?_
  intro T16 h16_ H16 W17 A18
  replace A18 : Arv Z h16_ a2 k5 .char (12 : Int32) [(.int (0 : Int32)), (.int (0 : Int32)), (.int (0 : Int32)), (.int (0 : Int32)), (.int (0 : Int32)), (.int (0 : Int32)), (.int (0 : Int32)), (.int (0 : Int32)), (.int (0 : Int32)), (.int x9), (.int x10), (.int x11)] (.int 0) := A18
  show Go p e below _ (T16.setTop (mkF m 188 #[.val (.ref p0), .val (.int (12 : Int32)), .val (.ref a2)] []))
  refine G.aloadN H16 dc_method_3_code_188 (pc' := 189) rfl rfl rfl ?_
  refine G.bipush H16 dc_method_3_code_189 (pc' := 191) rfl (v := (8 : Int32)) rfl ?_
  refine G.aloadN H16 dc_method_3_code_191 (pc' := 192) rfl rfl rfl ?_
  refine G.bipush H16 dc_method_3_code_192 (pc' := 194) rfl (v := (8 : Int32)) rfl ?_
  have F19 : Arv Z h16_ p0 c0 .char (20 : Int32) [(.int x0), (.int x1), (.int x2), (.int x3), (.int x4), (.int x5), (.int x6), (.int x7), (.int x8), (.int x9), (.int x10), (.int x11), (.int x12), (.int x13), (.int x14), (.int x15), (.int x16), (.int x17), (.int x18), (.int x19)] (.int 0) := (Arv.other F15 W17 N10)
  refine G.caloadG H16 F19 (j := (8 : Int32)) (v := (.int x8)) (by decide) rfl dc_method_3_code_194 (pc' := 195) rfl ?_
  refine G.stC H16 A18 (by decide) (i := 8) rfl (Nat.le_of_ble_eq_true rfl) na2 (y := x8) (own_narC r4) dc_method_3_code_195 (pc' := 196) rfl ?_
  intro T20 h20_ H20 W21 A22
  replace A22 : Arv Z h20_ a2 k5 .char (12 : Int32) [(.int (0 : Int32)), (.int (0 : Int32)), (.int (0 : Int32)), (.int (0 : Int32)), (.int (0 : Int32)), (.int (0 : Int32)), (.int (0 : Int32)), (.int (0 : Int32)), (.int x8), (.int x9), (.int x10), (.int x11)] (.int 0) := A22
  show Go p e below _ (T20.setTop (mkF m 196 #[.val (.ref p0), .val (.int (12 : Int32)), .val (.ref a2)] []))
  refine G.aloadN H20 dc_method_3_code_196 (pc' := 197) rfl rfl rfl ?_
  refine G.bipush H20 dc_method_3_code_197 (pc' := 199) rfl (v := (7 : Int32)) rfl ?_
  refine G.aloadN H20 dc_method_3_code_199 (pc' := 200) rfl rfl rfl ?_
  refine G.bipush H20 dc_method_3_code_200 (pc' := 202) rfl (v := (7 : Int32)) rfl ?_
  have F23 : Arv Z h20_ p0 c0 .char (20 : Int32) [(.int x0), (.int x1), (.int x2), (.int x3), (.int x4), (.int x5), (.int x6), (.int x7), (.int x8), (.int x9), (.int x10), (.int x11), (.int x12), (.int x13), (.int x14), (.int x15), (.int x16), (.int x17), (.int x18), (.int x19)] (.int 0) := (Arv.other F19 W21 N10)
  refine G.caloadG H20 F23 (j := (7 : Int32)) (v := (.int x7)) (by decide) rfl dc_method_3_code_202 (pc' := 203) rfl ?_
  refine G.stC H20 A22 (by decide) (i := 7) rfl (Nat.le_of_ble_eq_true rfl) na2 (y := x7) (own_narC r5) dc_method_3_code_203 (pc' := 204) rfl ?_
  intro T24 h24_ H24 W25 A26
  replace A26 : Arv Z h24_ a2 k5 .char (12 : Int32) [(.int (0 : Int32)), (.int (0 : Int32)), (.int (0 : Int32)), (.int (0 : Int32)), (.int (0 : Int32)), (.int (0 : Int32)), (.int (0 : Int32)), (.int x7), (.int x8), (.int x9), (.int x10), (.int x11)] (.int 0) := A26
  show Go p e below _ (T24.setTop (mkF m 204 #[.val (.ref p0), .val (.int (12 : Int32)), .val (.ref a2)] []))
  refine G.aloadN H24 dc_method_3_code_204 (pc' := 205) rfl rfl rfl ?_
  refine G.bipush H24 dc_method_3_code_205 (pc' := 207) rfl (v := (6 : Int32)) rfl ?_
  refine G.aloadN H24 dc_method_3_code_207 (pc' := 208) rfl rfl rfl ?_
  refine G.bipush H24 dc_method_3_code_208 (pc' := 210) rfl (v := (6 : Int32)) rfl ?_
  have F27 : Arv Z h24_ p0 c0 .char (20 : Int32) [(.int x0), (.int x1), (.int x2), (.int x3), (.int x4), (.int x5), (.int x6), (.int x7), (.int x8), (.int x9), (.int x10), (.int x11), (.int x12), (.int x13), (.int x14), (.int x15), (.int x16), (.int x17), (.int x18), (.int x19)] (.int 0) := (Arv.other F23 W25 N10)
  refine G.caloadG H24 F27 (j := (6 : Int32)) (v := (.int x6)) (by decide) rfl dc_method_3_code_210 (pc' := 211) rfl ?_
  refine G.stC H24 A26 (by decide) (i := 6) rfl (Nat.le_of_ble_eq_true rfl) na2 (y := x6) (own_narC r6) dc_method_3_code_211 (pc' := 212) rfl ?_
  intro T28 h28_ H28 W29 A30
  replace A30 : Arv Z h28_ a2 k5 .char (12 : Int32) [(.int (0 : Int32)), (.int (0 : Int32)), (.int (0 : Int32)), (.int (0 : Int32)), (.int (0 : Int32)), (.int (0 : Int32)), (.int x6), (.int x7), (.int x8), (.int x9), (.int x10), (.int x11)] (.int 0) := A30
  show Go p e below _ (T28.setTop (mkF m 212 #[.val (.ref p0), .val (.int (12 : Int32)), .val (.ref a2)] []))
  refine G.aloadN H28 dc_method_3_code_212 (pc' := 213) rfl rfl rfl ?_
  refine G.iconst H28 dc_method_3_code_213 (pc' := 214) rfl (v := (5 : Int32)) rfl ?_
  refine G.aloadN H28 dc_method_3_code_214 (pc' := 215) rfl rfl rfl ?_
  refine G.iconst H28 dc_method_3_code_215 (pc' := 216) rfl (v := (5 : Int32)) rfl ?_
  have F31 : Arv Z h28_ p0 c0 .char (20 : Int32) [(.int x0), (.int x1), (.int x2), (.int x3), (.int x4), (.int x5), (.int x6), (.int x7), (.int x8), (.int x9), (.int x10), (.int x11), (.int x12), (.int x13), (.int x14), (.int x15), (.int x16), (.int x17), (.int x18), (.int x19)] (.int 0) := (Arv.other F27 W29 N10)
  refine G.caloadG H28 F31 (j := (5 : Int32)) (v := (.int x5)) (by decide) rfl dc_method_3_code_216 (pc' := 217) rfl ?_
  refine G.stC H28 A30 (by decide) (i := 5) rfl (Nat.le_of_ble_eq_true rfl) na2 (y := x5) (own_narC r7) dc_method_3_code_217 (pc' := 218) rfl ?_
  intro T32 h32_ H32 W33 A34
  replace A34 : Arv Z h32_ a2 k5 .char (12 : Int32) [(.int (0 : Int32)), (.int (0 : Int32)), (.int (0 : Int32)), (.int (0 : Int32)), (.int (0 : Int32)), (.int x5), (.int x6), (.int x7), (.int x8), (.int x9), (.int x10), (.int x11)] (.int 0) := A34
  show Go p e below _ (T32.setTop (mkF m 218 #[.val (.ref p0), .val (.int (12 : Int32)), .val (.ref a2)] []))
  refine G.aloadN H32 dc_method_3_code_218 (pc' := 219) rfl rfl rfl ?_
  refine G.iconst H32 dc_method_3_code_219 (pc' := 220) rfl (v := (4 : Int32)) rfl ?_
  refine G.aloadN H32 dc_method_3_code_220 (pc' := 221) rfl rfl rfl ?_
  refine G.iconst H32 dc_method_3_code_221 (pc' := 222) rfl (v := (4 : Int32)) rfl ?_
  have F35 : Arv Z h32_ p0 c0 .char (20 : Int32) [(.int x0), (.int x1), (.int x2), (.int x3), (.int x4), (.int x5), (.int x6), (.int x7), (.int x8), (.int x9), (.int x10), (.int x11), (.int x12), (.int x13), (.int x14), (.int x15), (.int x16), (.int x17), (.int x18), (.int x19)] (.int 0) := (Arv.other F31 W33 N10)
  refine G.caloadG H32 F35 (j := (4 : Int32)) (v := (.int x4)) (by decide) rfl dc_method_3_code_222 (pc' := 223) rfl ?_
  refine G.stC H32 A34 (by decide) (i := 4) rfl (Nat.le_of_ble_eq_true rfl) na2 (y := x4) (own_narC r8) dc_method_3_code_223 (pc' := 224) rfl ?_
  intro T36 h36_ H36 W37 A38
  replace A38 : Arv Z h36_ a2 k5 .char (12 : Int32) [(.int (0 : Int32)), (.int (0 : Int32)), (.int (0 : Int32)), (.int (0 : Int32)), (.int x4), (.int x5), (.int x6), (.int x7), (.int x8), (.int x9), (.int x10), (.int x11)] (.int 0) := A38
  show Go p e below _ (T36.setTop (mkF m 224 #[.val (.ref p0), .val (.int (12 : Int32)), .val (.ref a2)] []))
  refine G.aloadN H36 dc_method_3_code_224 (pc' := 225) rfl rfl rfl ?_
  refine G.iconst H36 dc_method_3_code_225 (pc' := 226) rfl (v := (3 : Int32)) rfl ?_
  refine G.aloadN H36 dc_method_3_code_226 (pc' := 227) rfl rfl rfl ?_
  refine G.iconst H36 dc_method_3_code_227 (pc' := 228) rfl (v := (3 : Int32)) rfl ?_
  have F39 : Arv Z h36_ p0 c0 .char (20 : Int32) [(.int x0), (.int x1), (.int x2), (.int x3), (.int x4), (.int x5), (.int x6), (.int x7), (.int x8), (.int x9), (.int x10), (.int x11), (.int x12), (.int x13), (.int x14), (.int x15), (.int x16), (.int x17), (.int x18), (.int x19)] (.int 0) := (Arv.other F35 W37 N10)
  refine G.caloadG H36 F39 (j := (3 : Int32)) (v := (.int x3)) (by decide) rfl dc_method_3_code_228 (pc' := 229) rfl ?_
  refine G.stC H36 A38 (by decide) (i := 3) rfl (Nat.le_of_ble_eq_true rfl) na2 (y := x3) (own_narC r9) dc_method_3_code_229 (pc' := 230) rfl ?_
  intro T40 h40_ H40 W41 A42
  replace A42 : Arv Z h40_ a2 k5 .char (12 : Int32) [(.int (0 : Int32)), (.int (0 : Int32)), (.int (0 : Int32)), (.int x3), (.int x4), (.int x5), (.int x6), (.int x7), (.int x8), (.int x9), (.int x10), (.int x11)] (.int 0) := A42
  show Go p e below _ (T40.setTop (mkF m 230 #[.val (.ref p0), .val (.int (12 : Int32)), .val (.ref a2)] []))
  refine G.aloadN H40 dc_method_3_code_230 (pc' := 231) rfl rfl rfl ?_
  refine G.iconst H40 dc_method_3_code_231 (pc' := 232) rfl (v := (2 : Int32)) rfl ?_
  refine G.aloadN H40 dc_method_3_code_232 (pc' := 233) rfl rfl rfl ?_
  refine G.iconst H40 dc_method_3_code_233 (pc' := 234) rfl (v := (2 : Int32)) rfl ?_
  have F43 : Arv Z h40_ p0 c0 .char (20 : Int32) [(.int x0), (.int x1), (.int x2), (.int x3), (.int x4), (.int x5), (.int x6), (.int x7), (.int x8), (.int x9), (.int x10), (.int x11), (.int x12), (.int x13), (.int x14), (.int x15), (.int x16), (.int x17), (.int x18), (.int x19)] (.int 0) := (Arv.other F39 W41 N10)
  refine G.caloadG H40 F43 (j := (2 : Int32)) (v := (.int x2)) (by decide) rfl dc_method_3_code_234 (pc' := 235) rfl ?_
  refine G.stC H40 A42 (by decide) (i := 2) rfl (Nat.le_of_ble_eq_true rfl) na2 (y := x2) (own_narC r10) dc_method_3_code_235 (pc' := 236) rfl ?_
  intro T44 h44_ H44 W45 A46
  replace A46 : Arv Z h44_ a2 k5 .char (12 : Int32) [(.int (0 : Int32)), (.int (0 : Int32)), (.int x2), (.int x3), (.int x4), (.int x5), (.int x6), (.int x7), (.int x8), (.int x9), (.int x10), (.int x11)] (.int 0) := A46
  show Go p e below _ (T44.setTop (mkF m 236 #[.val (.ref p0), .val (.int (12 : Int32)), .val (.ref a2)] []))
  refine G.aloadN H44 dc_method_3_code_236 (pc' := 237) rfl rfl rfl ?_
  refine G.iconst H44 dc_method_3_code_237 (pc' := 238) rfl (v := (1 : Int32)) rfl ?_
  refine G.aloadN H44 dc_method_3_code_238 (pc' := 239) rfl rfl rfl ?_
  refine G.iconst H44 dc_method_3_code_239 (pc' := 240) rfl (v := (1 : Int32)) rfl ?_
  have F47 : Arv Z h44_ p0 c0 .char (20 : Int32) [(.int x0), (.int x1), (.int x2), (.int x3), (.int x4), (.int x5), (.int x6), (.int x7), (.int x8), (.int x9), (.int x10), (.int x11), (.int x12), (.int x13), (.int x14), (.int x15), (.int x16), (.int x17), (.int x18), (.int x19)] (.int 0) := (Arv.other F43 W45 N10)
  refine G.caloadG H44 F47 (j := (1 : Int32)) (v := (.int x1)) (by decide) rfl dc_method_3_code_240 (pc' := 241) rfl ?_
  refine G.stC H44 A46 (by decide) (i := 1) rfl (Nat.le_of_ble_eq_true rfl) na2 (y := x1) (own_narC r11) dc_method_3_code_241 (pc' := 242) rfl ?_
  intro T48 h48_ H48 W49 A50
  replace A50 : Arv Z h48_ a2 k5 .char (12 : Int32) [(.int (0 : Int32)), (.int x1), (.int x2), (.int x3), (.int x4), (.int x5), (.int x6), (.int x7), (.int x8), (.int x9), (.int x10), (.int x11)] (.int 0) := A50
  show Go p e below _ (T48.setTop (mkF m 242 #[.val (.ref p0), .val (.int (12 : Int32)), .val (.ref a2)] []))
  refine G.aloadN H48 dc_method_3_code_242 (pc' := 243) rfl rfl rfl ?_
  refine G.iconst H48 dc_method_3_code_243 (pc' := 244) rfl (v := (0 : Int32)) rfl ?_
  refine G.aloadN H48 dc_method_3_code_244 (pc' := 245) rfl rfl rfl ?_
  refine G.iconst H48 dc_method_3_code_245 (pc' := 246) rfl (v := (0 : Int32)) rfl ?_
  have F51 : Arv Z h48_ p0 c0 .char (20 : Int32) [(.int x0), (.int x1), (.int x2), (.int x3), (.int x4), (.int x5), (.int x6), (.int x7), (.int x8), (.int x9), (.int x10), (.int x11), (.int x12), (.int x13), (.int x14), (.int x15), (.int x16), (.int x17), (.int x18), (.int x19)] (.int 0) := (Arv.other F47 W49 N10)
  refine G.caloadG H48 F51 (j := (0 : Int32)) (v := (.int x0)) (by decide) rfl dc_method_3_code_246 (pc' := 247) rfl ?_
  refine G.stC H48 A50 (by decide) (i := 0) rfl (Nat.le_of_ble_eq_true rfl) na2 (y := x0) (own_narC r12) dc_method_3_code_247 (pc' := 248) rfl ?_
  intro T52 h52_ H52 W53 A54
  replace A54 : Arv Z h52_ a2 k5 .char (12 : Int32) [(.int x0), (.int x1), (.int x2), (.int x3), (.int x4), (.int x5), (.int x6), (.int x7), (.int x8), (.int x9), (.int x10), (.int x11)] (.int 0) := A54
  show Go p e below _ (T52.setTop (mkF m 248 #[.val (.ref p0), .val (.int (12 : Int32)), .val (.ref a2)] []))
  refine G.aloadN H52 dc_method_3_code_248 (pc' := 249) rfl rfl rfl ?_
  have K55 : Keep h0 h52_ [] := (Keep.wr (Keep.wr (Keep.wr (Keep.wr (Keep.wr (Keep.wr (Keep.wr (Keep.wr (Keep.wr (Keep.wr (Keep.wr (Keep.wr (Keep.ext (Keep.refl h0 []) E3) W8 (Or.inr (Nat.le_of_eq ga2.symm))) W13 (Or.inr (Nat.le_of_eq ga2.symm))) W17 (Or.inr (Nat.le_of_eq ga2.symm))) W21 (Or.inr (Nat.le_of_eq ga2.symm))) W25 (Or.inr (Nat.le_of_eq ga2.symm))) W29 (Or.inr (Nat.le_of_eq ga2.symm))) W33 (Or.inr (Nat.le_of_eq ga2.symm))) W37 (Or.inr (Nat.le_of_eq ga2.symm))) W41 (Or.inr (Nat.le_of_eq ga2.symm))) W45 (Or.inr (Nat.le_of_eq ga2.symm))) W49 (Or.inr (Nat.le_of_eq ga2.symm))) W53 (Or.inr (Nat.le_of_eq ga2.symm)))
  exact G.retA H52 (t := (.array .char)) rfl rfl rfl dc_method_3_code_249 (so := []) all0 (by decide) (by decide) ⟨a2, k5, rfl, rfl, K55, (Nat.le_of_eq ga2.symm), A54⟩
set_option maxRecDepth 65536 in
set_option maxHeartbeats 40000000 in
theorem m42_length {l : Launch} {Z : State} {a0 : Array Value} {n0 : Nat} {z_COMPACT_STRINGS : Int32} {z_SIOOBE_FORMATTER : Value} (V : Env1 Z a0 n0 z_COMPACT_STRINGS z_SIOOBE_FORMATTER) (p0 : Addr) (p1 : Addr) (c0 : ClassId) (x0 : Int32) (x1 : Int32) (x2 : Int32) (x3 : Int32) (x4 : Int32) (x5 : Int32) (x6 : Int32) (x7 : Int32) (x8 : Int32) (x9 : Int32) (x10 : Int32) (x11 : Int32) (h0 : Heap) (hO : Old Z n0 h0) (f0 : Fld Z h0 p0 "java/lang/String" "value" "[B" (.ref p1)) (f1 : Arv Z h0 p1 c0 .byte (12 : Int32) [(.int x0), (.int x1), (.int x2), (.int x3), (.int x4), (.int x5), (.int x6), (.int x7), (.int x8), (.int x9), (.int x10), (.int x11)] (.int 0)) (f2 : Exa Z h0 p0 "java/lang/String") (f3 : Fld Z h0 p0 "java/lang/String" "coder" "B" (.int (0 : Int32))) :
    Met Z a0 ELs True n0 l (⟨"java/lang/String", "length", "()I"⟩ : MethodName) jdk_42_method_54_code 1 (Option.some FieldType.int) ({ frames := 1, cells := 0, slots := 0, locals := 13 } : Room) #[(.ref p0)] h0 [] (fun v h so => (v = some (.int (12 : Int32)) ∧ so = [] ∧ h0 = h)) := by
  refine Met.of (EWl V) (by first | decide +kernel | rfl) hO (L0 := #[.val (.ref p0)]) rfl ?_
  intro p e s m below meth c T H
  show Go p e below _ (T.setTop (mkF m 0 #[.val (.ref p0)] []))
  refine G.aloadN H dc_jdk_42_method_54_code_0 (pc' := 1) rfl rfl rfl ?_
  refine G.getF H (wd34 V) Via.refl f0 dc_jdk_42_method_54_code_1 (pc' := 4) rfl ?_
  intro T1 H2
  refine G.arrlen H2 f1 dc_jdk_42_method_54_code_4 (pc' := 5) rfl ?_
  refine G.aloadN H2 dc_jdk_42_method_54_code_5 (pc' := 6) rfl rfl rfl ?_
  refine G.callV H2 (m4_coder V p0 h0 H2.old f3) (wd45 V) (wd46 V) (nf_sel (wd48 V)) (wd48 V) (wd47 V) (wd5 V) (wd49 V) (by decide) f2 (argsL := []) (rest := [(.int (12 : Int32))]) (W := 1) rfl rfl (lenOf (pd_3) rfl) rfl rfl dc_jdk_42_method_54_code_6 (pc' := 9) rfl (by decide) (by decide) (by decide) (by decide) all0 ?_
  intro T3 h3_ v4 s5 H3 Q6
  obtain ⟨rfl, rfl, rfl⟩ := Q6
  show Go p e below _ (T3.setTop (mkF m 9 #[.val (.ref p0)] [(.int (0 : Int32)), (.int (12 : Int32))]))
  refine G.ishr H3 dc_jdk_42_method_54_code_9 (pc' := 10) rfl ?_
  show Go p e below _ (T3.setTop (mkF m 10 #[.val (.ref p0)] [(.int (12 : Int32))]))
  exact G.retI H3 rfl dc_jdk_42_method_54_code_10 (so := []) all0 (by decide) (by decide) ⟨rfl, rfl, rfl⟩
set_option maxRecDepth 65536 in
set_option maxHeartbeats 40000000 in
theorem m43_untimed {l : Launch} {Z : State} {a0 : Array Value} {n0 : Nat} {z_COMPACT_STRINGS : Int32} {z_SIOOBE_FORMATTER : Value} (V : Env1 Z a0 n0 z_COMPACT_STRINGS z_SIOOBE_FORMATTER) (p0 : Addr) (p1 : Addr) (c0 : ClassId) (x0 : Int32) (x1 : Int32) (x2 : Int32) (x3 : Int32) (x4 : Int32) (x5 : Int32) (x6 : Int32) (x7 : Int32) (x8 : Int32) (x9 : Int32) (x10 : Int32) (x11 : Int32) (h0 : Heap) (hO : Old Z n0 h0) (f0 : Exa Z h0 p0 "java/lang/String") (f1 : Fld Z h0 p0 "java/lang/String" "value" "[B" (.ref p1)) (f2 : Arv Z h0 p1 c0 .byte (12 : Int32) [(.int x0), (.int x1), (.int x2), (.int x3), (.int x4), (.int x5), (.int x6), (.int x7), (.int x8), (.int x9), (.int x10), (.int x11)] (.int 0)) (f3 : Fld Z h0 p0 "java/lang/String" "coder" "B" (.int (0 : Int32))) :
    Met Z a0 ELs True n0 l (⟨"com/example/tenure/tenure/Days", "untimed", "(Ljava/lang/String;)Z"⟩ : MethodName) prog_14_method_4_code 1 (Option.some FieldType.boolean) ({ frames := 2, cells := 2, slots := 44, locals := 26 } : Room) #[(.ref p0)] h0 [p0, p1] (fun v h so => (v = some (.int (0 : Int32)) ∧ so = [] ∧ Keep h0 h [])) := by
  refine Met.of (EWl V) (by first | decide +kernel | rfl) hO (L0 := #[.val (.ref p0)]) rfl ?_
  intro p e s m below meth c T H
  show Go p e below _ (T.setTop (mkF m 0 #[.val (.ref p0)] []))
  refine G.aloadN H dc_prog_14_method_4_code_0 (pc' := 1) rfl rfl rfl ?_
  refine G.callV H (m42_length V p0 p1 c0 x0 x1 x2 x3 x4 x5 x6 x7 x8 x9 x10 x11 h0 H.old f1 f2 f0 f3) (wd40 V) (wd41 V) (nf_sel (wd43 V)) (wd43 V) (wd42 V) (wd5 V) (wd44 V) (by decide) f0 (argsL := []) (rest := []) (W := 0) rfl rfl (lenOf (pd_4) rfl) rfl rfl dc_prog_14_method_4_code_1 (pc' := 4) rfl (by decide) (by decide) (by decide) (by decide) all0 ?_
  intro T1 h1_ v2 s3 H1 Q4
  obtain ⟨rfl, rfl, rfl⟩ := Q4
  show Go p e below _ (T1.setTop (mkF m 4 #[.val (.ref p0)] [(.int (12 : Int32))]))
  refine G.ldcS H1 trivial (wS V) (wd50 V) (by decide) (vs := [(.int (48 : Int32)), (.int (48 : Int32)), (.int (48 : Int32)), (.int (48 : Int32)), (.int (45 : Int32)), (.int (48 : Int32)), (.int (48 : Int32)), (.int (45 : Int32)), (.int (48 : Int32)), (.int (48 : Int32))]) (z := (10 : Int32)) (by decide) (by decide) rfl (n := 40) (by decide) (by decide) (by decide) (by decide) dc_prog_14_method_4_code_4 (pc' := 6) rfl ?_
  intro T5 h5_ a6 b8 k9 H5 E7 X10 F11 F12 A13 Q14
  have S15 : Str Z h5_ a6 b8 k9 [(48 : Int32), (48 : Int32), (48 : Int32), (48 : Int32), (45 : Int32), (48 : Int32), (48 : Int32), (45 : Int32), (48 : Int32), (48 : Int32)] := ⟨X10, F11, F12, A13, by decide, by decide⟩
  show Go p e below _ (T5.setTop (mkF m 6 #[.val (.ref p0)] [(.ref a6), (.int (12 : Int32))]))
  refine G.callV H5 (m6_length V a6 b8 k9 h5_ H5.old F12 A13 X10 F11) (wd40 V) (wd41 V) (nf_sel (wd43 V)) (wd43 V) (wd42 V) (wd5 V) (wd44 V) (by decide) X10 (argsL := []) (rest := [(.int (12 : Int32))]) (W := 1) rfl rfl (lenOf (pd_4) rfl) rfl rfl dc_prog_14_method_4_code_6 (pc' := 9) rfl (by decide) (by decide) (by decide) (by decide) all0 ?_
  intro T16 h16_ v17 s18 H16 Q19
  obtain ⟨rfl, rfl, rfl⟩ := Q19
  show Go p e below _ (T16.setTop (mkF m 9 #[.val (.ref p0)] [(.int (10 : Int32)), (.int (12 : Int32))]))
  refine G.icmpYes H16 dc_prog_14_method_4_code_9 (by decide) (by decide) (pc' := 16) rfl ?_
  refine G.iconst H16 dc_prog_14_method_4_code_16 (pc' := 17) rfl (v := (0 : Int32)) rfl ?_
  have K20 : Keep h0 h5_ [] := (Keep.ext (Keep.refl h0 []) E7)
  exact G.retN H16 (t := .boolean) rfl (by decide) dc_prog_14_method_4_code_17 (so := []) all0 (by decide) (by decide) ⟨rfl, rfl, K20⟩
set_option maxRecDepth 65536 in
set_option maxHeartbeats 40000000 in
theorem m44_prefix {l : Launch} {Z : State} {a0 : Array Value} {n0 : Nat} {z_COMPACT_STRINGS : Int32} {z_SIOOBE_FORMATTER : Value} (V : Env1 Z a0 n0 z_COMPACT_STRINGS z_SIOOBE_FORMATTER) (p0 : Addr) (c0 : ClassId) (x0 : Int32) (x1 : Int32) (x2 : Int32) (x3 : Int32) (x4 : Int32) (x5 : Int32) (x6 : Int32) (x7 : Int32) (x8 : Int32) (x9 : Int32) (x10 : Int32) (x11 : Int32) (x12 : Int32) (x13 : Int32) (x14 : Int32) (x15 : Int32) (x16 : Int32) (x17 : Int32) (x18 : Int32) (x19 : Int32) (h0 : Heap) (hO : Old Z n0 h0) (f0 : Arv Z h0 p0 c0 .char (20 : Int32) [(.int x0), (.int x1), (.int x2), (.int x3), (.int x4), (.int x5), (.int x6), (.int x7), (.int x8), (.int x9), (.int x10), (.int x11), (.int x12), (.int x13), (.int x14), (.int x15), (.int x16), (.int x17), (.int x18), (.int x19)] (.int 0)) (r1 : ¬ x12 < 0 ∧ ¬ (65535 : Int32) < x12) (r2 : ¬ x11 < 0 ∧ ¬ (65535 : Int32) < x11) (r3 : ¬ x10 < 0 ∧ ¬ (65535 : Int32) < x10) (r4 : ¬ x9 < 0 ∧ ¬ (65535 : Int32) < x9) (r5 : ¬ x8 < 0 ∧ ¬ (65535 : Int32) < x8) (r6 : ¬ x7 < 0 ∧ ¬ (65535 : Int32) < x7) (r7 : ¬ x6 < 0 ∧ ¬ (65535 : Int32) < x6) (r8 : ¬ x5 < 0 ∧ ¬ (65535 : Int32) < x5) (r9 : ¬ x4 < 0 ∧ ¬ (65535 : Int32) < x4) (r10 : ¬ x3 < 0 ∧ ¬ (65535 : Int32) < x3) (r11 : ¬ x2 < 0 ∧ ¬ (65535 : Int32) < x2) (r12 : ¬ x1 < 0 ∧ ¬ (65535 : Int32) < x1) (r13 : ¬ x0 < 0 ∧ ¬ (65535 : Int32) < x0) :
    Met Z a0 ELs True n0 l (⟨"com/example/tenure/tenure/DaysUntimedPinLaw", "prefix", "([CI)[C"⟩ : MethodName) method_3_code 3 (Option.some (FieldType.array FieldType.char)) ({ frames := 0, cells := 1, slots := 13, locals := 0 } : Room) #[(.ref p0), (.int (13 : Int32))] h0 [] (fun v h so => (∃ a2 : Addr, ∃ k5 : ClassId, v = some (.ref a2) ∧ so = [] ∧ Keep h0 h [] ∧ h0.size ≤ a2 ∧ Arv Z h a2 k5 .char (13 : Int32) [(.int x0), (.int x1), (.int x2), (.int x3), (.int x4), (.int x5), (.int x6), (.int x7), (.int x8), (.int x9), (.int x10), (.int x11), (.int x12)] (.int 0))) := by
  refine Met.of (EWl V) (by first | decide +kernel | rfl) hO (L0 := #[.val (.ref p0), .val (.int (13 : Int32)), .unset]) rfl ?_
  intro p e s m below meth c T H
  show Go p e below _ (T.setTop (mkF m 0 #[.val (.ref p0), .val (.int (13 : Int32)), .unset] []))
  refine G.iloadN H dc_method_3_code_0 (pc' := 1) rfl rfl ?_
  refine G.newP H (aty := .char) (wd0 V) dc_method_3_code_1 (pc' := 3) rfl (by decide) (cap := 13) (by decide) (by decide) (by decide) (by decide) (vs := [(.int (0 : Int32)), (.int (0 : Int32)), (.int (0 : Int32)), (.int (0 : Int32)), (.int (0 : Int32)), (.int (0 : Int32)), (.int (0 : Int32)), (.int (0 : Int32)), (.int (0 : Int32)), (.int (0 : Int32)), (.int (0 : Int32)), (.int (0 : Int32)), (.int (0 : Int32))]) rfl ?_
  intro T1 h1_ a2 k5 ga2 H1 E3 A4
  have na2 : n0 ≤ a2 := Nat.le_trans H.le (Nat.le_of_eq ga2.symm)
  replace A4 : Arv Z h1_ a2 k5 .char (13 : Int32) [(.int (0 : Int32)), (.int (0 : Int32)), (.int (0 : Int32)), (.int (0 : Int32)), (.int (0 : Int32)), (.int (0 : Int32)), (.int (0 : Int32)), (.int (0 : Int32)), (.int (0 : Int32)), (.int (0 : Int32)), (.int (0 : Int32)), (.int (0 : Int32)), (.int (0 : Int32))] (.int 0) := A4
  show Go p e below _ (T1.setTop (mkF m 3 #[.val (.ref p0), .val (.int (13 : Int32)), .unset] [(.ref a2)]))
  refine G.astoreN H1 (L' := #[.val (.ref p0), .val (.int (13 : Int32)), .val (.ref a2)]) dc_method_3_code_3 (pc' := 4) rfl rfl rfl ?_
  refine G.iloadN H1 dc_method_3_code_4 (pc' := 5) rfl rfl ?_
  refine G.tswIn H1 dc_method_3_code_5 (by decide) (o := 151) rfl (by decide) (pc' := 156) rfl ?_
  refine G.aloadN H1 dc_method_3_code_156 (pc' := 157) rfl rfl rfl ?_
  refine G.bipush H1 dc_method_3_code_157 (pc' := 159) rfl (v := (12 : Int32)) rfl ?_
  refine G.aloadN H1 dc_method_3_code_159 (pc' := 160) rfl rfl rfl ?_
  refine G.bipush H1 dc_method_3_code_160 (pc' := 162) rfl (v := (12 : Int32)) rfl ?_
  have F6 : Arv Z h1_ p0 c0 .char (20 : Int32) [(.int x0), (.int x1), (.int x2), (.int x3), (.int x4), (.int x5), (.int x6), (.int x7), (.int x8), (.int x9), (.int x10), (.int x11), (.int x12), (.int x13), (.int x14), (.int x15), (.int x16), (.int x17), (.int x18), (.int x19)] (.int 0) := (Arv.ext f0 E3)
  refine G.caloadG H1 F6 (j := (12 : Int32)) (v := (.int x12)) (by decide) rfl dc_method_3_code_162 (pc' := 163) rfl ?_
  refine G.stC H1 A4 (by decide) (i := 12) rfl (Nat.le_of_ble_eq_true rfl) na2 (y := x12) (own_narC r1) dc_method_3_code_163 (pc' := 164) rfl ?_
  intro T7 h7_ H7 W8 A9
  replace A9 : Arv Z h7_ a2 k5 .char (13 : Int32) [(.int (0 : Int32)), (.int (0 : Int32)), (.int (0 : Int32)), (.int (0 : Int32)), (.int (0 : Int32)), (.int (0 : Int32)), (.int (0 : Int32)), (.int (0 : Int32)), (.int (0 : Int32)), (.int (0 : Int32)), (.int (0 : Int32)), (.int (0 : Int32)), (.int x12)] (.int 0) := A9
  show Go p e below _ (T7.setTop (mkF m 164 #[.val (.ref p0), .val (.int (13 : Int32)), .val (.ref a2)] []))
  refine G.aloadN H7 dc_method_3_code_164 (pc' := 165) rfl rfl rfl ?_
  refine G.bipush H7 dc_method_3_code_165 (pc' := 167) rfl (v := (11 : Int32)) rfl ?_
  refine G.aloadN H7 dc_method_3_code_167 (pc' := 168) rfl rfl rfl ?_
  refine G.bipush H7 dc_method_3_code_168 (pc' := 170) rfl (v := (11 : Int32)) rfl ?_
  have N10 : p0 ≠ a2 := (Nat.ne_of_lt (Nat.lt_of_lt_of_le f0.lt (Nat.le_of_eq ga2.symm)))
  have F11 : Arv Z h7_ p0 c0 .char (20 : Int32) [(.int x0), (.int x1), (.int x2), (.int x3), (.int x4), (.int x5), (.int x6), (.int x7), (.int x8), (.int x9), (.int x10), (.int x11), (.int x12), (.int x13), (.int x14), (.int x15), (.int x16), (.int x17), (.int x18), (.int x19)] (.int 0) := (Arv.other F6 W8 N10)
  refine G.caloadG H7 F11 (j := (11 : Int32)) (v := (.int x11)) (by decide) rfl dc_method_3_code_170 (pc' := 171) rfl ?_
  refine G.stC H7 A9 (by decide) (i := 11) rfl (Nat.le_of_ble_eq_true rfl) na2 (y := x11) (own_narC r2) dc_method_3_code_171 (pc' := 172) rfl ?_
  intro T12 h12_ H12 W13 A14
  replace A14 : Arv Z h12_ a2 k5 .char (13 : Int32) [(.int (0 : Int32)), (.int (0 : Int32)), (.int (0 : Int32)), (.int (0 : Int32)), (.int (0 : Int32)), (.int (0 : Int32)), (.int (0 : Int32)), (.int (0 : Int32)), (.int (0 : Int32)), (.int (0 : Int32)), (.int (0 : Int32)), (.int x11), (.int x12)] (.int 0) := A14
  show Go p e below _ (T12.setTop (mkF m 172 #[.val (.ref p0), .val (.int (13 : Int32)), .val (.ref a2)] []))
  refine G.aloadN H12 dc_method_3_code_172 (pc' := 173) rfl rfl rfl ?_
  refine G.bipush H12 dc_method_3_code_173 (pc' := 175) rfl (v := (10 : Int32)) rfl ?_
  refine G.aloadN H12 dc_method_3_code_175 (pc' := 176) rfl rfl rfl ?_
  refine G.bipush H12 dc_method_3_code_176 (pc' := 178) rfl (v := (10 : Int32)) rfl ?_
  have F15 : Arv Z h12_ p0 c0 .char (20 : Int32) [(.int x0), (.int x1), (.int x2), (.int x3), (.int x4), (.int x5), (.int x6), (.int x7), (.int x8), (.int x9), (.int x10), (.int x11), (.int x12), (.int x13), (.int x14), (.int x15), (.int x16), (.int x17), (.int x18), (.int x19)] (.int 0) := (Arv.other F11 W13 N10)
  refine G.caloadG H12 F15 (j := (10 : Int32)) (v := (.int x10)) (by decide) rfl dc_method_3_code_178 (pc' := 179) rfl ?_
  refine G.stC H12 A14 (by decide) (i := 10) rfl (Nat.le_of_ble_eq_true rfl) na2 (y := x10) (own_narC r3) dc_method_3_code_179 (pc' := 180) rfl ?_
  intro T16 h16_ H16 W17 A18
  replace A18 : Arv Z h16_ a2 k5 .char (13 : Int32) [(.int (0 : Int32)), (.int (0 : Int32)), (.int (0 : Int32)), (.int (0 : Int32)), (.int (0 : Int32)), (.int (0 : Int32)), (.int (0 : Int32)), (.int (0 : Int32)), (.int (0 : Int32)), (.int (0 : Int32)), (.int x10), (.int x11), (.int x12)] (.int 0) := A18
  show Go p e below _ (T16.setTop (mkF m 180 #[.val (.ref p0), .val (.int (13 : Int32)), .val (.ref a2)] []))
  refine G.aloadN H16 dc_method_3_code_180 (pc' := 181) rfl rfl rfl ?_
  refine G.bipush H16 dc_method_3_code_181 (pc' := 183) rfl (v := (9 : Int32)) rfl ?_
  refine G.aloadN H16 dc_method_3_code_183 (pc' := 184) rfl rfl rfl ?_
  refine G.bipush H16 dc_method_3_code_184 (pc' := 186) rfl (v := (9 : Int32)) rfl ?_
  have F19 : Arv Z h16_ p0 c0 .char (20 : Int32) [(.int x0), (.int x1), (.int x2), (.int x3), (.int x4), (.int x5), (.int x6), (.int x7), (.int x8), (.int x9), (.int x10), (.int x11), (.int x12), (.int x13), (.int x14), (.int x15), (.int x16), (.int x17), (.int x18), (.int x19)] (.int 0) := (Arv.other F15 W17 N10)
  refine G.caloadG H16 F19 (j := (9 : Int32)) (v := (.int x9)) (by decide) rfl dc_method_3_code_186 (pc' := 187) rfl ?_
  refine G.stC H16 A18 (by decide) (i := 9) rfl (Nat.le_of_ble_eq_true rfl) na2 (y := x9) (own_narC r4) dc_method_3_code_187 (pc' := 188) rfl ?_
  intro T20 h20_ H20 W21 A22
  replace A22 : Arv Z h20_ a2 k5 .char (13 : Int32) [(.int (0 : Int32)), (.int (0 : Int32)), (.int (0 : Int32)), (.int (0 : Int32)), (.int (0 : Int32)), (.int (0 : Int32)), (.int (0 : Int32)), (.int (0 : Int32)), (.int (0 : Int32)), (.int x9), (.int x10), (.int x11), (.int x12)] (.int 0) := A22
  show Go p e below _ (T20.setTop (mkF m 188 #[.val (.ref p0), .val (.int (13 : Int32)), .val (.ref a2)] []))
  refine G.aloadN H20 dc_method_3_code_188 (pc' := 189) rfl rfl rfl ?_
  refine G.bipush H20 dc_method_3_code_189 (pc' := 191) rfl (v := (8 : Int32)) rfl ?_
  refine G.aloadN H20 dc_method_3_code_191 (pc' := 192) rfl rfl rfl ?_
  refine G.bipush H20 dc_method_3_code_192 (pc' := 194) rfl (v := (8 : Int32)) rfl ?_
  have F23 : Arv Z h20_ p0 c0 .char (20 : Int32) [(.int x0), (.int x1), (.int x2), (.int x3), (.int x4), (.int x5), (.int x6), (.int x7), (.int x8), (.int x9), (.int x10), (.int x11), (.int x12), (.int x13), (.int x14), (.int x15), (.int x16), (.int x17), (.int x18), (.int x19)] (.int 0) := (Arv.other F19 W21 N10)
  refine G.caloadG H20 F23 (j := (8 : Int32)) (v := (.int x8)) (by decide) rfl dc_method_3_code_194 (pc' := 195) rfl ?_
  refine G.stC H20 A22 (by decide) (i := 8) rfl (Nat.le_of_ble_eq_true rfl) na2 (y := x8) (own_narC r5) dc_method_3_code_195 (pc' := 196) rfl ?_
  intro T24 h24_ H24 W25 A26
  replace A26 : Arv Z h24_ a2 k5 .char (13 : Int32) [(.int (0 : Int32)), (.int (0 : Int32)), (.int (0 : Int32)), (.int (0 : Int32)), (.int (0 : Int32)), (.int (0 : Int32)), (.int (0 : Int32)), (.int (0 : Int32)), (.int x8), (.int x9), (.int x10), (.int x11), (.int x12)] (.int 0) := A26
  show Go p e below _ (T24.setTop (mkF m 196 #[.val (.ref p0), .val (.int (13 : Int32)), .val (.ref a2)] []))
  refine G.aloadN H24 dc_method_3_code_196 (pc' := 197) rfl rfl rfl ?_
  refine G.bipush H24 dc_method_3_code_197 (pc' := 199) rfl (v := (7 : Int32)) rfl ?_
  refine G.aloadN H24 dc_method_3_code_199 (pc' := 200) rfl rfl rfl ?_
  refine G.bipush H24 dc_method_3_code_200 (pc' := 202) rfl (v := (7 : Int32)) rfl ?_
  have F27 : Arv Z h24_ p0 c0 .char (20 : Int32) [(.int x0), (.int x1), (.int x2), (.int x3), (.int x4), (.int x5), (.int x6), (.int x7), (.int x8), (.int x9), (.int x10), (.int x11), (.int x12), (.int x13), (.int x14), (.int x15), (.int x16), (.int x17), (.int x18), (.int x19)] (.int 0) := (Arv.other F23 W25 N10)
  refine G.caloadG H24 F27 (j := (7 : Int32)) (v := (.int x7)) (by decide) rfl dc_method_3_code_202 (pc' := 203) rfl ?_
  refine G.stC H24 A26 (by decide) (i := 7) rfl (Nat.le_of_ble_eq_true rfl) na2 (y := x7) (own_narC r6) dc_method_3_code_203 (pc' := 204) rfl ?_
  intro T28 h28_ H28 W29 A30
  replace A30 : Arv Z h28_ a2 k5 .char (13 : Int32) [(.int (0 : Int32)), (.int (0 : Int32)), (.int (0 : Int32)), (.int (0 : Int32)), (.int (0 : Int32)), (.int (0 : Int32)), (.int (0 : Int32)), (.int x7), (.int x8), (.int x9), (.int x10), (.int x11), (.int x12)] (.int 0) := A30
  show Go p e below _ (T28.setTop (mkF m 204 #[.val (.ref p0), .val (.int (13 : Int32)), .val (.ref a2)] []))
  refine G.aloadN H28 dc_method_3_code_204 (pc' := 205) rfl rfl rfl ?_
  refine G.bipush H28 dc_method_3_code_205 (pc' := 207) rfl (v := (6 : Int32)) rfl ?_
  refine G.aloadN H28 dc_method_3_code_207 (pc' := 208) rfl rfl rfl ?_
  refine G.bipush H28 dc_method_3_code_208 (pc' := 210) rfl (v := (6 : Int32)) rfl ?_
  have F31 : Arv Z h28_ p0 c0 .char (20 : Int32) [(.int x0), (.int x1), (.int x2), (.int x3), (.int x4), (.int x5), (.int x6), (.int x7), (.int x8), (.int x9), (.int x10), (.int x11), (.int x12), (.int x13), (.int x14), (.int x15), (.int x16), (.int x17), (.int x18), (.int x19)] (.int 0) := (Arv.other F27 W29 N10)
  refine G.caloadG H28 F31 (j := (6 : Int32)) (v := (.int x6)) (by decide) rfl dc_method_3_code_210 (pc' := 211) rfl ?_
  refine G.stC H28 A30 (by decide) (i := 6) rfl (Nat.le_of_ble_eq_true rfl) na2 (y := x6) (own_narC r7) dc_method_3_code_211 (pc' := 212) rfl ?_
  intro T32 h32_ H32 W33 A34
  replace A34 : Arv Z h32_ a2 k5 .char (13 : Int32) [(.int (0 : Int32)), (.int (0 : Int32)), (.int (0 : Int32)), (.int (0 : Int32)), (.int (0 : Int32)), (.int (0 : Int32)), (.int x6), (.int x7), (.int x8), (.int x9), (.int x10), (.int x11), (.int x12)] (.int 0) := A34
  show Go p e below _ (T32.setTop (mkF m 212 #[.val (.ref p0), .val (.int (13 : Int32)), .val (.ref a2)] []))
  refine G.aloadN H32 dc_method_3_code_212 (pc' := 213) rfl rfl rfl ?_
  refine G.iconst H32 dc_method_3_code_213 (pc' := 214) rfl (v := (5 : Int32)) rfl ?_
  refine G.aloadN H32 dc_method_3_code_214 (pc' := 215) rfl rfl rfl ?_
  refine G.iconst H32 dc_method_3_code_215 (pc' := 216) rfl (v := (5 : Int32)) rfl ?_
  have F35 : Arv Z h32_ p0 c0 .char (20 : Int32) [(.int x0), (.int x1), (.int x2), (.int x3), (.int x4), (.int x5), (.int x6), (.int x7), (.int x8), (.int x9), (.int x10), (.int x11), (.int x12), (.int x13), (.int x14), (.int x15), (.int x16), (.int x17), (.int x18), (.int x19)] (.int 0) := (Arv.other F31 W33 N10)
  refine G.caloadG H32 F35 (j := (5 : Int32)) (v := (.int x5)) (by decide) rfl dc_method_3_code_216 (pc' := 217) rfl ?_
  refine G.stC H32 A34 (by decide) (i := 5) rfl (Nat.le_of_ble_eq_true rfl) na2 (y := x5) (own_narC r8) dc_method_3_code_217 (pc' := 218) rfl ?_
  intro T36 h36_ H36 W37 A38
  replace A38 : Arv Z h36_ a2 k5 .char (13 : Int32) [(.int (0 : Int32)), (.int (0 : Int32)), (.int (0 : Int32)), (.int (0 : Int32)), (.int (0 : Int32)), (.int x5), (.int x6), (.int x7), (.int x8), (.int x9), (.int x10), (.int x11), (.int x12)] (.int 0) := A38
  show Go p e below _ (T36.setTop (mkF m 218 #[.val (.ref p0), .val (.int (13 : Int32)), .val (.ref a2)] []))
  refine G.aloadN H36 dc_method_3_code_218 (pc' := 219) rfl rfl rfl ?_
  refine G.iconst H36 dc_method_3_code_219 (pc' := 220) rfl (v := (4 : Int32)) rfl ?_
  refine G.aloadN H36 dc_method_3_code_220 (pc' := 221) rfl rfl rfl ?_
  refine G.iconst H36 dc_method_3_code_221 (pc' := 222) rfl (v := (4 : Int32)) rfl ?_
  have F39 : Arv Z h36_ p0 c0 .char (20 : Int32) [(.int x0), (.int x1), (.int x2), (.int x3), (.int x4), (.int x5), (.int x6), (.int x7), (.int x8), (.int x9), (.int x10), (.int x11), (.int x12), (.int x13), (.int x14), (.int x15), (.int x16), (.int x17), (.int x18), (.int x19)] (.int 0) := (Arv.other F35 W37 N10)
  refine G.caloadG H36 F39 (j := (4 : Int32)) (v := (.int x4)) (by decide) rfl dc_method_3_code_222 (pc' := 223) rfl ?_
  refine G.stC H36 A38 (by decide) (i := 4) rfl (Nat.le_of_ble_eq_true rfl) na2 (y := x4) (own_narC r9) dc_method_3_code_223 (pc' := 224) rfl ?_
  intro T40 h40_ H40 W41 A42
  replace A42 : Arv Z h40_ a2 k5 .char (13 : Int32) [(.int (0 : Int32)), (.int (0 : Int32)), (.int (0 : Int32)), (.int (0 : Int32)), (.int x4), (.int x5), (.int x6), (.int x7), (.int x8), (.int x9), (.int x10), (.int x11), (.int x12)] (.int 0) := A42
  show Go p e below _ (T40.setTop (mkF m 224 #[.val (.ref p0), .val (.int (13 : Int32)), .val (.ref a2)] []))
  refine G.aloadN H40 dc_method_3_code_224 (pc' := 225) rfl rfl rfl ?_
  refine G.iconst H40 dc_method_3_code_225 (pc' := 226) rfl (v := (3 : Int32)) rfl ?_
  refine G.aloadN H40 dc_method_3_code_226 (pc' := 227) rfl rfl rfl ?_
  refine G.iconst H40 dc_method_3_code_227 (pc' := 228) rfl (v := (3 : Int32)) rfl ?_
  have F43 : Arv Z h40_ p0 c0 .char (20 : Int32) [(.int x0), (.int x1), (.int x2), (.int x3), (.int x4), (.int x5), (.int x6), (.int x7), (.int x8), (.int x9), (.int x10), (.int x11), (.int x12), (.int x13), (.int x14), (.int x15), (.int x16), (.int x17), (.int x18), (.int x19)] (.int 0) := (Arv.other F39 W41 N10)
  refine G.caloadG H40 F43 (j := (3 : Int32)) (v := (.int x3)) (by decide) rfl dc_method_3_code_228 (pc' := 229) rfl ?_
  refine G.stC H40 A42 (by decide) (i := 3) rfl (Nat.le_of_ble_eq_true rfl) na2 (y := x3) (own_narC r10) dc_method_3_code_229 (pc' := 230) rfl ?_
  intro T44 h44_ H44 W45 A46
  replace A46 : Arv Z h44_ a2 k5 .char (13 : Int32) [(.int (0 : Int32)), (.int (0 : Int32)), (.int (0 : Int32)), (.int x3), (.int x4), (.int x5), (.int x6), (.int x7), (.int x8), (.int x9), (.int x10), (.int x11), (.int x12)] (.int 0) := A46
  show Go p e below _ (T44.setTop (mkF m 230 #[.val (.ref p0), .val (.int (13 : Int32)), .val (.ref a2)] []))
  refine G.aloadN H44 dc_method_3_code_230 (pc' := 231) rfl rfl rfl ?_
  refine G.iconst H44 dc_method_3_code_231 (pc' := 232) rfl (v := (2 : Int32)) rfl ?_
  refine G.aloadN H44 dc_method_3_code_232 (pc' := 233) rfl rfl rfl ?_
  refine G.iconst H44 dc_method_3_code_233 (pc' := 234) rfl (v := (2 : Int32)) rfl ?_
  have F47 : Arv Z h44_ p0 c0 .char (20 : Int32) [(.int x0), (.int x1), (.int x2), (.int x3), (.int x4), (.int x5), (.int x6), (.int x7), (.int x8), (.int x9), (.int x10), (.int x11), (.int x12), (.int x13), (.int x14), (.int x15), (.int x16), (.int x17), (.int x18), (.int x19)] (.int 0) := (Arv.other F43 W45 N10)
  refine G.caloadG H44 F47 (j := (2 : Int32)) (v := (.int x2)) (by decide) rfl dc_method_3_code_234 (pc' := 235) rfl ?_
  refine G.stC H44 A46 (by decide) (i := 2) rfl (Nat.le_of_ble_eq_true rfl) na2 (y := x2) (own_narC r11) dc_method_3_code_235 (pc' := 236) rfl ?_
  intro T48 h48_ H48 W49 A50
  replace A50 : Arv Z h48_ a2 k5 .char (13 : Int32) [(.int (0 : Int32)), (.int (0 : Int32)), (.int x2), (.int x3), (.int x4), (.int x5), (.int x6), (.int x7), (.int x8), (.int x9), (.int x10), (.int x11), (.int x12)] (.int 0) := A50
  show Go p e below _ (T48.setTop (mkF m 236 #[.val (.ref p0), .val (.int (13 : Int32)), .val (.ref a2)] []))
  refine G.aloadN H48 dc_method_3_code_236 (pc' := 237) rfl rfl rfl ?_
  refine G.iconst H48 dc_method_3_code_237 (pc' := 238) rfl (v := (1 : Int32)) rfl ?_
  refine G.aloadN H48 dc_method_3_code_238 (pc' := 239) rfl rfl rfl ?_
  refine G.iconst H48 dc_method_3_code_239 (pc' := 240) rfl (v := (1 : Int32)) rfl ?_
  have F51 : Arv Z h48_ p0 c0 .char (20 : Int32) [(.int x0), (.int x1), (.int x2), (.int x3), (.int x4), (.int x5), (.int x6), (.int x7), (.int x8), (.int x9), (.int x10), (.int x11), (.int x12), (.int x13), (.int x14), (.int x15), (.int x16), (.int x17), (.int x18), (.int x19)] (.int 0) := (Arv.other F47 W49 N10)
  refine G.caloadG H48 F51 (j := (1 : Int32)) (v := (.int x1)) (by decide) rfl dc_method_3_code_240 (pc' := 241) rfl ?_
  refine G.stC H48 A50 (by decide) (i := 1) rfl (Nat.le_of_ble_eq_true rfl) na2 (y := x1) (own_narC r12) dc_method_3_code_241 (pc' := 242) rfl ?_
  intro T52 h52_ H52 W53 A54
  replace A54 : Arv Z h52_ a2 k5 .char (13 : Int32) [(.int (0 : Int32)), (.int x1), (.int x2), (.int x3), (.int x4), (.int x5), (.int x6), (.int x7), (.int x8), (.int x9), (.int x10), (.int x11), (.int x12)] (.int 0) := A54
  show Go p e below _ (T52.setTop (mkF m 242 #[.val (.ref p0), .val (.int (13 : Int32)), .val (.ref a2)] []))
  refine G.aloadN H52 dc_method_3_code_242 (pc' := 243) rfl rfl rfl ?_
  refine G.iconst H52 dc_method_3_code_243 (pc' := 244) rfl (v := (0 : Int32)) rfl ?_
  refine G.aloadN H52 dc_method_3_code_244 (pc' := 245) rfl rfl rfl ?_
  refine G.iconst H52 dc_method_3_code_245 (pc' := 246) rfl (v := (0 : Int32)) rfl ?_
  have F55 : Arv Z h52_ p0 c0 .char (20 : Int32) [(.int x0), (.int x1), (.int x2), (.int x3), (.int x4), (.int x5), (.int x6), (.int x7), (.int x8), (.int x9), (.int x10), (.int x11), (.int x12), (.int x13), (.int x14), (.int x15), (.int x16), (.int x17), (.int x18), (.int x19)] (.int 0) := (Arv.other F51 W53 N10)
  refine G.caloadG H52 F55 (j := (0 : Int32)) (v := (.int x0)) (by decide) rfl dc_method_3_code_246 (pc' := 247) rfl ?_
  refine G.stC H52 A54 (by decide) (i := 0) rfl (Nat.le_of_ble_eq_true rfl) na2 (y := x0) (own_narC r13) dc_method_3_code_247 (pc' := 248) rfl ?_
  intro T56 h56_ H56 W57 A58
  replace A58 : Arv Z h56_ a2 k5 .char (13 : Int32) [(.int x0), (.int x1), (.int x2), (.int x3), (.int x4), (.int x5), (.int x6), (.int x7), (.int x8), (.int x9), (.int x10), (.int x11), (.int x12)] (.int 0) := A58
  show Go p e below _ (T56.setTop (mkF m 248 #[.val (.ref p0), .val (.int (13 : Int32)), .val (.ref a2)] []))
  refine G.aloadN H56 dc_method_3_code_248 (pc' := 249) rfl rfl rfl ?_
  have K59 : Keep h0 h56_ [] := (Keep.wr (Keep.wr (Keep.wr (Keep.wr (Keep.wr (Keep.wr (Keep.wr (Keep.wr (Keep.wr (Keep.wr (Keep.wr (Keep.wr (Keep.wr (Keep.ext (Keep.refl h0 []) E3) W8 (Or.inr (Nat.le_of_eq ga2.symm))) W13 (Or.inr (Nat.le_of_eq ga2.symm))) W17 (Or.inr (Nat.le_of_eq ga2.symm))) W21 (Or.inr (Nat.le_of_eq ga2.symm))) W25 (Or.inr (Nat.le_of_eq ga2.symm))) W29 (Or.inr (Nat.le_of_eq ga2.symm))) W33 (Or.inr (Nat.le_of_eq ga2.symm))) W37 (Or.inr (Nat.le_of_eq ga2.symm))) W41 (Or.inr (Nat.le_of_eq ga2.symm))) W45 (Or.inr (Nat.le_of_eq ga2.symm))) W49 (Or.inr (Nat.le_of_eq ga2.symm))) W53 (Or.inr (Nat.le_of_eq ga2.symm))) W57 (Or.inr (Nat.le_of_eq ga2.symm)))
  exact G.retA H56 (t := (.array .char)) rfl rfl rfl dc_method_3_code_249 (so := []) all0 (by decide) (by decide) ⟨a2, k5, rfl, rfl, K59, (Nat.le_of_eq ga2.symm), A58⟩
set_option maxRecDepth 65536 in
set_option maxHeartbeats 40000000 in
theorem m45_length {l : Launch} {Z : State} {a0 : Array Value} {n0 : Nat} {z_COMPACT_STRINGS : Int32} {z_SIOOBE_FORMATTER : Value} (V : Env1 Z a0 n0 z_COMPACT_STRINGS z_SIOOBE_FORMATTER) (p0 : Addr) (p1 : Addr) (c0 : ClassId) (x0 : Int32) (x1 : Int32) (x2 : Int32) (x3 : Int32) (x4 : Int32) (x5 : Int32) (x6 : Int32) (x7 : Int32) (x8 : Int32) (x9 : Int32) (x10 : Int32) (x11 : Int32) (x12 : Int32) (h0 : Heap) (hO : Old Z n0 h0) (f0 : Fld Z h0 p0 "java/lang/String" "value" "[B" (.ref p1)) (f1 : Arv Z h0 p1 c0 .byte (13 : Int32) [(.int x0), (.int x1), (.int x2), (.int x3), (.int x4), (.int x5), (.int x6), (.int x7), (.int x8), (.int x9), (.int x10), (.int x11), (.int x12)] (.int 0)) (f2 : Exa Z h0 p0 "java/lang/String") (f3 : Fld Z h0 p0 "java/lang/String" "coder" "B" (.int (0 : Int32))) :
    Met Z a0 ELs True n0 l (⟨"java/lang/String", "length", "()I"⟩ : MethodName) jdk_42_method_54_code 1 (Option.some FieldType.int) ({ frames := 1, cells := 0, slots := 0, locals := 13 } : Room) #[(.ref p0)] h0 [] (fun v h so => (v = some (.int (13 : Int32)) ∧ so = [] ∧ h0 = h)) := by
  refine Met.of (EWl V) (by first | decide +kernel | rfl) hO (L0 := #[.val (.ref p0)]) rfl ?_
  intro p e s m below meth c T H
  show Go p e below _ (T.setTop (mkF m 0 #[.val (.ref p0)] []))
  refine G.aloadN H dc_jdk_42_method_54_code_0 (pc' := 1) rfl rfl rfl ?_
  refine G.getF H (wd34 V) Via.refl f0 dc_jdk_42_method_54_code_1 (pc' := 4) rfl ?_
  intro T1 H2
  refine G.arrlen H2 f1 dc_jdk_42_method_54_code_4 (pc' := 5) rfl ?_
  refine G.aloadN H2 dc_jdk_42_method_54_code_5 (pc' := 6) rfl rfl rfl ?_
  refine G.callV H2 (m4_coder V p0 h0 H2.old f3) (wd45 V) (wd46 V) (nf_sel (wd48 V)) (wd48 V) (wd47 V) (wd5 V) (wd49 V) (by decide) f2 (argsL := []) (rest := [(.int (13 : Int32))]) (W := 1) rfl rfl (lenOf (pd_3) rfl) rfl rfl dc_jdk_42_method_54_code_6 (pc' := 9) rfl (by decide) (by decide) (by decide) (by decide) all0 ?_
  intro T3 h3_ v4 s5 H3 Q6
  obtain ⟨rfl, rfl, rfl⟩ := Q6
  show Go p e below _ (T3.setTop (mkF m 9 #[.val (.ref p0)] [(.int (0 : Int32)), (.int (13 : Int32))]))
  refine G.ishr H3 dc_jdk_42_method_54_code_9 (pc' := 10) rfl ?_
  show Go p e below _ (T3.setTop (mkF m 10 #[.val (.ref p0)] [(.int (13 : Int32))]))
  exact G.retI H3 rfl dc_jdk_42_method_54_code_10 (so := []) all0 (by decide) (by decide) ⟨rfl, rfl, rfl⟩
set_option maxRecDepth 65536 in
set_option maxHeartbeats 40000000 in
theorem m46_untimed {l : Launch} {Z : State} {a0 : Array Value} {n0 : Nat} {z_COMPACT_STRINGS : Int32} {z_SIOOBE_FORMATTER : Value} (V : Env1 Z a0 n0 z_COMPACT_STRINGS z_SIOOBE_FORMATTER) (p0 : Addr) (p1 : Addr) (c0 : ClassId) (x0 : Int32) (x1 : Int32) (x2 : Int32) (x3 : Int32) (x4 : Int32) (x5 : Int32) (x6 : Int32) (x7 : Int32) (x8 : Int32) (x9 : Int32) (x10 : Int32) (x11 : Int32) (x12 : Int32) (h0 : Heap) (hO : Old Z n0 h0) (f0 : Exa Z h0 p0 "java/lang/String") (f1 : Fld Z h0 p0 "java/lang/String" "value" "[B" (.ref p1)) (f2 : Arv Z h0 p1 c0 .byte (13 : Int32) [(.int x0), (.int x1), (.int x2), (.int x3), (.int x4), (.int x5), (.int x6), (.int x7), (.int x8), (.int x9), (.int x10), (.int x11), (.int x12)] (.int 0)) (f3 : Fld Z h0 p0 "java/lang/String" "coder" "B" (.int (0 : Int32))) :
    Met Z a0 ELs True n0 l (⟨"com/example/tenure/tenure/Days", "untimed", "(Ljava/lang/String;)Z"⟩ : MethodName) prog_14_method_4_code 1 (Option.some FieldType.boolean) ({ frames := 2, cells := 2, slots := 44, locals := 26 } : Room) #[(.ref p0)] h0 [p0, p1] (fun v h so => (v = some (.int (0 : Int32)) ∧ so = [] ∧ Keep h0 h [])) := by
  refine Met.of (EWl V) (by first | decide +kernel | rfl) hO (L0 := #[.val (.ref p0)]) rfl ?_
  intro p e s m below meth c T H
  show Go p e below _ (T.setTop (mkF m 0 #[.val (.ref p0)] []))
  refine G.aloadN H dc_prog_14_method_4_code_0 (pc' := 1) rfl rfl rfl ?_
  refine G.callV H (m45_length V p0 p1 c0 x0 x1 x2 x3 x4 x5 x6 x7 x8 x9 x10 x11 x12 h0 H.old f1 f2 f0 f3) (wd40 V) (wd41 V) (nf_sel (wd43 V)) (wd43 V) (wd42 V) (wd5 V) (wd44 V) (by decide) f0 (argsL := []) (rest := []) (W := 0) rfl rfl (lenOf (pd_4) rfl) rfl rfl dc_prog_14_method_4_code_1 (pc' := 4) rfl (by decide) (by decide) (by decide) (by decide) all0 ?_
  intro T1 h1_ v2 s3 H1 Q4
  obtain ⟨rfl, rfl, rfl⟩ := Q4
  show Go p e below _ (T1.setTop (mkF m 4 #[.val (.ref p0)] [(.int (13 : Int32))]))
  refine G.ldcS H1 trivial (wS V) (wd50 V) (by decide) (vs := [(.int (48 : Int32)), (.int (48 : Int32)), (.int (48 : Int32)), (.int (48 : Int32)), (.int (45 : Int32)), (.int (48 : Int32)), (.int (48 : Int32)), (.int (45 : Int32)), (.int (48 : Int32)), (.int (48 : Int32))]) (z := (10 : Int32)) (by decide) (by decide) rfl (n := 40) (by decide) (by decide) (by decide) (by decide) dc_prog_14_method_4_code_4 (pc' := 6) rfl ?_
  intro T5 h5_ a6 b8 k9 H5 E7 X10 F11 F12 A13 Q14
  have S15 : Str Z h5_ a6 b8 k9 [(48 : Int32), (48 : Int32), (48 : Int32), (48 : Int32), (45 : Int32), (48 : Int32), (48 : Int32), (45 : Int32), (48 : Int32), (48 : Int32)] := ⟨X10, F11, F12, A13, by decide, by decide⟩
  show Go p e below _ (T5.setTop (mkF m 6 #[.val (.ref p0)] [(.ref a6), (.int (13 : Int32))]))
  refine G.callV H5 (m6_length V a6 b8 k9 h5_ H5.old F12 A13 X10 F11) (wd40 V) (wd41 V) (nf_sel (wd43 V)) (wd43 V) (wd42 V) (wd5 V) (wd44 V) (by decide) X10 (argsL := []) (rest := [(.int (13 : Int32))]) (W := 1) rfl rfl (lenOf (pd_4) rfl) rfl rfl dc_prog_14_method_4_code_6 (pc' := 9) rfl (by decide) (by decide) (by decide) (by decide) all0 ?_
  intro T16 h16_ v17 s18 H16 Q19
  obtain ⟨rfl, rfl, rfl⟩ := Q19
  show Go p e below _ (T16.setTop (mkF m 9 #[.val (.ref p0)] [(.int (10 : Int32)), (.int (13 : Int32))]))
  refine G.icmpYes H16 dc_prog_14_method_4_code_9 (by decide) (by decide) (pc' := 16) rfl ?_
  refine G.iconst H16 dc_prog_14_method_4_code_16 (pc' := 17) rfl (v := (0 : Int32)) rfl ?_
  have K20 : Keep h0 h5_ [] := (Keep.ext (Keep.refl h0 []) E7)
  exact G.retN H16 (t := .boolean) rfl (by decide) dc_prog_14_method_4_code_17 (so := []) all0 (by decide) (by decide) ⟨rfl, rfl, K20⟩
set_option maxRecDepth 65536 in
set_option maxHeartbeats 40000000 in
theorem m47_prefix {l : Launch} {Z : State} {a0 : Array Value} {n0 : Nat} {z_COMPACT_STRINGS : Int32} {z_SIOOBE_FORMATTER : Value} (V : Env1 Z a0 n0 z_COMPACT_STRINGS z_SIOOBE_FORMATTER) (p0 : Addr) (c0 : ClassId) (x0 : Int32) (x1 : Int32) (x2 : Int32) (x3 : Int32) (x4 : Int32) (x5 : Int32) (x6 : Int32) (x7 : Int32) (x8 : Int32) (x9 : Int32) (x10 : Int32) (x11 : Int32) (x12 : Int32) (x13 : Int32) (x14 : Int32) (x15 : Int32) (x16 : Int32) (x17 : Int32) (x18 : Int32) (x19 : Int32) (h0 : Heap) (hO : Old Z n0 h0) (f0 : Arv Z h0 p0 c0 .char (20 : Int32) [(.int x0), (.int x1), (.int x2), (.int x3), (.int x4), (.int x5), (.int x6), (.int x7), (.int x8), (.int x9), (.int x10), (.int x11), (.int x12), (.int x13), (.int x14), (.int x15), (.int x16), (.int x17), (.int x18), (.int x19)] (.int 0)) (r1 : ¬ x13 < 0 ∧ ¬ (65535 : Int32) < x13) (r2 : ¬ x12 < 0 ∧ ¬ (65535 : Int32) < x12) (r3 : ¬ x11 < 0 ∧ ¬ (65535 : Int32) < x11) (r4 : ¬ x10 < 0 ∧ ¬ (65535 : Int32) < x10) (r5 : ¬ x9 < 0 ∧ ¬ (65535 : Int32) < x9) (r6 : ¬ x8 < 0 ∧ ¬ (65535 : Int32) < x8) (r7 : ¬ x7 < 0 ∧ ¬ (65535 : Int32) < x7) (r8 : ¬ x6 < 0 ∧ ¬ (65535 : Int32) < x6) (r9 : ¬ x5 < 0 ∧ ¬ (65535 : Int32) < x5) (r10 : ¬ x4 < 0 ∧ ¬ (65535 : Int32) < x4) (r11 : ¬ x3 < 0 ∧ ¬ (65535 : Int32) < x3) (r12 : ¬ x2 < 0 ∧ ¬ (65535 : Int32) < x2) (r13 : ¬ x1 < 0 ∧ ¬ (65535 : Int32) < x1) (r14 : ¬ x0 < 0 ∧ ¬ (65535 : Int32) < x0) :
    Met Z a0 ELs True n0 l (⟨"com/example/tenure/tenure/DaysUntimedPinLaw", "prefix", "([CI)[C"⟩ : MethodName) method_3_code 3 (Option.some (FieldType.array FieldType.char)) ({ frames := 0, cells := 1, slots := 14, locals := 0 } : Room) #[(.ref p0), (.int (14 : Int32))] h0 [] (fun v h so => (∃ a2 : Addr, ∃ k5 : ClassId, v = some (.ref a2) ∧ so = [] ∧ Keep h0 h [] ∧ h0.size ≤ a2 ∧ Arv Z h a2 k5 .char (14 : Int32) [(.int x0), (.int x1), (.int x2), (.int x3), (.int x4), (.int x5), (.int x6), (.int x7), (.int x8), (.int x9), (.int x10), (.int x11), (.int x12), (.int x13)] (.int 0))) := by
  refine Met.of (EWl V) (by first | decide +kernel | rfl) hO (L0 := #[.val (.ref p0), .val (.int (14 : Int32)), .unset]) rfl ?_
  intro p e s m below meth c T H
  show Go p e below _ (T.setTop (mkF m 0 #[.val (.ref p0), .val (.int (14 : Int32)), .unset] []))
  refine G.iloadN H dc_method_3_code_0 (pc' := 1) rfl rfl ?_
  refine G.newP H (aty := .char) (wd0 V) dc_method_3_code_1 (pc' := 3) rfl (by decide) (cap := 14) (by decide) (by decide) (by decide) (by decide) (vs := [(.int (0 : Int32)), (.int (0 : Int32)), (.int (0 : Int32)), (.int (0 : Int32)), (.int (0 : Int32)), (.int (0 : Int32)), (.int (0 : Int32)), (.int (0 : Int32)), (.int (0 : Int32)), (.int (0 : Int32)), (.int (0 : Int32)), (.int (0 : Int32)), (.int (0 : Int32)), (.int (0 : Int32))]) rfl ?_
  intro T1 h1_ a2 k5 ga2 H1 E3 A4
  have na2 : n0 ≤ a2 := Nat.le_trans H.le (Nat.le_of_eq ga2.symm)
  replace A4 : Arv Z h1_ a2 k5 .char (14 : Int32) [(.int (0 : Int32)), (.int (0 : Int32)), (.int (0 : Int32)), (.int (0 : Int32)), (.int (0 : Int32)), (.int (0 : Int32)), (.int (0 : Int32)), (.int (0 : Int32)), (.int (0 : Int32)), (.int (0 : Int32)), (.int (0 : Int32)), (.int (0 : Int32)), (.int (0 : Int32)), (.int (0 : Int32))] (.int 0) := A4
  show Go p e below _ (T1.setTop (mkF m 3 #[.val (.ref p0), .val (.int (14 : Int32)), .unset] [(.ref a2)]))
  refine G.astoreN H1 (L' := #[.val (.ref p0), .val (.int (14 : Int32)), .val (.ref a2)]) dc_method_3_code_3 (pc' := 4) rfl rfl rfl ?_
  refine G.iloadN H1 dc_method_3_code_4 (pc' := 5) rfl rfl ?_
  refine G.tswIn H1 dc_method_3_code_5 (by decide) (o := 143) rfl (by decide) (pc' := 148) rfl ?_
  refine G.aloadN H1 dc_method_3_code_148 (pc' := 149) rfl rfl rfl ?_
  refine G.bipush H1 dc_method_3_code_149 (pc' := 151) rfl (v := (13 : Int32)) rfl ?_
  refine G.aloadN H1 dc_method_3_code_151 (pc' := 152) rfl rfl rfl ?_
  refine G.bipush H1 dc_method_3_code_152 (pc' := 154) rfl (v := (13 : Int32)) rfl ?_
  have F6 : Arv Z h1_ p0 c0 .char (20 : Int32) [(.int x0), (.int x1), (.int x2), (.int x3), (.int x4), (.int x5), (.int x6), (.int x7), (.int x8), (.int x9), (.int x10), (.int x11), (.int x12), (.int x13), (.int x14), (.int x15), (.int x16), (.int x17), (.int x18), (.int x19)] (.int 0) := (Arv.ext f0 E3)
  refine G.caloadG H1 F6 (j := (13 : Int32)) (v := (.int x13)) (by decide) rfl dc_method_3_code_154 (pc' := 155) rfl ?_
  refine G.stC H1 A4 (by decide) (i := 13) rfl (Nat.le_of_ble_eq_true rfl) na2 (y := x13) (own_narC r1) dc_method_3_code_155 (pc' := 156) rfl ?_
  intro T7 h7_ H7 W8 A9
  replace A9 : Arv Z h7_ a2 k5 .char (14 : Int32) [(.int (0 : Int32)), (.int (0 : Int32)), (.int (0 : Int32)), (.int (0 : Int32)), (.int (0 : Int32)), (.int (0 : Int32)), (.int (0 : Int32)), (.int (0 : Int32)), (.int (0 : Int32)), (.int (0 : Int32)), (.int (0 : Int32)), (.int (0 : Int32)), (.int (0 : Int32)), (.int x13)] (.int 0) := A9
  show Go p e below _ (T7.setTop (mkF m 156 #[.val (.ref p0), .val (.int (14 : Int32)), .val (.ref a2)] []))
  refine G.aloadN H7 dc_method_3_code_156 (pc' := 157) rfl rfl rfl ?_
  refine G.bipush H7 dc_method_3_code_157 (pc' := 159) rfl (v := (12 : Int32)) rfl ?_
  refine G.aloadN H7 dc_method_3_code_159 (pc' := 160) rfl rfl rfl ?_
  refine G.bipush H7 dc_method_3_code_160 (pc' := 162) rfl (v := (12 : Int32)) rfl ?_
  have N10 : p0 ≠ a2 := (Nat.ne_of_lt (Nat.lt_of_lt_of_le f0.lt (Nat.le_of_eq ga2.symm)))
  have F11 : Arv Z h7_ p0 c0 .char (20 : Int32) [(.int x0), (.int x1), (.int x2), (.int x3), (.int x4), (.int x5), (.int x6), (.int x7), (.int x8), (.int x9), (.int x10), (.int x11), (.int x12), (.int x13), (.int x14), (.int x15), (.int x16), (.int x17), (.int x18), (.int x19)] (.int 0) := (Arv.other F6 W8 N10)
  refine G.caloadG H7 F11 (j := (12 : Int32)) (v := (.int x12)) (by decide) rfl dc_method_3_code_162 (pc' := 163) rfl ?_
  refine G.stC H7 A9 (by decide) (i := 12) rfl (Nat.le_of_ble_eq_true rfl) na2 (y := x12) (own_narC r2) dc_method_3_code_163 (pc' := 164) rfl ?_
  intro T12 h12_ H12 W13 A14
  replace A14 : Arv Z h12_ a2 k5 .char (14 : Int32) [(.int (0 : Int32)), (.int (0 : Int32)), (.int (0 : Int32)), (.int (0 : Int32)), (.int (0 : Int32)), (.int (0 : Int32)), (.int (0 : Int32)), (.int (0 : Int32)), (.int (0 : Int32)), (.int (0 : Int32)), (.int (0 : Int32)), (.int (0 : Int32)), (.int x12), (.int x13)] (.int 0) := A14
  show Go p e below _ (T12.setTop (mkF m 164 #[.val (.ref p0), .val (.int (14 : Int32)), .val (.ref a2)] []))
  refine G.aloadN H12 dc_method_3_code_164 (pc' := 165) rfl rfl rfl ?_
  refine G.bipush H12 dc_method_3_code_165 (pc' := 167) rfl (v := (11 : Int32)) rfl ?_
  refine G.aloadN H12 dc_method_3_code_167 (pc' := 168) rfl rfl rfl ?_
  refine G.bipush H12 dc_method_3_code_168 (pc' := 170) rfl (v := (11 : Int32)) rfl ?_
  have F15 : Arv Z h12_ p0 c0 .char (20 : Int32) [(.int x0), (.int x1), (.int x2), (.int x3), (.int x4), (.int x5), (.int x6), (.int x7), (.int x8), (.int x9), (.int x10), (.int x11), (.int x12), (.int x13), (.int x14), (.int x15), (.int x16), (.int x17), (.int x18), (.int x19)] (.int 0) := (Arv.other F11 W13 N10)
  refine G.caloadG H12 F15 (j := (11 : Int32)) (v := (.int x11)) (by decide) rfl dc_method_3_code_170 (pc' := 171) rfl ?_
  refine G.stC H12 A14 (by decide) (i := 11) rfl (Nat.le_of_ble_eq_true rfl) na2 (y := x11) (own_narC r3) dc_method_3_code_171 (pc' := 172) rfl ?_
  intro T16 h16_ H16 W17 A18
  replace A18 : Arv Z h16_ a2 k5 .char (14 : Int32) [(.int (0 : Int32)), (.int (0 : Int32)), (.int (0 : Int32)), (.int (0 : Int32)), (.int (0 : Int32)), (.int (0 : Int32)), (.int (0 : Int32)), (.int (0 : Int32)), (.int (0 : Int32)), (.int (0 : Int32)), (.int (0 : Int32)), (.int x11), (.int x12), (.int x13)] (.int 0) := A18
  show Go p e below _ (T16.setTop (mkF m 172 #[.val (.ref p0), .val (.int (14 : Int32)), .val (.ref a2)] []))
  refine G.aloadN H16 dc_method_3_code_172 (pc' := 173) rfl rfl rfl ?_
  refine G.bipush H16 dc_method_3_code_173 (pc' := 175) rfl (v := (10 : Int32)) rfl ?_
  refine G.aloadN H16 dc_method_3_code_175 (pc' := 176) rfl rfl rfl ?_
  refine G.bipush H16 dc_method_3_code_176 (pc' := 178) rfl (v := (10 : Int32)) rfl ?_
  have F19 : Arv Z h16_ p0 c0 .char (20 : Int32) [(.int x0), (.int x1), (.int x2), (.int x3), (.int x4), (.int x5), (.int x6), (.int x7), (.int x8), (.int x9), (.int x10), (.int x11), (.int x12), (.int x13), (.int x14), (.int x15), (.int x16), (.int x17), (.int x18), (.int x19)] (.int 0) := (Arv.other F15 W17 N10)
  refine G.caloadG H16 F19 (j := (10 : Int32)) (v := (.int x10)) (by decide) rfl dc_method_3_code_178 (pc' := 179) rfl ?_
  refine G.stC H16 A18 (by decide) (i := 10) rfl (Nat.le_of_ble_eq_true rfl) na2 (y := x10) (own_narC r4) dc_method_3_code_179 (pc' := 180) rfl ?_
  intro T20 h20_ H20 W21 A22
  replace A22 : Arv Z h20_ a2 k5 .char (14 : Int32) [(.int (0 : Int32)), (.int (0 : Int32)), (.int (0 : Int32)), (.int (0 : Int32)), (.int (0 : Int32)), (.int (0 : Int32)), (.int (0 : Int32)), (.int (0 : Int32)), (.int (0 : Int32)), (.int (0 : Int32)), (.int x10), (.int x11), (.int x12), (.int x13)] (.int 0) := A22
  show Go p e below _ (T20.setTop (mkF m 180 #[.val (.ref p0), .val (.int (14 : Int32)), .val (.ref a2)] []))
  refine G.aloadN H20 dc_method_3_code_180 (pc' := 181) rfl rfl rfl ?_
  refine G.bipush H20 dc_method_3_code_181 (pc' := 183) rfl (v := (9 : Int32)) rfl ?_
  refine G.aloadN H20 dc_method_3_code_183 (pc' := 184) rfl rfl rfl ?_
  refine G.bipush H20 dc_method_3_code_184 (pc' := 186) rfl (v := (9 : Int32)) rfl ?_
  have F23 : Arv Z h20_ p0 c0 .char (20 : Int32) [(.int x0), (.int x1), (.int x2), (.int x3), (.int x4), (.int x5), (.int x6), (.int x7), (.int x8), (.int x9), (.int x10), (.int x11), (.int x12), (.int x13), (.int x14), (.int x15), (.int x16), (.int x17), (.int x18), (.int x19)] (.int 0) := (Arv.other F19 W21 N10)
  refine G.caloadG H20 F23 (j := (9 : Int32)) (v := (.int x9)) (by decide) rfl dc_method_3_code_186 (pc' := 187) rfl ?_
  refine G.stC H20 A22 (by decide) (i := 9) rfl (Nat.le_of_ble_eq_true rfl) na2 (y := x9) (own_narC r5) dc_method_3_code_187 (pc' := 188) rfl ?_
  intro T24 h24_ H24 W25 A26
  replace A26 : Arv Z h24_ a2 k5 .char (14 : Int32) [(.int (0 : Int32)), (.int (0 : Int32)), (.int (0 : Int32)), (.int (0 : Int32)), (.int (0 : Int32)), (.int (0 : Int32)), (.int (0 : Int32)), (.int (0 : Int32)), (.int (0 : Int32)), (.int x9), (.int x10), (.int x11), (.int x12), (.int x13)] (.int 0) := A26
  show Go p e below _ (T24.setTop (mkF m 188 #[.val (.ref p0), .val (.int (14 : Int32)), .val (.ref a2)] []))
  refine G.aloadN H24 dc_method_3_code_188 (pc' := 189) rfl rfl rfl ?_
  refine G.bipush H24 dc_method_3_code_189 (pc' := 191) rfl (v := (8 : Int32)) rfl ?_
  refine G.aloadN H24 dc_method_3_code_191 (pc' := 192) rfl rfl rfl ?_
  refine G.bipush H24 dc_method_3_code_192 (pc' := 194) rfl (v := (8 : Int32)) rfl ?_
  have F27 : Arv Z h24_ p0 c0 .char (20 : Int32) [(.int x0), (.int x1), (.int x2), (.int x3), (.int x4), (.int x5), (.int x6), (.int x7), (.int x8), (.int x9), (.int x10), (.int x11), (.int x12), (.int x13), (.int x14), (.int x15), (.int x16), (.int x17), (.int x18), (.int x19)] (.int 0) := (Arv.other F23 W25 N10)
  refine G.caloadG H24 F27 (j := (8 : Int32)) (v := (.int x8)) (by decide) rfl dc_method_3_code_194 (pc' := 195) rfl ?_
  refine G.stC H24 A26 (by decide) (i := 8) rfl (Nat.le_of_ble_eq_true rfl) na2 (y := x8) (own_narC r6) dc_method_3_code_195 (pc' := 196) rfl ?_
  intro T28 h28_ H28 W29 A30
  replace A30 : Arv Z h28_ a2 k5 .char (14 : Int32) [(.int (0 : Int32)), (.int (0 : Int32)), (.int (0 : Int32)), (.int (0 : Int32)), (.int (0 : Int32)), (.int (0 : Int32)), (.int (0 : Int32)), (.int (0 : Int32)), (.int x8), (.int x9), (.int x10), (.int x11), (.int x12), (.int x13)] (.int 0) := A30
  show Go p e below _ (T28.setTop (mkF m 196 #[.val (.ref p0), .val (.int (14 : Int32)), .val (.ref a2)] []))
  refine G.aloadN H28 dc_method_3_code_196 (pc' := 197) rfl rfl rfl ?_
  refine G.bipush H28 dc_method_3_code_197 (pc' := 199) rfl (v := (7 : Int32)) rfl ?_
  refine G.aloadN H28 dc_method_3_code_199 (pc' := 200) rfl rfl rfl ?_
  refine G.bipush H28 dc_method_3_code_200 (pc' := 202) rfl (v := (7 : Int32)) rfl ?_
  have F31 : Arv Z h28_ p0 c0 .char (20 : Int32) [(.int x0), (.int x1), (.int x2), (.int x3), (.int x4), (.int x5), (.int x6), (.int x7), (.int x8), (.int x9), (.int x10), (.int x11), (.int x12), (.int x13), (.int x14), (.int x15), (.int x16), (.int x17), (.int x18), (.int x19)] (.int 0) := (Arv.other F27 W29 N10)
  refine G.caloadG H28 F31 (j := (7 : Int32)) (v := (.int x7)) (by decide) rfl dc_method_3_code_202 (pc' := 203) rfl ?_
  refine G.stC H28 A30 (by decide) (i := 7) rfl (Nat.le_of_ble_eq_true rfl) na2 (y := x7) (own_narC r7) dc_method_3_code_203 (pc' := 204) rfl ?_
  intro T32 h32_ H32 W33 A34
  replace A34 : Arv Z h32_ a2 k5 .char (14 : Int32) [(.int (0 : Int32)), (.int (0 : Int32)), (.int (0 : Int32)), (.int (0 : Int32)), (.int (0 : Int32)), (.int (0 : Int32)), (.int (0 : Int32)), (.int x7), (.int x8), (.int x9), (.int x10), (.int x11), (.int x12), (.int x13)] (.int 0) := A34
  show Go p e below _ (T32.setTop (mkF m 204 #[.val (.ref p0), .val (.int (14 : Int32)), .val (.ref a2)] []))
  refine G.aloadN H32 dc_method_3_code_204 (pc' := 205) rfl rfl rfl ?_
  refine G.bipush H32 dc_method_3_code_205 (pc' := 207) rfl (v := (6 : Int32)) rfl ?_
  refine G.aloadN H32 dc_method_3_code_207 (pc' := 208) rfl rfl rfl ?_
  refine G.bipush H32 dc_method_3_code_208 (pc' := 210) rfl (v := (6 : Int32)) rfl ?_
  have F35 : Arv Z h32_ p0 c0 .char (20 : Int32) [(.int x0), (.int x1), (.int x2), (.int x3), (.int x4), (.int x5), (.int x6), (.int x7), (.int x8), (.int x9), (.int x10), (.int x11), (.int x12), (.int x13), (.int x14), (.int x15), (.int x16), (.int x17), (.int x18), (.int x19)] (.int 0) := (Arv.other F31 W33 N10)
  refine G.caloadG H32 F35 (j := (6 : Int32)) (v := (.int x6)) (by decide) rfl dc_method_3_code_210 (pc' := 211) rfl ?_
  refine G.stC H32 A34 (by decide) (i := 6) rfl (Nat.le_of_ble_eq_true rfl) na2 (y := x6) (own_narC r8) dc_method_3_code_211 (pc' := 212) rfl ?_
  intro T36 h36_ H36 W37 A38
  replace A38 : Arv Z h36_ a2 k5 .char (14 : Int32) [(.int (0 : Int32)), (.int (0 : Int32)), (.int (0 : Int32)), (.int (0 : Int32)), (.int (0 : Int32)), (.int (0 : Int32)), (.int x6), (.int x7), (.int x8), (.int x9), (.int x10), (.int x11), (.int x12), (.int x13)] (.int 0) := A38
  show Go p e below _ (T36.setTop (mkF m 212 #[.val (.ref p0), .val (.int (14 : Int32)), .val (.ref a2)] []))
  refine G.aloadN H36 dc_method_3_code_212 (pc' := 213) rfl rfl rfl ?_
  refine G.iconst H36 dc_method_3_code_213 (pc' := 214) rfl (v := (5 : Int32)) rfl ?_
  refine G.aloadN H36 dc_method_3_code_214 (pc' := 215) rfl rfl rfl ?_
  refine G.iconst H36 dc_method_3_code_215 (pc' := 216) rfl (v := (5 : Int32)) rfl ?_
  have F39 : Arv Z h36_ p0 c0 .char (20 : Int32) [(.int x0), (.int x1), (.int x2), (.int x3), (.int x4), (.int x5), (.int x6), (.int x7), (.int x8), (.int x9), (.int x10), (.int x11), (.int x12), (.int x13), (.int x14), (.int x15), (.int x16), (.int x17), (.int x18), (.int x19)] (.int 0) := (Arv.other F35 W37 N10)
  refine G.caloadG H36 F39 (j := (5 : Int32)) (v := (.int x5)) (by decide) rfl dc_method_3_code_216 (pc' := 217) rfl ?_
  refine G.stC H36 A38 (by decide) (i := 5) rfl (Nat.le_of_ble_eq_true rfl) na2 (y := x5) (own_narC r9) dc_method_3_code_217 (pc' := 218) rfl ?_
  intro T40 h40_ H40 W41 A42
  replace A42 : Arv Z h40_ a2 k5 .char (14 : Int32) [(.int (0 : Int32)), (.int (0 : Int32)), (.int (0 : Int32)), (.int (0 : Int32)), (.int (0 : Int32)), (.int x5), (.int x6), (.int x7), (.int x8), (.int x9), (.int x10), (.int x11), (.int x12), (.int x13)] (.int 0) := A42
  show Go p e below _ (T40.setTop (mkF m 218 #[.val (.ref p0), .val (.int (14 : Int32)), .val (.ref a2)] []))
  refine G.aloadN H40 dc_method_3_code_218 (pc' := 219) rfl rfl rfl ?_
  refine G.iconst H40 dc_method_3_code_219 (pc' := 220) rfl (v := (4 : Int32)) rfl ?_
  refine G.aloadN H40 dc_method_3_code_220 (pc' := 221) rfl rfl rfl ?_
  refine G.iconst H40 dc_method_3_code_221 (pc' := 222) rfl (v := (4 : Int32)) rfl ?_
  have F43 : Arv Z h40_ p0 c0 .char (20 : Int32) [(.int x0), (.int x1), (.int x2), (.int x3), (.int x4), (.int x5), (.int x6), (.int x7), (.int x8), (.int x9), (.int x10), (.int x11), (.int x12), (.int x13), (.int x14), (.int x15), (.int x16), (.int x17), (.int x18), (.int x19)] (.int 0) := (Arv.other F39 W41 N10)
  refine G.caloadG H40 F43 (j := (4 : Int32)) (v := (.int x4)) (by decide) rfl dc_method_3_code_222 (pc' := 223) rfl ?_
  refine G.stC H40 A42 (by decide) (i := 4) rfl (Nat.le_of_ble_eq_true rfl) na2 (y := x4) (own_narC r10) dc_method_3_code_223 (pc' := 224) rfl ?_
  intro T44 h44_ H44 W45 A46
  replace A46 : Arv Z h44_ a2 k5 .char (14 : Int32) [(.int (0 : Int32)), (.int (0 : Int32)), (.int (0 : Int32)), (.int (0 : Int32)), (.int x4), (.int x5), (.int x6), (.int x7), (.int x8), (.int x9), (.int x10), (.int x11), (.int x12), (.int x13)] (.int 0) := A46
  show Go p e below _ (T44.setTop (mkF m 224 #[.val (.ref p0), .val (.int (14 : Int32)), .val (.ref a2)] []))
  refine G.aloadN H44 dc_method_3_code_224 (pc' := 225) rfl rfl rfl ?_
  refine G.iconst H44 dc_method_3_code_225 (pc' := 226) rfl (v := (3 : Int32)) rfl ?_
  refine G.aloadN H44 dc_method_3_code_226 (pc' := 227) rfl rfl rfl ?_
  refine G.iconst H44 dc_method_3_code_227 (pc' := 228) rfl (v := (3 : Int32)) rfl ?_
  have F47 : Arv Z h44_ p0 c0 .char (20 : Int32) [(.int x0), (.int x1), (.int x2), (.int x3), (.int x4), (.int x5), (.int x6), (.int x7), (.int x8), (.int x9), (.int x10), (.int x11), (.int x12), (.int x13), (.int x14), (.int x15), (.int x16), (.int x17), (.int x18), (.int x19)] (.int 0) := (Arv.other F43 W45 N10)
  refine G.caloadG H44 F47 (j := (3 : Int32)) (v := (.int x3)) (by decide) rfl dc_method_3_code_228 (pc' := 229) rfl ?_
  refine G.stC H44 A46 (by decide) (i := 3) rfl (Nat.le_of_ble_eq_true rfl) na2 (y := x3) (own_narC r11) dc_method_3_code_229 (pc' := 230) rfl ?_
  intro T48 h48_ H48 W49 A50
  replace A50 : Arv Z h48_ a2 k5 .char (14 : Int32) [(.int (0 : Int32)), (.int (0 : Int32)), (.int (0 : Int32)), (.int x3), (.int x4), (.int x5), (.int x6), (.int x7), (.int x8), (.int x9), (.int x10), (.int x11), (.int x12), (.int x13)] (.int 0) := A50
  show Go p e below _ (T48.setTop (mkF m 230 #[.val (.ref p0), .val (.int (14 : Int32)), .val (.ref a2)] []))
  refine G.aloadN H48 dc_method_3_code_230 (pc' := 231) rfl rfl rfl ?_
  refine G.iconst H48 dc_method_3_code_231 (pc' := 232) rfl (v := (2 : Int32)) rfl ?_
  refine G.aloadN H48 dc_method_3_code_232 (pc' := 233) rfl rfl rfl ?_
  refine G.iconst H48 dc_method_3_code_233 (pc' := 234) rfl (v := (2 : Int32)) rfl ?_
  have F51 : Arv Z h48_ p0 c0 .char (20 : Int32) [(.int x0), (.int x1), (.int x2), (.int x3), (.int x4), (.int x5), (.int x6), (.int x7), (.int x8), (.int x9), (.int x10), (.int x11), (.int x12), (.int x13), (.int x14), (.int x15), (.int x16), (.int x17), (.int x18), (.int x19)] (.int 0) := (Arv.other F47 W49 N10)
  refine G.caloadG H48 F51 (j := (2 : Int32)) (v := (.int x2)) (by decide) rfl dc_method_3_code_234 (pc' := 235) rfl ?_
  refine G.stC H48 A50 (by decide) (i := 2) rfl (Nat.le_of_ble_eq_true rfl) na2 (y := x2) (own_narC r12) dc_method_3_code_235 (pc' := 236) rfl ?_
  intro T52 h52_ H52 W53 A54
  replace A54 : Arv Z h52_ a2 k5 .char (14 : Int32) [(.int (0 : Int32)), (.int (0 : Int32)), (.int x2), (.int x3), (.int x4), (.int x5), (.int x6), (.int x7), (.int x8), (.int x9), (.int x10), (.int x11), (.int x12), (.int x13)] (.int 0) := A54
  show Go p e below _ (T52.setTop (mkF m 236 #[.val (.ref p0), .val (.int (14 : Int32)), .val (.ref a2)] []))
  refine G.aloadN H52 dc_method_3_code_236 (pc' := 237) rfl rfl rfl ?_
  refine G.iconst H52 dc_method_3_code_237 (pc' := 238) rfl (v := (1 : Int32)) rfl ?_
  refine G.aloadN H52 dc_method_3_code_238 (pc' := 239) rfl rfl rfl ?_
  refine G.iconst H52 dc_method_3_code_239 (pc' := 240) rfl (v := (1 : Int32)) rfl ?_
  have F55 : Arv Z h52_ p0 c0 .char (20 : Int32) [(.int x0), (.int x1), (.int x2), (.int x3), (.int x4), (.int x5), (.int x6), (.int x7), (.int x8), (.int x9), (.int x10), (.int x11), (.int x12), (.int x13), (.int x14), (.int x15), (.int x16), (.int x17), (.int x18), (.int x19)] (.int 0) := (Arv.other F51 W53 N10)
  refine G.caloadG H52 F55 (j := (1 : Int32)) (v := (.int x1)) (by decide) rfl dc_method_3_code_240 (pc' := 241) rfl ?_
  refine G.stC H52 A54 (by decide) (i := 1) rfl (Nat.le_of_ble_eq_true rfl) na2 (y := x1) (own_narC r13) dc_method_3_code_241 (pc' := 242) rfl ?_
  intro T56 h56_ H56 W57 A58
  replace A58 : Arv Z h56_ a2 k5 .char (14 : Int32) [(.int (0 : Int32)), (.int x1), (.int x2), (.int x3), (.int x4), (.int x5), (.int x6), (.int x7), (.int x8), (.int x9), (.int x10), (.int x11), (.int x12), (.int x13)] (.int 0) := A58
  show Go p e below _ (T56.setTop (mkF m 242 #[.val (.ref p0), .val (.int (14 : Int32)), .val (.ref a2)] []))
  refine G.aloadN H56 dc_method_3_code_242 (pc' := 243) rfl rfl rfl ?_
  refine G.iconst H56 dc_method_3_code_243 (pc' := 244) rfl (v := (0 : Int32)) rfl ?_
  refine G.aloadN H56 dc_method_3_code_244 (pc' := 245) rfl rfl rfl ?_
  refine G.iconst H56 dc_method_3_code_245 (pc' := 246) rfl (v := (0 : Int32)) rfl ?_
  have F59 : Arv Z h56_ p0 c0 .char (20 : Int32) [(.int x0), (.int x1), (.int x2), (.int x3), (.int x4), (.int x5), (.int x6), (.int x7), (.int x8), (.int x9), (.int x10), (.int x11), (.int x12), (.int x13), (.int x14), (.int x15), (.int x16), (.int x17), (.int x18), (.int x19)] (.int 0) := (Arv.other F55 W57 N10)
  refine G.caloadG H56 F59 (j := (0 : Int32)) (v := (.int x0)) (by decide) rfl dc_method_3_code_246 (pc' := 247) rfl ?_
  refine G.stC H56 A58 (by decide) (i := 0) rfl (Nat.le_of_ble_eq_true rfl) na2 (y := x0) (own_narC r14) dc_method_3_code_247 (pc' := 248) rfl ?_
  intro T60 h60_ H60 W61 A62
  replace A62 : Arv Z h60_ a2 k5 .char (14 : Int32) [(.int x0), (.int x1), (.int x2), (.int x3), (.int x4), (.int x5), (.int x6), (.int x7), (.int x8), (.int x9), (.int x10), (.int x11), (.int x12), (.int x13)] (.int 0) := A62
  show Go p e below _ (T60.setTop (mkF m 248 #[.val (.ref p0), .val (.int (14 : Int32)), .val (.ref a2)] []))
  refine G.aloadN H60 dc_method_3_code_248 (pc' := 249) rfl rfl rfl ?_
  have K63 : Keep h0 h60_ [] := (Keep.wr (Keep.wr (Keep.wr (Keep.wr (Keep.wr (Keep.wr (Keep.wr (Keep.wr (Keep.wr (Keep.wr (Keep.wr (Keep.wr (Keep.wr (Keep.wr (Keep.ext (Keep.refl h0 []) E3) W8 (Or.inr (Nat.le_of_eq ga2.symm))) W13 (Or.inr (Nat.le_of_eq ga2.symm))) W17 (Or.inr (Nat.le_of_eq ga2.symm))) W21 (Or.inr (Nat.le_of_eq ga2.symm))) W25 (Or.inr (Nat.le_of_eq ga2.symm))) W29 (Or.inr (Nat.le_of_eq ga2.symm))) W33 (Or.inr (Nat.le_of_eq ga2.symm))) W37 (Or.inr (Nat.le_of_eq ga2.symm))) W41 (Or.inr (Nat.le_of_eq ga2.symm))) W45 (Or.inr (Nat.le_of_eq ga2.symm))) W49 (Or.inr (Nat.le_of_eq ga2.symm))) W53 (Or.inr (Nat.le_of_eq ga2.symm))) W57 (Or.inr (Nat.le_of_eq ga2.symm))) W61 (Or.inr (Nat.le_of_eq ga2.symm)))
  exact G.retA H60 (t := (.array .char)) rfl rfl rfl dc_method_3_code_249 (so := []) all0 (by decide) (by decide) ⟨a2, k5, rfl, rfl, K63, (Nat.le_of_eq ga2.symm), A62⟩
set_option maxRecDepth 65536 in
set_option maxHeartbeats 40000000 in
theorem m48_length {l : Launch} {Z : State} {a0 : Array Value} {n0 : Nat} {z_COMPACT_STRINGS : Int32} {z_SIOOBE_FORMATTER : Value} (V : Env1 Z a0 n0 z_COMPACT_STRINGS z_SIOOBE_FORMATTER) (p0 : Addr) (p1 : Addr) (c0 : ClassId) (x0 : Int32) (x1 : Int32) (x2 : Int32) (x3 : Int32) (x4 : Int32) (x5 : Int32) (x6 : Int32) (x7 : Int32) (x8 : Int32) (x9 : Int32) (x10 : Int32) (x11 : Int32) (x12 : Int32) (x13 : Int32) (h0 : Heap) (hO : Old Z n0 h0) (f0 : Fld Z h0 p0 "java/lang/String" "value" "[B" (.ref p1)) (f1 : Arv Z h0 p1 c0 .byte (14 : Int32) [(.int x0), (.int x1), (.int x2), (.int x3), (.int x4), (.int x5), (.int x6), (.int x7), (.int x8), (.int x9), (.int x10), (.int x11), (.int x12), (.int x13)] (.int 0)) (f2 : Exa Z h0 p0 "java/lang/String") (f3 : Fld Z h0 p0 "java/lang/String" "coder" "B" (.int (0 : Int32))) :
    Met Z a0 ELs True n0 l (⟨"java/lang/String", "length", "()I"⟩ : MethodName) jdk_42_method_54_code 1 (Option.some FieldType.int) ({ frames := 1, cells := 0, slots := 0, locals := 13 } : Room) #[(.ref p0)] h0 [] (fun v h so => (v = some (.int (14 : Int32)) ∧ so = [] ∧ h0 = h)) := by
  refine Met.of (EWl V) (by first | decide +kernel | rfl) hO (L0 := #[.val (.ref p0)]) rfl ?_
  intro p e s m below meth c T H
  show Go p e below _ (T.setTop (mkF m 0 #[.val (.ref p0)] []))
  refine G.aloadN H dc_jdk_42_method_54_code_0 (pc' := 1) rfl rfl rfl ?_
  refine G.getF H (wd34 V) Via.refl f0 dc_jdk_42_method_54_code_1 (pc' := 4) rfl ?_
  intro T1 H2
  refine G.arrlen H2 f1 dc_jdk_42_method_54_code_4 (pc' := 5) rfl ?_
  refine G.aloadN H2 dc_jdk_42_method_54_code_5 (pc' := 6) rfl rfl rfl ?_
  refine G.callV H2 (m4_coder V p0 h0 H2.old f3) (wd45 V) (wd46 V) (nf_sel (wd48 V)) (wd48 V) (wd47 V) (wd5 V) (wd49 V) (by decide) f2 (argsL := []) (rest := [(.int (14 : Int32))]) (W := 1) rfl rfl (lenOf (pd_3) rfl) rfl rfl dc_jdk_42_method_54_code_6 (pc' := 9) rfl (by decide) (by decide) (by decide) (by decide) all0 ?_
  intro T3 h3_ v4 s5 H3 Q6
  obtain ⟨rfl, rfl, rfl⟩ := Q6
  show Go p e below _ (T3.setTop (mkF m 9 #[.val (.ref p0)] [(.int (0 : Int32)), (.int (14 : Int32))]))
  refine G.ishr H3 dc_jdk_42_method_54_code_9 (pc' := 10) rfl ?_
  show Go p e below _ (T3.setTop (mkF m 10 #[.val (.ref p0)] [(.int (14 : Int32))]))
  exact G.retI H3 rfl dc_jdk_42_method_54_code_10 (so := []) all0 (by decide) (by decide) ⟨rfl, rfl, rfl⟩
set_option maxRecDepth 65536 in
set_option maxHeartbeats 40000000 in
theorem m49_untimed {l : Launch} {Z : State} {a0 : Array Value} {n0 : Nat} {z_COMPACT_STRINGS : Int32} {z_SIOOBE_FORMATTER : Value} (V : Env1 Z a0 n0 z_COMPACT_STRINGS z_SIOOBE_FORMATTER) (p0 : Addr) (p1 : Addr) (c0 : ClassId) (x0 : Int32) (x1 : Int32) (x2 : Int32) (x3 : Int32) (x4 : Int32) (x5 : Int32) (x6 : Int32) (x7 : Int32) (x8 : Int32) (x9 : Int32) (x10 : Int32) (x11 : Int32) (x12 : Int32) (x13 : Int32) (h0 : Heap) (hO : Old Z n0 h0) (f0 : Exa Z h0 p0 "java/lang/String") (f1 : Fld Z h0 p0 "java/lang/String" "value" "[B" (.ref p1)) (f2 : Arv Z h0 p1 c0 .byte (14 : Int32) [(.int x0), (.int x1), (.int x2), (.int x3), (.int x4), (.int x5), (.int x6), (.int x7), (.int x8), (.int x9), (.int x10), (.int x11), (.int x12), (.int x13)] (.int 0)) (f3 : Fld Z h0 p0 "java/lang/String" "coder" "B" (.int (0 : Int32))) :
    Met Z a0 ELs True n0 l (⟨"com/example/tenure/tenure/Days", "untimed", "(Ljava/lang/String;)Z"⟩ : MethodName) prog_14_method_4_code 1 (Option.some FieldType.boolean) ({ frames := 2, cells := 2, slots := 44, locals := 26 } : Room) #[(.ref p0)] h0 [p0, p1] (fun v h so => (v = some (.int (0 : Int32)) ∧ so = [] ∧ Keep h0 h [])) := by
  refine Met.of (EWl V) (by first | decide +kernel | rfl) hO (L0 := #[.val (.ref p0)]) rfl ?_
  intro p e s m below meth c T H
  show Go p e below _ (T.setTop (mkF m 0 #[.val (.ref p0)] []))
  refine G.aloadN H dc_prog_14_method_4_code_0 (pc' := 1) rfl rfl rfl ?_
  refine G.callV H (m48_length V p0 p1 c0 x0 x1 x2 x3 x4 x5 x6 x7 x8 x9 x10 x11 x12 x13 h0 H.old f1 f2 f0 f3) (wd40 V) (wd41 V) (nf_sel (wd43 V)) (wd43 V) (wd42 V) (wd5 V) (wd44 V) (by decide) f0 (argsL := []) (rest := []) (W := 0) rfl rfl (lenOf (pd_4) rfl) rfl rfl dc_prog_14_method_4_code_1 (pc' := 4) rfl (by decide) (by decide) (by decide) (by decide) all0 ?_
  intro T1 h1_ v2 s3 H1 Q4
  obtain ⟨rfl, rfl, rfl⟩ := Q4
  show Go p e below _ (T1.setTop (mkF m 4 #[.val (.ref p0)] [(.int (14 : Int32))]))
  refine G.ldcS H1 trivial (wS V) (wd50 V) (by decide) (vs := [(.int (48 : Int32)), (.int (48 : Int32)), (.int (48 : Int32)), (.int (48 : Int32)), (.int (45 : Int32)), (.int (48 : Int32)), (.int (48 : Int32)), (.int (45 : Int32)), (.int (48 : Int32)), (.int (48 : Int32))]) (z := (10 : Int32)) (by decide) (by decide) rfl (n := 40) (by decide) (by decide) (by decide) (by decide) dc_prog_14_method_4_code_4 (pc' := 6) rfl ?_
  intro T5 h5_ a6 b8 k9 H5 E7 X10 F11 F12 A13 Q14
  have S15 : Str Z h5_ a6 b8 k9 [(48 : Int32), (48 : Int32), (48 : Int32), (48 : Int32), (45 : Int32), (48 : Int32), (48 : Int32), (45 : Int32), (48 : Int32), (48 : Int32)] := ⟨X10, F11, F12, A13, by decide, by decide⟩
  show Go p e below _ (T5.setTop (mkF m 6 #[.val (.ref p0)] [(.ref a6), (.int (14 : Int32))]))
  refine G.callV H5 (m6_length V a6 b8 k9 h5_ H5.old F12 A13 X10 F11) (wd40 V) (wd41 V) (nf_sel (wd43 V)) (wd43 V) (wd42 V) (wd5 V) (wd44 V) (by decide) X10 (argsL := []) (rest := [(.int (14 : Int32))]) (W := 1) rfl rfl (lenOf (pd_4) rfl) rfl rfl dc_prog_14_method_4_code_6 (pc' := 9) rfl (by decide) (by decide) (by decide) (by decide) all0 ?_
  intro T16 h16_ v17 s18 H16 Q19
  obtain ⟨rfl, rfl, rfl⟩ := Q19
  show Go p e below _ (T16.setTop (mkF m 9 #[.val (.ref p0)] [(.int (10 : Int32)), (.int (14 : Int32))]))
  refine G.icmpYes H16 dc_prog_14_method_4_code_9 (by decide) (by decide) (pc' := 16) rfl ?_
  refine G.iconst H16 dc_prog_14_method_4_code_16 (pc' := 17) rfl (v := (0 : Int32)) rfl ?_
  have K20 : Keep h0 h5_ [] := (Keep.ext (Keep.refl h0 []) E7)
  exact G.retN H16 (t := .boolean) rfl (by decide) dc_prog_14_method_4_code_17 (so := []) all0 (by decide) (by decide) ⟨rfl, rfl, K20⟩
set_option maxRecDepth 65536 in
set_option maxHeartbeats 40000000 in
theorem m50_prefix {l : Launch} {Z : State} {a0 : Array Value} {n0 : Nat} {z_COMPACT_STRINGS : Int32} {z_SIOOBE_FORMATTER : Value} (V : Env1 Z a0 n0 z_COMPACT_STRINGS z_SIOOBE_FORMATTER) (p0 : Addr) (c0 : ClassId) (x0 : Int32) (x1 : Int32) (x2 : Int32) (x3 : Int32) (x4 : Int32) (x5 : Int32) (x6 : Int32) (x7 : Int32) (x8 : Int32) (x9 : Int32) (x10 : Int32) (x11 : Int32) (x12 : Int32) (x13 : Int32) (x14 : Int32) (x15 : Int32) (x16 : Int32) (x17 : Int32) (x18 : Int32) (x19 : Int32) (h0 : Heap) (hO : Old Z n0 h0) (f0 : Arv Z h0 p0 c0 .char (20 : Int32) [(.int x0), (.int x1), (.int x2), (.int x3), (.int x4), (.int x5), (.int x6), (.int x7), (.int x8), (.int x9), (.int x10), (.int x11), (.int x12), (.int x13), (.int x14), (.int x15), (.int x16), (.int x17), (.int x18), (.int x19)] (.int 0)) (r1 : ¬ x14 < 0 ∧ ¬ (65535 : Int32) < x14) (r2 : ¬ x13 < 0 ∧ ¬ (65535 : Int32) < x13) (r3 : ¬ x12 < 0 ∧ ¬ (65535 : Int32) < x12) (r4 : ¬ x11 < 0 ∧ ¬ (65535 : Int32) < x11) (r5 : ¬ x10 < 0 ∧ ¬ (65535 : Int32) < x10) (r6 : ¬ x9 < 0 ∧ ¬ (65535 : Int32) < x9) (r7 : ¬ x8 < 0 ∧ ¬ (65535 : Int32) < x8) (r8 : ¬ x7 < 0 ∧ ¬ (65535 : Int32) < x7) (r9 : ¬ x6 < 0 ∧ ¬ (65535 : Int32) < x6) (r10 : ¬ x5 < 0 ∧ ¬ (65535 : Int32) < x5) (r11 : ¬ x4 < 0 ∧ ¬ (65535 : Int32) < x4) (r12 : ¬ x3 < 0 ∧ ¬ (65535 : Int32) < x3) (r13 : ¬ x2 < 0 ∧ ¬ (65535 : Int32) < x2) (r14 : ¬ x1 < 0 ∧ ¬ (65535 : Int32) < x1) (r15 : ¬ x0 < 0 ∧ ¬ (65535 : Int32) < x0) :
    Met Z a0 ELs True n0 l (⟨"com/example/tenure/tenure/DaysUntimedPinLaw", "prefix", "([CI)[C"⟩ : MethodName) method_3_code 3 (Option.some (FieldType.array FieldType.char)) ({ frames := 0, cells := 1, slots := 15, locals := 0 } : Room) #[(.ref p0), (.int (15 : Int32))] h0 [] (fun v h so => (∃ a2 : Addr, ∃ k5 : ClassId, v = some (.ref a2) ∧ so = [] ∧ Keep h0 h [] ∧ h0.size ≤ a2 ∧ Arv Z h a2 k5 .char (15 : Int32) [(.int x0), (.int x1), (.int x2), (.int x3), (.int x4), (.int x5), (.int x6), (.int x7), (.int x8), (.int x9), (.int x10), (.int x11), (.int x12), (.int x13), (.int x14)] (.int 0))) := by
  refine Met.of (EWl V) (by first | decide +kernel | rfl) hO (L0 := #[.val (.ref p0), .val (.int (15 : Int32)), .unset]) rfl ?_
  intro p e s m below meth c T H
  show Go p e below _ (T.setTop (mkF m 0 #[.val (.ref p0), .val (.int (15 : Int32)), .unset] []))
  refine G.iloadN H dc_method_3_code_0 (pc' := 1) rfl rfl ?_
  refine G.newP H (aty := .char) (wd0 V) dc_method_3_code_1 (pc' := 3) rfl (by decide) (cap := 15) (by decide) (by decide) (by decide) (by decide) (vs := [(.int (0 : Int32)), (.int (0 : Int32)), (.int (0 : Int32)), (.int (0 : Int32)), (.int (0 : Int32)), (.int (0 : Int32)), (.int (0 : Int32)), (.int (0 : Int32)), (.int (0 : Int32)), (.int (0 : Int32)), (.int (0 : Int32)), (.int (0 : Int32)), (.int (0 : Int32)), (.int (0 : Int32)), (.int (0 : Int32))]) rfl ?_
  intro T1 h1_ a2 k5 ga2 H1 E3 A4
  have na2 : n0 ≤ a2 := Nat.le_trans H.le (Nat.le_of_eq ga2.symm)
  replace A4 : Arv Z h1_ a2 k5 .char (15 : Int32) [(.int (0 : Int32)), (.int (0 : Int32)), (.int (0 : Int32)), (.int (0 : Int32)), (.int (0 : Int32)), (.int (0 : Int32)), (.int (0 : Int32)), (.int (0 : Int32)), (.int (0 : Int32)), (.int (0 : Int32)), (.int (0 : Int32)), (.int (0 : Int32)), (.int (0 : Int32)), (.int (0 : Int32)), (.int (0 : Int32))] (.int 0) := A4
  show Go p e below _ (T1.setTop (mkF m 3 #[.val (.ref p0), .val (.int (15 : Int32)), .unset] [(.ref a2)]))
  refine G.astoreN H1 (L' := #[.val (.ref p0), .val (.int (15 : Int32)), .val (.ref a2)]) dc_method_3_code_3 (pc' := 4) rfl rfl rfl ?_
  refine G.iloadN H1 dc_method_3_code_4 (pc' := 5) rfl rfl ?_
  refine G.tswIn H1 dc_method_3_code_5 (by decide) (o := 135) rfl (by decide) (pc' := 140) rfl ?_
  refine G.aloadN H1 dc_method_3_code_140 (pc' := 141) rfl rfl rfl ?_
  refine G.bipush H1 dc_method_3_code_141 (pc' := 143) rfl (v := (14 : Int32)) rfl ?_
  refine G.aloadN H1 dc_method_3_code_143 (pc' := 144) rfl rfl rfl ?_
  refine G.bipush H1 dc_method_3_code_144 (pc' := 146) rfl (v := (14 : Int32)) rfl ?_
  have F6 : Arv Z h1_ p0 c0 .char (20 : Int32) [(.int x0), (.int x1), (.int x2), (.int x3), (.int x4), (.int x5), (.int x6), (.int x7), (.int x8), (.int x9), (.int x10), (.int x11), (.int x12), (.int x13), (.int x14), (.int x15), (.int x16), (.int x17), (.int x18), (.int x19)] (.int 0) := (Arv.ext f0 E3)
  refine G.caloadG H1 F6 (j := (14 : Int32)) (v := (.int x14)) (by decide) rfl dc_method_3_code_146 (pc' := 147) rfl ?_
  refine G.stC H1 A4 (by decide) (i := 14) rfl (Nat.le_of_ble_eq_true rfl) na2 (y := x14) (own_narC r1) dc_method_3_code_147 (pc' := 148) rfl ?_
  intro T7 h7_ H7 W8 A9
  replace A9 : Arv Z h7_ a2 k5 .char (15 : Int32) [(.int (0 : Int32)), (.int (0 : Int32)), (.int (0 : Int32)), (.int (0 : Int32)), (.int (0 : Int32)), (.int (0 : Int32)), (.int (0 : Int32)), (.int (0 : Int32)), (.int (0 : Int32)), (.int (0 : Int32)), (.int (0 : Int32)), (.int (0 : Int32)), (.int (0 : Int32)), (.int (0 : Int32)), (.int x14)] (.int 0) := A9
  show Go p e below _ (T7.setTop (mkF m 148 #[.val (.ref p0), .val (.int (15 : Int32)), .val (.ref a2)] []))
  refine G.aloadN H7 dc_method_3_code_148 (pc' := 149) rfl rfl rfl ?_
  refine G.bipush H7 dc_method_3_code_149 (pc' := 151) rfl (v := (13 : Int32)) rfl ?_
  refine G.aloadN H7 dc_method_3_code_151 (pc' := 152) rfl rfl rfl ?_
  refine G.bipush H7 dc_method_3_code_152 (pc' := 154) rfl (v := (13 : Int32)) rfl ?_
  have N10 : p0 ≠ a2 := (Nat.ne_of_lt (Nat.lt_of_lt_of_le f0.lt (Nat.le_of_eq ga2.symm)))
  have F11 : Arv Z h7_ p0 c0 .char (20 : Int32) [(.int x0), (.int x1), (.int x2), (.int x3), (.int x4), (.int x5), (.int x6), (.int x7), (.int x8), (.int x9), (.int x10), (.int x11), (.int x12), (.int x13), (.int x14), (.int x15), (.int x16), (.int x17), (.int x18), (.int x19)] (.int 0) := (Arv.other F6 W8 N10)
  refine G.caloadG H7 F11 (j := (13 : Int32)) (v := (.int x13)) (by decide) rfl dc_method_3_code_154 (pc' := 155) rfl ?_
  refine G.stC H7 A9 (by decide) (i := 13) rfl (Nat.le_of_ble_eq_true rfl) na2 (y := x13) (own_narC r2) dc_method_3_code_155 (pc' := 156) rfl ?_
  intro T12 h12_ H12 W13 A14
  replace A14 : Arv Z h12_ a2 k5 .char (15 : Int32) [(.int (0 : Int32)), (.int (0 : Int32)), (.int (0 : Int32)), (.int (0 : Int32)), (.int (0 : Int32)), (.int (0 : Int32)), (.int (0 : Int32)), (.int (0 : Int32)), (.int (0 : Int32)), (.int (0 : Int32)), (.int (0 : Int32)), (.int (0 : Int32)), (.int (0 : Int32)), (.int x13), (.int x14)] (.int 0) := A14
  show Go p e below _ (T12.setTop (mkF m 156 #[.val (.ref p0), .val (.int (15 : Int32)), .val (.ref a2)] []))
  refine G.aloadN H12 dc_method_3_code_156 (pc' := 157) rfl rfl rfl ?_
  refine G.bipush H12 dc_method_3_code_157 (pc' := 159) rfl (v := (12 : Int32)) rfl ?_
  refine G.aloadN H12 dc_method_3_code_159 (pc' := 160) rfl rfl rfl ?_
  refine G.bipush H12 dc_method_3_code_160 (pc' := 162) rfl (v := (12 : Int32)) rfl ?_
  have F15 : Arv Z h12_ p0 c0 .char (20 : Int32) [(.int x0), (.int x1), (.int x2), (.int x3), (.int x4), (.int x5), (.int x6), (.int x7), (.int x8), (.int x9), (.int x10), (.int x11), (.int x12), (.int x13), (.int x14), (.int x15), (.int x16), (.int x17), (.int x18), (.int x19)] (.int 0) := (Arv.other F11 W13 N10)
  refine G.caloadG H12 F15 (j := (12 : Int32)) (v := (.int x12)) (by decide) rfl dc_method_3_code_162 (pc' := 163) rfl ?_
  refine G.stC H12 A14 (by decide) (i := 12) rfl (Nat.le_of_ble_eq_true rfl) na2 (y := x12) (own_narC r3) dc_method_3_code_163 (pc' := 164) rfl ?_
  intro T16 h16_ H16 W17 A18
  replace A18 : Arv Z h16_ a2 k5 .char (15 : Int32) [(.int (0 : Int32)), (.int (0 : Int32)), (.int (0 : Int32)), (.int (0 : Int32)), (.int (0 : Int32)), (.int (0 : Int32)), (.int (0 : Int32)), (.int (0 : Int32)), (.int (0 : Int32)), (.int (0 : Int32)), (.int (0 : Int32)), (.int (0 : Int32)), (.int x12), (.int x13), (.int x14)] (.int 0) := A18
  show Go p e below _ (T16.setTop (mkF m 164 #[.val (.ref p0), .val (.int (15 : Int32)), .val (.ref a2)] []))
  refine G.aloadN H16 dc_method_3_code_164 (pc' := 165) rfl rfl rfl ?_
  refine G.bipush H16 dc_method_3_code_165 (pc' := 167) rfl (v := (11 : Int32)) rfl ?_
  refine G.aloadN H16 dc_method_3_code_167 (pc' := 168) rfl rfl rfl ?_
  refine G.bipush H16 dc_method_3_code_168 (pc' := 170) rfl (v := (11 : Int32)) rfl ?_
  have F19 : Arv Z h16_ p0 c0 .char (20 : Int32) [(.int x0), (.int x1), (.int x2), (.int x3), (.int x4), (.int x5), (.int x6), (.int x7), (.int x8), (.int x9), (.int x10), (.int x11), (.int x12), (.int x13), (.int x14), (.int x15), (.int x16), (.int x17), (.int x18), (.int x19)] (.int 0) := (Arv.other F15 W17 N10)
  refine G.caloadG H16 F19 (j := (11 : Int32)) (v := (.int x11)) (by decide) rfl dc_method_3_code_170 (pc' := 171) rfl ?_
  refine G.stC H16 A18 (by decide) (i := 11) rfl (Nat.le_of_ble_eq_true rfl) na2 (y := x11) (own_narC r4) dc_method_3_code_171 (pc' := 172) rfl ?_
  intro T20 h20_ H20 W21 A22
  replace A22 : Arv Z h20_ a2 k5 .char (15 : Int32) [(.int (0 : Int32)), (.int (0 : Int32)), (.int (0 : Int32)), (.int (0 : Int32)), (.int (0 : Int32)), (.int (0 : Int32)), (.int (0 : Int32)), (.int (0 : Int32)), (.int (0 : Int32)), (.int (0 : Int32)), (.int (0 : Int32)), (.int x11), (.int x12), (.int x13), (.int x14)] (.int 0) := A22
  show Go p e below _ (T20.setTop (mkF m 172 #[.val (.ref p0), .val (.int (15 : Int32)), .val (.ref a2)] []))
  refine G.aloadN H20 dc_method_3_code_172 (pc' := 173) rfl rfl rfl ?_
  refine G.bipush H20 dc_method_3_code_173 (pc' := 175) rfl (v := (10 : Int32)) rfl ?_
  refine G.aloadN H20 dc_method_3_code_175 (pc' := 176) rfl rfl rfl ?_
  refine G.bipush H20 dc_method_3_code_176 (pc' := 178) rfl (v := (10 : Int32)) rfl ?_
  have F23 : Arv Z h20_ p0 c0 .char (20 : Int32) [(.int x0), (.int x1), (.int x2), (.int x3), (.int x4), (.int x5), (.int x6), (.int x7), (.int x8), (.int x9), (.int x10), (.int x11), (.int x12), (.int x13), (.int x14), (.int x15), (.int x16), (.int x17), (.int x18), (.int x19)] (.int 0) := (Arv.other F19 W21 N10)
  refine G.caloadG H20 F23 (j := (10 : Int32)) (v := (.int x10)) (by decide) rfl dc_method_3_code_178 (pc' := 179) rfl ?_
  refine G.stC H20 A22 (by decide) (i := 10) rfl (Nat.le_of_ble_eq_true rfl) na2 (y := x10) (own_narC r5) dc_method_3_code_179 (pc' := 180) rfl ?_
  intro T24 h24_ H24 W25 A26
  replace A26 : Arv Z h24_ a2 k5 .char (15 : Int32) [(.int (0 : Int32)), (.int (0 : Int32)), (.int (0 : Int32)), (.int (0 : Int32)), (.int (0 : Int32)), (.int (0 : Int32)), (.int (0 : Int32)), (.int (0 : Int32)), (.int (0 : Int32)), (.int (0 : Int32)), (.int x10), (.int x11), (.int x12), (.int x13), (.int x14)] (.int 0) := A26
  show Go p e below _ (T24.setTop (mkF m 180 #[.val (.ref p0), .val (.int (15 : Int32)), .val (.ref a2)] []))
  refine G.aloadN H24 dc_method_3_code_180 (pc' := 181) rfl rfl rfl ?_
  refine G.bipush H24 dc_method_3_code_181 (pc' := 183) rfl (v := (9 : Int32)) rfl ?_
  refine G.aloadN H24 dc_method_3_code_183 (pc' := 184) rfl rfl rfl ?_
  refine G.bipush H24 dc_method_3_code_184 (pc' := 186) rfl (v := (9 : Int32)) rfl ?_
  have F27 : Arv Z h24_ p0 c0 .char (20 : Int32) [(.int x0), (.int x1), (.int x2), (.int x3), (.int x4), (.int x5), (.int x6), (.int x7), (.int x8), (.int x9), (.int x10), (.int x11), (.int x12), (.int x13), (.int x14), (.int x15), (.int x16), (.int x17), (.int x18), (.int x19)] (.int 0) := (Arv.other F23 W25 N10)
  refine G.caloadG H24 F27 (j := (9 : Int32)) (v := (.int x9)) (by decide) rfl dc_method_3_code_186 (pc' := 187) rfl ?_
  refine G.stC H24 A26 (by decide) (i := 9) rfl (Nat.le_of_ble_eq_true rfl) na2 (y := x9) (own_narC r6) dc_method_3_code_187 (pc' := 188) rfl ?_
  intro T28 h28_ H28 W29 A30
  replace A30 : Arv Z h28_ a2 k5 .char (15 : Int32) [(.int (0 : Int32)), (.int (0 : Int32)), (.int (0 : Int32)), (.int (0 : Int32)), (.int (0 : Int32)), (.int (0 : Int32)), (.int (0 : Int32)), (.int (0 : Int32)), (.int (0 : Int32)), (.int x9), (.int x10), (.int x11), (.int x12), (.int x13), (.int x14)] (.int 0) := A30
  show Go p e below _ (T28.setTop (mkF m 188 #[.val (.ref p0), .val (.int (15 : Int32)), .val (.ref a2)] []))
  refine G.aloadN H28 dc_method_3_code_188 (pc' := 189) rfl rfl rfl ?_
  refine G.bipush H28 dc_method_3_code_189 (pc' := 191) rfl (v := (8 : Int32)) rfl ?_
  refine G.aloadN H28 dc_method_3_code_191 (pc' := 192) rfl rfl rfl ?_
  refine G.bipush H28 dc_method_3_code_192 (pc' := 194) rfl (v := (8 : Int32)) rfl ?_
  have F31 : Arv Z h28_ p0 c0 .char (20 : Int32) [(.int x0), (.int x1), (.int x2), (.int x3), (.int x4), (.int x5), (.int x6), (.int x7), (.int x8), (.int x9), (.int x10), (.int x11), (.int x12), (.int x13), (.int x14), (.int x15), (.int x16), (.int x17), (.int x18), (.int x19)] (.int 0) := (Arv.other F27 W29 N10)
  refine G.caloadG H28 F31 (j := (8 : Int32)) (v := (.int x8)) (by decide) rfl dc_method_3_code_194 (pc' := 195) rfl ?_
  refine G.stC H28 A30 (by decide) (i := 8) rfl (Nat.le_of_ble_eq_true rfl) na2 (y := x8) (own_narC r7) dc_method_3_code_195 (pc' := 196) rfl ?_
  intro T32 h32_ H32 W33 A34
  replace A34 : Arv Z h32_ a2 k5 .char (15 : Int32) [(.int (0 : Int32)), (.int (0 : Int32)), (.int (0 : Int32)), (.int (0 : Int32)), (.int (0 : Int32)), (.int (0 : Int32)), (.int (0 : Int32)), (.int (0 : Int32)), (.int x8), (.int x9), (.int x10), (.int x11), (.int x12), (.int x13), (.int x14)] (.int 0) := A34
  show Go p e below _ (T32.setTop (mkF m 196 #[.val (.ref p0), .val (.int (15 : Int32)), .val (.ref a2)] []))
  refine G.aloadN H32 dc_method_3_code_196 (pc' := 197) rfl rfl rfl ?_
  refine G.bipush H32 dc_method_3_code_197 (pc' := 199) rfl (v := (7 : Int32)) rfl ?_
  refine G.aloadN H32 dc_method_3_code_199 (pc' := 200) rfl rfl rfl ?_
  refine G.bipush H32 dc_method_3_code_200 (pc' := 202) rfl (v := (7 : Int32)) rfl ?_
  have F35 : Arv Z h32_ p0 c0 .char (20 : Int32) [(.int x0), (.int x1), (.int x2), (.int x3), (.int x4), (.int x5), (.int x6), (.int x7), (.int x8), (.int x9), (.int x10), (.int x11), (.int x12), (.int x13), (.int x14), (.int x15), (.int x16), (.int x17), (.int x18), (.int x19)] (.int 0) := (Arv.other F31 W33 N10)
  refine G.caloadG H32 F35 (j := (7 : Int32)) (v := (.int x7)) (by decide) rfl dc_method_3_code_202 (pc' := 203) rfl ?_
  refine G.stC H32 A34 (by decide) (i := 7) rfl (Nat.le_of_ble_eq_true rfl) na2 (y := x7) (own_narC r8) dc_method_3_code_203 (pc' := 204) rfl ?_
  intro T36 h36_ H36 W37 A38
  replace A38 : Arv Z h36_ a2 k5 .char (15 : Int32) [(.int (0 : Int32)), (.int (0 : Int32)), (.int (0 : Int32)), (.int (0 : Int32)), (.int (0 : Int32)), (.int (0 : Int32)), (.int (0 : Int32)), (.int x7), (.int x8), (.int x9), (.int x10), (.int x11), (.int x12), (.int x13), (.int x14)] (.int 0) := A38
  show Go p e below _ (T36.setTop (mkF m 204 #[.val (.ref p0), .val (.int (15 : Int32)), .val (.ref a2)] []))
  refine G.aloadN H36 dc_method_3_code_204 (pc' := 205) rfl rfl rfl ?_
  refine G.bipush H36 dc_method_3_code_205 (pc' := 207) rfl (v := (6 : Int32)) rfl ?_
  refine G.aloadN H36 dc_method_3_code_207 (pc' := 208) rfl rfl rfl ?_
  refine G.bipush H36 dc_method_3_code_208 (pc' := 210) rfl (v := (6 : Int32)) rfl ?_
  have F39 : Arv Z h36_ p0 c0 .char (20 : Int32) [(.int x0), (.int x1), (.int x2), (.int x3), (.int x4), (.int x5), (.int x6), (.int x7), (.int x8), (.int x9), (.int x10), (.int x11), (.int x12), (.int x13), (.int x14), (.int x15), (.int x16), (.int x17), (.int x18), (.int x19)] (.int 0) := (Arv.other F35 W37 N10)
  refine G.caloadG H36 F39 (j := (6 : Int32)) (v := (.int x6)) (by decide) rfl dc_method_3_code_210 (pc' := 211) rfl ?_
  refine G.stC H36 A38 (by decide) (i := 6) rfl (Nat.le_of_ble_eq_true rfl) na2 (y := x6) (own_narC r9) dc_method_3_code_211 (pc' := 212) rfl ?_
  intro T40 h40_ H40 W41 A42
  replace A42 : Arv Z h40_ a2 k5 .char (15 : Int32) [(.int (0 : Int32)), (.int (0 : Int32)), (.int (0 : Int32)), (.int (0 : Int32)), (.int (0 : Int32)), (.int (0 : Int32)), (.int x6), (.int x7), (.int x8), (.int x9), (.int x10), (.int x11), (.int x12), (.int x13), (.int x14)] (.int 0) := A42
  show Go p e below _ (T40.setTop (mkF m 212 #[.val (.ref p0), .val (.int (15 : Int32)), .val (.ref a2)] []))
  refine G.aloadN H40 dc_method_3_code_212 (pc' := 213) rfl rfl rfl ?_
  refine G.iconst H40 dc_method_3_code_213 (pc' := 214) rfl (v := (5 : Int32)) rfl ?_
  refine G.aloadN H40 dc_method_3_code_214 (pc' := 215) rfl rfl rfl ?_
  refine G.iconst H40 dc_method_3_code_215 (pc' := 216) rfl (v := (5 : Int32)) rfl ?_
  have F43 : Arv Z h40_ p0 c0 .char (20 : Int32) [(.int x0), (.int x1), (.int x2), (.int x3), (.int x4), (.int x5), (.int x6), (.int x7), (.int x8), (.int x9), (.int x10), (.int x11), (.int x12), (.int x13), (.int x14), (.int x15), (.int x16), (.int x17), (.int x18), (.int x19)] (.int 0) := (Arv.other F39 W41 N10)
  refine G.caloadG H40 F43 (j := (5 : Int32)) (v := (.int x5)) (by decide) rfl dc_method_3_code_216 (pc' := 217) rfl ?_
  refine G.stC H40 A42 (by decide) (i := 5) rfl (Nat.le_of_ble_eq_true rfl) na2 (y := x5) (own_narC r10) dc_method_3_code_217 (pc' := 218) rfl ?_
  intro T44 h44_ H44 W45 A46
  replace A46 : Arv Z h44_ a2 k5 .char (15 : Int32) [(.int (0 : Int32)), (.int (0 : Int32)), (.int (0 : Int32)), (.int (0 : Int32)), (.int (0 : Int32)), (.int x5), (.int x6), (.int x7), (.int x8), (.int x9), (.int x10), (.int x11), (.int x12), (.int x13), (.int x14)] (.int 0) := A46
  show Go p e below _ (T44.setTop (mkF m 218 #[.val (.ref p0), .val (.int (15 : Int32)), .val (.ref a2)] []))
  refine G.aloadN H44 dc_method_3_code_218 (pc' := 219) rfl rfl rfl ?_
  refine G.iconst H44 dc_method_3_code_219 (pc' := 220) rfl (v := (4 : Int32)) rfl ?_
  refine G.aloadN H44 dc_method_3_code_220 (pc' := 221) rfl rfl rfl ?_
  refine G.iconst H44 dc_method_3_code_221 (pc' := 222) rfl (v := (4 : Int32)) rfl ?_
  have F47 : Arv Z h44_ p0 c0 .char (20 : Int32) [(.int x0), (.int x1), (.int x2), (.int x3), (.int x4), (.int x5), (.int x6), (.int x7), (.int x8), (.int x9), (.int x10), (.int x11), (.int x12), (.int x13), (.int x14), (.int x15), (.int x16), (.int x17), (.int x18), (.int x19)] (.int 0) := (Arv.other F43 W45 N10)
  refine G.caloadG H44 F47 (j := (4 : Int32)) (v := (.int x4)) (by decide) rfl dc_method_3_code_222 (pc' := 223) rfl ?_
  refine G.stC H44 A46 (by decide) (i := 4) rfl (Nat.le_of_ble_eq_true rfl) na2 (y := x4) (own_narC r11) dc_method_3_code_223 (pc' := 224) rfl ?_
  intro T48 h48_ H48 W49 A50
  replace A50 : Arv Z h48_ a2 k5 .char (15 : Int32) [(.int (0 : Int32)), (.int (0 : Int32)), (.int (0 : Int32)), (.int (0 : Int32)), (.int x4), (.int x5), (.int x6), (.int x7), (.int x8), (.int x9), (.int x10), (.int x11), (.int x12), (.int x13), (.int x14)] (.int 0) := A50
  show Go p e below _ (T48.setTop (mkF m 224 #[.val (.ref p0), .val (.int (15 : Int32)), .val (.ref a2)] []))
  refine G.aloadN H48 dc_method_3_code_224 (pc' := 225) rfl rfl rfl ?_
  refine G.iconst H48 dc_method_3_code_225 (pc' := 226) rfl (v := (3 : Int32)) rfl ?_
  refine G.aloadN H48 dc_method_3_code_226 (pc' := 227) rfl rfl rfl ?_
  refine G.iconst H48 dc_method_3_code_227 (pc' := 228) rfl (v := (3 : Int32)) rfl ?_
  have F51 : Arv Z h48_ p0 c0 .char (20 : Int32) [(.int x0), (.int x1), (.int x2), (.int x3), (.int x4), (.int x5), (.int x6), (.int x7), (.int x8), (.int x9), (.int x10), (.int x11), (.int x12), (.int x13), (.int x14), (.int x15), (.int x16), (.int x17), (.int x18), (.int x19)] (.int 0) := (Arv.other F47 W49 N10)
  refine G.caloadG H48 F51 (j := (3 : Int32)) (v := (.int x3)) (by decide) rfl dc_method_3_code_228 (pc' := 229) rfl ?_
  refine G.stC H48 A50 (by decide) (i := 3) rfl (Nat.le_of_ble_eq_true rfl) na2 (y := x3) (own_narC r12) dc_method_3_code_229 (pc' := 230) rfl ?_
  intro T52 h52_ H52 W53 A54
  replace A54 : Arv Z h52_ a2 k5 .char (15 : Int32) [(.int (0 : Int32)), (.int (0 : Int32)), (.int (0 : Int32)), (.int x3), (.int x4), (.int x5), (.int x6), (.int x7), (.int x8), (.int x9), (.int x10), (.int x11), (.int x12), (.int x13), (.int x14)] (.int 0) := A54
  show Go p e below _ (T52.setTop (mkF m 230 #[.val (.ref p0), .val (.int (15 : Int32)), .val (.ref a2)] []))
  refine G.aloadN H52 dc_method_3_code_230 (pc' := 231) rfl rfl rfl ?_
  refine G.iconst H52 dc_method_3_code_231 (pc' := 232) rfl (v := (2 : Int32)) rfl ?_
  refine G.aloadN H52 dc_method_3_code_232 (pc' := 233) rfl rfl rfl ?_
  refine G.iconst H52 dc_method_3_code_233 (pc' := 234) rfl (v := (2 : Int32)) rfl ?_
  have F55 : Arv Z h52_ p0 c0 .char (20 : Int32) [(.int x0), (.int x1), (.int x2), (.int x3), (.int x4), (.int x5), (.int x6), (.int x7), (.int x8), (.int x9), (.int x10), (.int x11), (.int x12), (.int x13), (.int x14), (.int x15), (.int x16), (.int x17), (.int x18), (.int x19)] (.int 0) := (Arv.other F51 W53 N10)
  refine G.caloadG H52 F55 (j := (2 : Int32)) (v := (.int x2)) (by decide) rfl dc_method_3_code_234 (pc' := 235) rfl ?_
  refine G.stC H52 A54 (by decide) (i := 2) rfl (Nat.le_of_ble_eq_true rfl) na2 (y := x2) (own_narC r13) dc_method_3_code_235 (pc' := 236) rfl ?_
  intro T56 h56_ H56 W57 A58
  replace A58 : Arv Z h56_ a2 k5 .char (15 : Int32) [(.int (0 : Int32)), (.int (0 : Int32)), (.int x2), (.int x3), (.int x4), (.int x5), (.int x6), (.int x7), (.int x8), (.int x9), (.int x10), (.int x11), (.int x12), (.int x13), (.int x14)] (.int 0) := A58
  show Go p e below _ (T56.setTop (mkF m 236 #[.val (.ref p0), .val (.int (15 : Int32)), .val (.ref a2)] []))
  refine G.aloadN H56 dc_method_3_code_236 (pc' := 237) rfl rfl rfl ?_
  refine G.iconst H56 dc_method_3_code_237 (pc' := 238) rfl (v := (1 : Int32)) rfl ?_
  refine G.aloadN H56 dc_method_3_code_238 (pc' := 239) rfl rfl rfl ?_
  refine G.iconst H56 dc_method_3_code_239 (pc' := 240) rfl (v := (1 : Int32)) rfl ?_
  have F59 : Arv Z h56_ p0 c0 .char (20 : Int32) [(.int x0), (.int x1), (.int x2), (.int x3), (.int x4), (.int x5), (.int x6), (.int x7), (.int x8), (.int x9), (.int x10), (.int x11), (.int x12), (.int x13), (.int x14), (.int x15), (.int x16), (.int x17), (.int x18), (.int x19)] (.int 0) := (Arv.other F55 W57 N10)
  refine G.caloadG H56 F59 (j := (1 : Int32)) (v := (.int x1)) (by decide) rfl dc_method_3_code_240 (pc' := 241) rfl ?_
  refine G.stC H56 A58 (by decide) (i := 1) rfl (Nat.le_of_ble_eq_true rfl) na2 (y := x1) (own_narC r14) dc_method_3_code_241 (pc' := 242) rfl ?_
  intro T60 h60_ H60 W61 A62
  replace A62 : Arv Z h60_ a2 k5 .char (15 : Int32) [(.int (0 : Int32)), (.int x1), (.int x2), (.int x3), (.int x4), (.int x5), (.int x6), (.int x7), (.int x8), (.int x9), (.int x10), (.int x11), (.int x12), (.int x13), (.int x14)] (.int 0) := A62
  show Go p e below _ (T60.setTop (mkF m 242 #[.val (.ref p0), .val (.int (15 : Int32)), .val (.ref a2)] []))
  refine G.aloadN H60 dc_method_3_code_242 (pc' := 243) rfl rfl rfl ?_
  refine G.iconst H60 dc_method_3_code_243 (pc' := 244) rfl (v := (0 : Int32)) rfl ?_
  refine G.aloadN H60 dc_method_3_code_244 (pc' := 245) rfl rfl rfl ?_
  refine G.iconst H60 dc_method_3_code_245 (pc' := 246) rfl (v := (0 : Int32)) rfl ?_
  have F63 : Arv Z h60_ p0 c0 .char (20 : Int32) [(.int x0), (.int x1), (.int x2), (.int x3), (.int x4), (.int x5), (.int x6), (.int x7), (.int x8), (.int x9), (.int x10), (.int x11), (.int x12), (.int x13), (.int x14), (.int x15), (.int x16), (.int x17), (.int x18), (.int x19)] (.int 0) := (Arv.other F59 W61 N10)
  refine G.caloadG H60 F63 (j := (0 : Int32)) (v := (.int x0)) (by decide) rfl dc_method_3_code_246 (pc' := 247) rfl ?_
  refine G.stC H60 A62 (by decide) (i := 0) rfl (Nat.le_of_ble_eq_true rfl) na2 (y := x0) (own_narC r15) dc_method_3_code_247 (pc' := 248) rfl ?_
  intro T64 h64_ H64 W65 A66
  replace A66 : Arv Z h64_ a2 k5 .char (15 : Int32) [(.int x0), (.int x1), (.int x2), (.int x3), (.int x4), (.int x5), (.int x6), (.int x7), (.int x8), (.int x9), (.int x10), (.int x11), (.int x12), (.int x13), (.int x14)] (.int 0) := A66
  show Go p e below _ (T64.setTop (mkF m 248 #[.val (.ref p0), .val (.int (15 : Int32)), .val (.ref a2)] []))
  refine G.aloadN H64 dc_method_3_code_248 (pc' := 249) rfl rfl rfl ?_
  have K67 : Keep h0 h64_ [] := (Keep.wr (Keep.wr (Keep.wr (Keep.wr (Keep.wr (Keep.wr (Keep.wr (Keep.wr (Keep.wr (Keep.wr (Keep.wr (Keep.wr (Keep.wr (Keep.wr (Keep.wr (Keep.ext (Keep.refl h0 []) E3) W8 (Or.inr (Nat.le_of_eq ga2.symm))) W13 (Or.inr (Nat.le_of_eq ga2.symm))) W17 (Or.inr (Nat.le_of_eq ga2.symm))) W21 (Or.inr (Nat.le_of_eq ga2.symm))) W25 (Or.inr (Nat.le_of_eq ga2.symm))) W29 (Or.inr (Nat.le_of_eq ga2.symm))) W33 (Or.inr (Nat.le_of_eq ga2.symm))) W37 (Or.inr (Nat.le_of_eq ga2.symm))) W41 (Or.inr (Nat.le_of_eq ga2.symm))) W45 (Or.inr (Nat.le_of_eq ga2.symm))) W49 (Or.inr (Nat.le_of_eq ga2.symm))) W53 (Or.inr (Nat.le_of_eq ga2.symm))) W57 (Or.inr (Nat.le_of_eq ga2.symm))) W61 (Or.inr (Nat.le_of_eq ga2.symm))) W65 (Or.inr (Nat.le_of_eq ga2.symm)))
  exact G.retA H64 (t := (.array .char)) rfl rfl rfl dc_method_3_code_249 (so := []) all0 (by decide) (by decide) ⟨a2, k5, rfl, rfl, K67, (Nat.le_of_eq ga2.symm), A66⟩
set_option maxRecDepth 65536 in
set_option maxHeartbeats 40000000 in
theorem m51_length {l : Launch} {Z : State} {a0 : Array Value} {n0 : Nat} {z_COMPACT_STRINGS : Int32} {z_SIOOBE_FORMATTER : Value} (V : Env1 Z a0 n0 z_COMPACT_STRINGS z_SIOOBE_FORMATTER) (p0 : Addr) (p1 : Addr) (c0 : ClassId) (x0 : Int32) (x1 : Int32) (x2 : Int32) (x3 : Int32) (x4 : Int32) (x5 : Int32) (x6 : Int32) (x7 : Int32) (x8 : Int32) (x9 : Int32) (x10 : Int32) (x11 : Int32) (x12 : Int32) (x13 : Int32) (x14 : Int32) (h0 : Heap) (hO : Old Z n0 h0) (f0 : Fld Z h0 p0 "java/lang/String" "value" "[B" (.ref p1)) (f1 : Arv Z h0 p1 c0 .byte (15 : Int32) [(.int x0), (.int x1), (.int x2), (.int x3), (.int x4), (.int x5), (.int x6), (.int x7), (.int x8), (.int x9), (.int x10), (.int x11), (.int x12), (.int x13), (.int x14)] (.int 0)) (f2 : Exa Z h0 p0 "java/lang/String") (f3 : Fld Z h0 p0 "java/lang/String" "coder" "B" (.int (0 : Int32))) :
    Met Z a0 ELs True n0 l (⟨"java/lang/String", "length", "()I"⟩ : MethodName) jdk_42_method_54_code 1 (Option.some FieldType.int) ({ frames := 1, cells := 0, slots := 0, locals := 13 } : Room) #[(.ref p0)] h0 [] (fun v h so => (v = some (.int (15 : Int32)) ∧ so = [] ∧ h0 = h)) := by
  refine Met.of (EWl V) (by first | decide +kernel | rfl) hO (L0 := #[.val (.ref p0)]) rfl ?_
  intro p e s m below meth c T H
  show Go p e below _ (T.setTop (mkF m 0 #[.val (.ref p0)] []))
  refine G.aloadN H dc_jdk_42_method_54_code_0 (pc' := 1) rfl rfl rfl ?_
  refine G.getF H (wd34 V) Via.refl f0 dc_jdk_42_method_54_code_1 (pc' := 4) rfl ?_
  intro T1 H2
  refine G.arrlen H2 f1 dc_jdk_42_method_54_code_4 (pc' := 5) rfl ?_
  refine G.aloadN H2 dc_jdk_42_method_54_code_5 (pc' := 6) rfl rfl rfl ?_
  refine G.callV H2 (m4_coder V p0 h0 H2.old f3) (wd45 V) (wd46 V) (nf_sel (wd48 V)) (wd48 V) (wd47 V) (wd5 V) (wd49 V) (by decide) f2 (argsL := []) (rest := [(.int (15 : Int32))]) (W := 1) rfl rfl (lenOf (pd_3) rfl) rfl rfl dc_jdk_42_method_54_code_6 (pc' := 9) rfl (by decide) (by decide) (by decide) (by decide) all0 ?_
  intro T3 h3_ v4 s5 H3 Q6
  obtain ⟨rfl, rfl, rfl⟩ := Q6
  show Go p e below _ (T3.setTop (mkF m 9 #[.val (.ref p0)] [(.int (0 : Int32)), (.int (15 : Int32))]))
  refine G.ishr H3 dc_jdk_42_method_54_code_9 (pc' := 10) rfl ?_
  show Go p e below _ (T3.setTop (mkF m 10 #[.val (.ref p0)] [(.int (15 : Int32))]))
  exact G.retI H3 rfl dc_jdk_42_method_54_code_10 (so := []) all0 (by decide) (by decide) ⟨rfl, rfl, rfl⟩
set_option maxRecDepth 65536 in
set_option maxHeartbeats 40000000 in
theorem m52_untimed {l : Launch} {Z : State} {a0 : Array Value} {n0 : Nat} {z_COMPACT_STRINGS : Int32} {z_SIOOBE_FORMATTER : Value} (V : Env1 Z a0 n0 z_COMPACT_STRINGS z_SIOOBE_FORMATTER) (p0 : Addr) (p1 : Addr) (c0 : ClassId) (x0 : Int32) (x1 : Int32) (x2 : Int32) (x3 : Int32) (x4 : Int32) (x5 : Int32) (x6 : Int32) (x7 : Int32) (x8 : Int32) (x9 : Int32) (x10 : Int32) (x11 : Int32) (x12 : Int32) (x13 : Int32) (x14 : Int32) (h0 : Heap) (hO : Old Z n0 h0) (f0 : Exa Z h0 p0 "java/lang/String") (f1 : Fld Z h0 p0 "java/lang/String" "value" "[B" (.ref p1)) (f2 : Arv Z h0 p1 c0 .byte (15 : Int32) [(.int x0), (.int x1), (.int x2), (.int x3), (.int x4), (.int x5), (.int x6), (.int x7), (.int x8), (.int x9), (.int x10), (.int x11), (.int x12), (.int x13), (.int x14)] (.int 0)) (f3 : Fld Z h0 p0 "java/lang/String" "coder" "B" (.int (0 : Int32))) :
    Met Z a0 ELs True n0 l (⟨"com/example/tenure/tenure/Days", "untimed", "(Ljava/lang/String;)Z"⟩ : MethodName) prog_14_method_4_code 1 (Option.some FieldType.boolean) ({ frames := 2, cells := 2, slots := 44, locals := 26 } : Room) #[(.ref p0)] h0 [p0, p1] (fun v h so => (v = some (.int (0 : Int32)) ∧ so = [] ∧ Keep h0 h [])) := by
  refine Met.of (EWl V) (by first | decide +kernel | rfl) hO (L0 := #[.val (.ref p0)]) rfl ?_
  intro p e s m below meth c T H
  show Go p e below _ (T.setTop (mkF m 0 #[.val (.ref p0)] []))
  refine G.aloadN H dc_prog_14_method_4_code_0 (pc' := 1) rfl rfl rfl ?_
  refine G.callV H (m51_length V p0 p1 c0 x0 x1 x2 x3 x4 x5 x6 x7 x8 x9 x10 x11 x12 x13 x14 h0 H.old f1 f2 f0 f3) (wd40 V) (wd41 V) (nf_sel (wd43 V)) (wd43 V) (wd42 V) (wd5 V) (wd44 V) (by decide) f0 (argsL := []) (rest := []) (W := 0) rfl rfl (lenOf (pd_4) rfl) rfl rfl dc_prog_14_method_4_code_1 (pc' := 4) rfl (by decide) (by decide) (by decide) (by decide) all0 ?_
  intro T1 h1_ v2 s3 H1 Q4
  obtain ⟨rfl, rfl, rfl⟩ := Q4
  show Go p e below _ (T1.setTop (mkF m 4 #[.val (.ref p0)] [(.int (15 : Int32))]))
  refine G.ldcS H1 trivial (wS V) (wd50 V) (by decide) (vs := [(.int (48 : Int32)), (.int (48 : Int32)), (.int (48 : Int32)), (.int (48 : Int32)), (.int (45 : Int32)), (.int (48 : Int32)), (.int (48 : Int32)), (.int (45 : Int32)), (.int (48 : Int32)), (.int (48 : Int32))]) (z := (10 : Int32)) (by decide) (by decide) rfl (n := 40) (by decide) (by decide) (by decide) (by decide) dc_prog_14_method_4_code_4 (pc' := 6) rfl ?_
  intro T5 h5_ a6 b8 k9 H5 E7 X10 F11 F12 A13 Q14
  have S15 : Str Z h5_ a6 b8 k9 [(48 : Int32), (48 : Int32), (48 : Int32), (48 : Int32), (45 : Int32), (48 : Int32), (48 : Int32), (45 : Int32), (48 : Int32), (48 : Int32)] := ⟨X10, F11, F12, A13, by decide, by decide⟩
  show Go p e below _ (T5.setTop (mkF m 6 #[.val (.ref p0)] [(.ref a6), (.int (15 : Int32))]))
  refine G.callV H5 (m6_length V a6 b8 k9 h5_ H5.old F12 A13 X10 F11) (wd40 V) (wd41 V) (nf_sel (wd43 V)) (wd43 V) (wd42 V) (wd5 V) (wd44 V) (by decide) X10 (argsL := []) (rest := [(.int (15 : Int32))]) (W := 1) rfl rfl (lenOf (pd_4) rfl) rfl rfl dc_prog_14_method_4_code_6 (pc' := 9) rfl (by decide) (by decide) (by decide) (by decide) all0 ?_
  intro T16 h16_ v17 s18 H16 Q19
  obtain ⟨rfl, rfl, rfl⟩ := Q19
  show Go p e below _ (T16.setTop (mkF m 9 #[.val (.ref p0)] [(.int (10 : Int32)), (.int (15 : Int32))]))
  refine G.icmpYes H16 dc_prog_14_method_4_code_9 (by decide) (by decide) (pc' := 16) rfl ?_
  refine G.iconst H16 dc_prog_14_method_4_code_16 (pc' := 17) rfl (v := (0 : Int32)) rfl ?_
  have K20 : Keep h0 h5_ [] := (Keep.ext (Keep.refl h0 []) E7)
  exact G.retN H16 (t := .boolean) rfl (by decide) dc_prog_14_method_4_code_17 (so := []) all0 (by decide) (by decide) ⟨rfl, rfl, K20⟩
set_option maxRecDepth 65536 in
set_option maxHeartbeats 40000000 in
theorem m53_prefix {l : Launch} {Z : State} {a0 : Array Value} {n0 : Nat} {z_COMPACT_STRINGS : Int32} {z_SIOOBE_FORMATTER : Value} (V : Env1 Z a0 n0 z_COMPACT_STRINGS z_SIOOBE_FORMATTER) (p0 : Addr) (c0 : ClassId) (x0 : Int32) (x1 : Int32) (x2 : Int32) (x3 : Int32) (x4 : Int32) (x5 : Int32) (x6 : Int32) (x7 : Int32) (x8 : Int32) (x9 : Int32) (x10 : Int32) (x11 : Int32) (x12 : Int32) (x13 : Int32) (x14 : Int32) (x15 : Int32) (x16 : Int32) (x17 : Int32) (x18 : Int32) (x19 : Int32) (h0 : Heap) (hO : Old Z n0 h0) (f0 : Arv Z h0 p0 c0 .char (20 : Int32) [(.int x0), (.int x1), (.int x2), (.int x3), (.int x4), (.int x5), (.int x6), (.int x7), (.int x8), (.int x9), (.int x10), (.int x11), (.int x12), (.int x13), (.int x14), (.int x15), (.int x16), (.int x17), (.int x18), (.int x19)] (.int 0)) (r1 : ¬ x15 < 0 ∧ ¬ (65535 : Int32) < x15) (r2 : ¬ x14 < 0 ∧ ¬ (65535 : Int32) < x14) (r3 : ¬ x13 < 0 ∧ ¬ (65535 : Int32) < x13) (r4 : ¬ x12 < 0 ∧ ¬ (65535 : Int32) < x12) (r5 : ¬ x11 < 0 ∧ ¬ (65535 : Int32) < x11) (r6 : ¬ x10 < 0 ∧ ¬ (65535 : Int32) < x10) (r7 : ¬ x9 < 0 ∧ ¬ (65535 : Int32) < x9) (r8 : ¬ x8 < 0 ∧ ¬ (65535 : Int32) < x8) (r9 : ¬ x7 < 0 ∧ ¬ (65535 : Int32) < x7) (r10 : ¬ x6 < 0 ∧ ¬ (65535 : Int32) < x6) (r11 : ¬ x5 < 0 ∧ ¬ (65535 : Int32) < x5) (r12 : ¬ x4 < 0 ∧ ¬ (65535 : Int32) < x4) (r13 : ¬ x3 < 0 ∧ ¬ (65535 : Int32) < x3) (r14 : ¬ x2 < 0 ∧ ¬ (65535 : Int32) < x2) (r15 : ¬ x1 < 0 ∧ ¬ (65535 : Int32) < x1) (r16 : ¬ x0 < 0 ∧ ¬ (65535 : Int32) < x0) :
    Met Z a0 ELs True n0 l (⟨"com/example/tenure/tenure/DaysUntimedPinLaw", "prefix", "([CI)[C"⟩ : MethodName) method_3_code 3 (Option.some (FieldType.array FieldType.char)) ({ frames := 0, cells := 1, slots := 16, locals := 0 } : Room) #[(.ref p0), (.int (16 : Int32))] h0 [] (fun v h so => (∃ a2 : Addr, ∃ k5 : ClassId, v = some (.ref a2) ∧ so = [] ∧ Keep h0 h [] ∧ h0.size ≤ a2 ∧ Arv Z h a2 k5 .char (16 : Int32) [(.int x0), (.int x1), (.int x2), (.int x3), (.int x4), (.int x5), (.int x6), (.int x7), (.int x8), (.int x9), (.int x10), (.int x11), (.int x12), (.int x13), (.int x14), (.int x15)] (.int 0))) := by
  refine Met.of (EWl V) (by first | decide +kernel | rfl) hO (L0 := #[.val (.ref p0), .val (.int (16 : Int32)), .unset]) rfl ?_
  intro p e s m below meth c T H
  show Go p e below _ (T.setTop (mkF m 0 #[.val (.ref p0), .val (.int (16 : Int32)), .unset] []))
  refine G.iloadN H dc_method_3_code_0 (pc' := 1) rfl rfl ?_
  refine G.newP H (aty := .char) (wd0 V) dc_method_3_code_1 (pc' := 3) rfl (by decide) (cap := 16) (by decide) (by decide) (by decide) (by decide) (vs := [(.int (0 : Int32)), (.int (0 : Int32)), (.int (0 : Int32)), (.int (0 : Int32)), (.int (0 : Int32)), (.int (0 : Int32)), (.int (0 : Int32)), (.int (0 : Int32)), (.int (0 : Int32)), (.int (0 : Int32)), (.int (0 : Int32)), (.int (0 : Int32)), (.int (0 : Int32)), (.int (0 : Int32)), (.int (0 : Int32)), (.int (0 : Int32))]) rfl ?_
  intro T1 h1_ a2 k5 ga2 H1 E3 A4
  have na2 : n0 ≤ a2 := Nat.le_trans H.le (Nat.le_of_eq ga2.symm)
  replace A4 : Arv Z h1_ a2 k5 .char (16 : Int32) [(.int (0 : Int32)), (.int (0 : Int32)), (.int (0 : Int32)), (.int (0 : Int32)), (.int (0 : Int32)), (.int (0 : Int32)), (.int (0 : Int32)), (.int (0 : Int32)), (.int (0 : Int32)), (.int (0 : Int32)), (.int (0 : Int32)), (.int (0 : Int32)), (.int (0 : Int32)), (.int (0 : Int32)), (.int (0 : Int32)), (.int (0 : Int32))] (.int 0) := A4
  show Go p e below _ (T1.setTop (mkF m 3 #[.val (.ref p0), .val (.int (16 : Int32)), .unset] [(.ref a2)]))
  refine G.astoreN H1 (L' := #[.val (.ref p0), .val (.int (16 : Int32)), .val (.ref a2)]) dc_method_3_code_3 (pc' := 4) rfl rfl rfl ?_
  refine G.iloadN H1 dc_method_3_code_4 (pc' := 5) rfl rfl ?_
  refine G.tswIn H1 dc_method_3_code_5 (by decide) (o := 127) rfl (by decide) (pc' := 132) rfl ?_
  refine G.aloadN H1 dc_method_3_code_132 (pc' := 133) rfl rfl rfl ?_
  refine G.bipush H1 dc_method_3_code_133 (pc' := 135) rfl (v := (15 : Int32)) rfl ?_
  refine G.aloadN H1 dc_method_3_code_135 (pc' := 136) rfl rfl rfl ?_
  refine G.bipush H1 dc_method_3_code_136 (pc' := 138) rfl (v := (15 : Int32)) rfl ?_
  have F6 : Arv Z h1_ p0 c0 .char (20 : Int32) [(.int x0), (.int x1), (.int x2), (.int x3), (.int x4), (.int x5), (.int x6), (.int x7), (.int x8), (.int x9), (.int x10), (.int x11), (.int x12), (.int x13), (.int x14), (.int x15), (.int x16), (.int x17), (.int x18), (.int x19)] (.int 0) := (Arv.ext f0 E3)
  refine G.caloadG H1 F6 (j := (15 : Int32)) (v := (.int x15)) (by decide) rfl dc_method_3_code_138 (pc' := 139) rfl ?_
  refine G.stC H1 A4 (by decide) (i := 15) rfl (Nat.le_of_ble_eq_true rfl) na2 (y := x15) (own_narC r1) dc_method_3_code_139 (pc' := 140) rfl ?_
  intro T7 h7_ H7 W8 A9
  replace A9 : Arv Z h7_ a2 k5 .char (16 : Int32) [(.int (0 : Int32)), (.int (0 : Int32)), (.int (0 : Int32)), (.int (0 : Int32)), (.int (0 : Int32)), (.int (0 : Int32)), (.int (0 : Int32)), (.int (0 : Int32)), (.int (0 : Int32)), (.int (0 : Int32)), (.int (0 : Int32)), (.int (0 : Int32)), (.int (0 : Int32)), (.int (0 : Int32)), (.int (0 : Int32)), (.int x15)] (.int 0) := A9
  show Go p e below _ (T7.setTop (mkF m 140 #[.val (.ref p0), .val (.int (16 : Int32)), .val (.ref a2)] []))
  refine G.aloadN H7 dc_method_3_code_140 (pc' := 141) rfl rfl rfl ?_
  refine G.bipush H7 dc_method_3_code_141 (pc' := 143) rfl (v := (14 : Int32)) rfl ?_
  refine G.aloadN H7 dc_method_3_code_143 (pc' := 144) rfl rfl rfl ?_
  refine G.bipush H7 dc_method_3_code_144 (pc' := 146) rfl (v := (14 : Int32)) rfl ?_
  have N10 : p0 ≠ a2 := (Nat.ne_of_lt (Nat.lt_of_lt_of_le f0.lt (Nat.le_of_eq ga2.symm)))
  have F11 : Arv Z h7_ p0 c0 .char (20 : Int32) [(.int x0), (.int x1), (.int x2), (.int x3), (.int x4), (.int x5), (.int x6), (.int x7), (.int x8), (.int x9), (.int x10), (.int x11), (.int x12), (.int x13), (.int x14), (.int x15), (.int x16), (.int x17), (.int x18), (.int x19)] (.int 0) := (Arv.other F6 W8 N10)
  refine G.caloadG H7 F11 (j := (14 : Int32)) (v := (.int x14)) (by decide) rfl dc_method_3_code_146 (pc' := 147) rfl ?_
  refine G.stC H7 A9 (by decide) (i := 14) rfl (Nat.le_of_ble_eq_true rfl) na2 (y := x14) (own_narC r2) dc_method_3_code_147 (pc' := 148) rfl ?_
  intro T12 h12_ H12 W13 A14
  replace A14 : Arv Z h12_ a2 k5 .char (16 : Int32) [(.int (0 : Int32)), (.int (0 : Int32)), (.int (0 : Int32)), (.int (0 : Int32)), (.int (0 : Int32)), (.int (0 : Int32)), (.int (0 : Int32)), (.int (0 : Int32)), (.int (0 : Int32)), (.int (0 : Int32)), (.int (0 : Int32)), (.int (0 : Int32)), (.int (0 : Int32)), (.int (0 : Int32)), (.int x14), (.int x15)] (.int 0) := A14
  show Go p e below _ (T12.setTop (mkF m 148 #[.val (.ref p0), .val (.int (16 : Int32)), .val (.ref a2)] []))
  refine G.aloadN H12 dc_method_3_code_148 (pc' := 149) rfl rfl rfl ?_
  refine G.bipush H12 dc_method_3_code_149 (pc' := 151) rfl (v := (13 : Int32)) rfl ?_
  refine G.aloadN H12 dc_method_3_code_151 (pc' := 152) rfl rfl rfl ?_
  refine G.bipush H12 dc_method_3_code_152 (pc' := 154) rfl (v := (13 : Int32)) rfl ?_
  have F15 : Arv Z h12_ p0 c0 .char (20 : Int32) [(.int x0), (.int x1), (.int x2), (.int x3), (.int x4), (.int x5), (.int x6), (.int x7), (.int x8), (.int x9), (.int x10), (.int x11), (.int x12), (.int x13), (.int x14), (.int x15), (.int x16), (.int x17), (.int x18), (.int x19)] (.int 0) := (Arv.other F11 W13 N10)
  refine G.caloadG H12 F15 (j := (13 : Int32)) (v := (.int x13)) (by decide) rfl dc_method_3_code_154 (pc' := 155) rfl ?_
  refine G.stC H12 A14 (by decide) (i := 13) rfl (Nat.le_of_ble_eq_true rfl) na2 (y := x13) (own_narC r3) dc_method_3_code_155 (pc' := 156) rfl ?_
  intro T16 h16_ H16 W17 A18
  replace A18 : Arv Z h16_ a2 k5 .char (16 : Int32) [(.int (0 : Int32)), (.int (0 : Int32)), (.int (0 : Int32)), (.int (0 : Int32)), (.int (0 : Int32)), (.int (0 : Int32)), (.int (0 : Int32)), (.int (0 : Int32)), (.int (0 : Int32)), (.int (0 : Int32)), (.int (0 : Int32)), (.int (0 : Int32)), (.int (0 : Int32)), (.int x13), (.int x14), (.int x15)] (.int 0) := A18
  show Go p e below _ (T16.setTop (mkF m 156 #[.val (.ref p0), .val (.int (16 : Int32)), .val (.ref a2)] []))
  refine G.aloadN H16 dc_method_3_code_156 (pc' := 157) rfl rfl rfl ?_
  refine G.bipush H16 dc_method_3_code_157 (pc' := 159) rfl (v := (12 : Int32)) rfl ?_
  refine G.aloadN H16 dc_method_3_code_159 (pc' := 160) rfl rfl rfl ?_
  refine G.bipush H16 dc_method_3_code_160 (pc' := 162) rfl (v := (12 : Int32)) rfl ?_
  have F19 : Arv Z h16_ p0 c0 .char (20 : Int32) [(.int x0), (.int x1), (.int x2), (.int x3), (.int x4), (.int x5), (.int x6), (.int x7), (.int x8), (.int x9), (.int x10), (.int x11), (.int x12), (.int x13), (.int x14), (.int x15), (.int x16), (.int x17), (.int x18), (.int x19)] (.int 0) := (Arv.other F15 W17 N10)
  refine G.caloadG H16 F19 (j := (12 : Int32)) (v := (.int x12)) (by decide) rfl dc_method_3_code_162 (pc' := 163) rfl ?_
  refine G.stC H16 A18 (by decide) (i := 12) rfl (Nat.le_of_ble_eq_true rfl) na2 (y := x12) (own_narC r4) dc_method_3_code_163 (pc' := 164) rfl ?_
  intro T20 h20_ H20 W21 A22
  replace A22 : Arv Z h20_ a2 k5 .char (16 : Int32) [(.int (0 : Int32)), (.int (0 : Int32)), (.int (0 : Int32)), (.int (0 : Int32)), (.int (0 : Int32)), (.int (0 : Int32)), (.int (0 : Int32)), (.int (0 : Int32)), (.int (0 : Int32)), (.int (0 : Int32)), (.int (0 : Int32)), (.int (0 : Int32)), (.int x12), (.int x13), (.int x14), (.int x15)] (.int 0) := A22
  show Go p e below _ (T20.setTop (mkF m 164 #[.val (.ref p0), .val (.int (16 : Int32)), .val (.ref a2)] []))
  refine G.aloadN H20 dc_method_3_code_164 (pc' := 165) rfl rfl rfl ?_
  refine G.bipush H20 dc_method_3_code_165 (pc' := 167) rfl (v := (11 : Int32)) rfl ?_
  refine G.aloadN H20 dc_method_3_code_167 (pc' := 168) rfl rfl rfl ?_
  refine G.bipush H20 dc_method_3_code_168 (pc' := 170) rfl (v := (11 : Int32)) rfl ?_
  have F23 : Arv Z h20_ p0 c0 .char (20 : Int32) [(.int x0), (.int x1), (.int x2), (.int x3), (.int x4), (.int x5), (.int x6), (.int x7), (.int x8), (.int x9), (.int x10), (.int x11), (.int x12), (.int x13), (.int x14), (.int x15), (.int x16), (.int x17), (.int x18), (.int x19)] (.int 0) := (Arv.other F19 W21 N10)
  refine G.caloadG H20 F23 (j := (11 : Int32)) (v := (.int x11)) (by decide) rfl dc_method_3_code_170 (pc' := 171) rfl ?_
  refine G.stC H20 A22 (by decide) (i := 11) rfl (Nat.le_of_ble_eq_true rfl) na2 (y := x11) (own_narC r5) dc_method_3_code_171 (pc' := 172) rfl ?_
  intro T24 h24_ H24 W25 A26
  replace A26 : Arv Z h24_ a2 k5 .char (16 : Int32) [(.int (0 : Int32)), (.int (0 : Int32)), (.int (0 : Int32)), (.int (0 : Int32)), (.int (0 : Int32)), (.int (0 : Int32)), (.int (0 : Int32)), (.int (0 : Int32)), (.int (0 : Int32)), (.int (0 : Int32)), (.int (0 : Int32)), (.int x11), (.int x12), (.int x13), (.int x14), (.int x15)] (.int 0) := A26
  show Go p e below _ (T24.setTop (mkF m 172 #[.val (.ref p0), .val (.int (16 : Int32)), .val (.ref a2)] []))
  refine G.aloadN H24 dc_method_3_code_172 (pc' := 173) rfl rfl rfl ?_
  refine G.bipush H24 dc_method_3_code_173 (pc' := 175) rfl (v := (10 : Int32)) rfl ?_
  refine G.aloadN H24 dc_method_3_code_175 (pc' := 176) rfl rfl rfl ?_
  refine G.bipush H24 dc_method_3_code_176 (pc' := 178) rfl (v := (10 : Int32)) rfl ?_
  have F27 : Arv Z h24_ p0 c0 .char (20 : Int32) [(.int x0), (.int x1), (.int x2), (.int x3), (.int x4), (.int x5), (.int x6), (.int x7), (.int x8), (.int x9), (.int x10), (.int x11), (.int x12), (.int x13), (.int x14), (.int x15), (.int x16), (.int x17), (.int x18), (.int x19)] (.int 0) := (Arv.other F23 W25 N10)
  refine G.caloadG H24 F27 (j := (10 : Int32)) (v := (.int x10)) (by decide) rfl dc_method_3_code_178 (pc' := 179) rfl ?_
  refine G.stC H24 A26 (by decide) (i := 10) rfl (Nat.le_of_ble_eq_true rfl) na2 (y := x10) (own_narC r6) dc_method_3_code_179 (pc' := 180) rfl ?_
  intro T28 h28_ H28 W29 A30
  replace A30 : Arv Z h28_ a2 k5 .char (16 : Int32) [(.int (0 : Int32)), (.int (0 : Int32)), (.int (0 : Int32)), (.int (0 : Int32)), (.int (0 : Int32)), (.int (0 : Int32)), (.int (0 : Int32)), (.int (0 : Int32)), (.int (0 : Int32)), (.int (0 : Int32)), (.int x10), (.int x11), (.int x12), (.int x13), (.int x14), (.int x15)] (.int 0) := A30
  show Go p e below _ (T28.setTop (mkF m 180 #[.val (.ref p0), .val (.int (16 : Int32)), .val (.ref a2)] []))
  refine G.aloadN H28 dc_method_3_code_180 (pc' := 181) rfl rfl rfl ?_
  refine G.bipush H28 dc_method_3_code_181 (pc' := 183) rfl (v := (9 : Int32)) rfl ?_
  refine G.aloadN H28 dc_method_3_code_183 (pc' := 184) rfl rfl rfl ?_
  refine G.bipush H28 dc_method_3_code_184 (pc' := 186) rfl (v := (9 : Int32)) rfl ?_
  have F31 : Arv Z h28_ p0 c0 .char (20 : Int32) [(.int x0), (.int x1), (.int x2), (.int x3), (.int x4), (.int x5), (.int x6), (.int x7), (.int x8), (.int x9), (.int x10), (.int x11), (.int x12), (.int x13), (.int x14), (.int x15), (.int x16), (.int x17), (.int x18), (.int x19)] (.int 0) := (Arv.other F27 W29 N10)
  refine G.caloadG H28 F31 (j := (9 : Int32)) (v := (.int x9)) (by decide) rfl dc_method_3_code_186 (pc' := 187) rfl ?_
  refine G.stC H28 A30 (by decide) (i := 9) rfl (Nat.le_of_ble_eq_true rfl) na2 (y := x9) (own_narC r7) dc_method_3_code_187 (pc' := 188) rfl ?_
  intro T32 h32_ H32 W33 A34
  replace A34 : Arv Z h32_ a2 k5 .char (16 : Int32) [(.int (0 : Int32)), (.int (0 : Int32)), (.int (0 : Int32)), (.int (0 : Int32)), (.int (0 : Int32)), (.int (0 : Int32)), (.int (0 : Int32)), (.int (0 : Int32)), (.int (0 : Int32)), (.int x9), (.int x10), (.int x11), (.int x12), (.int x13), (.int x14), (.int x15)] (.int 0) := A34
  show Go p e below _ (T32.setTop (mkF m 188 #[.val (.ref p0), .val (.int (16 : Int32)), .val (.ref a2)] []))
  refine G.aloadN H32 dc_method_3_code_188 (pc' := 189) rfl rfl rfl ?_
  refine G.bipush H32 dc_method_3_code_189 (pc' := 191) rfl (v := (8 : Int32)) rfl ?_
  refine G.aloadN H32 dc_method_3_code_191 (pc' := 192) rfl rfl rfl ?_
  refine G.bipush H32 dc_method_3_code_192 (pc' := 194) rfl (v := (8 : Int32)) rfl ?_
  have F35 : Arv Z h32_ p0 c0 .char (20 : Int32) [(.int x0), (.int x1), (.int x2), (.int x3), (.int x4), (.int x5), (.int x6), (.int x7), (.int x8), (.int x9), (.int x10), (.int x11), (.int x12), (.int x13), (.int x14), (.int x15), (.int x16), (.int x17), (.int x18), (.int x19)] (.int 0) := (Arv.other F31 W33 N10)
  refine G.caloadG H32 F35 (j := (8 : Int32)) (v := (.int x8)) (by decide) rfl dc_method_3_code_194 (pc' := 195) rfl ?_
  refine G.stC H32 A34 (by decide) (i := 8) rfl (Nat.le_of_ble_eq_true rfl) na2 (y := x8) (own_narC r8) dc_method_3_code_195 (pc' := 196) rfl ?_
  intro T36 h36_ H36 W37 A38
  replace A38 : Arv Z h36_ a2 k5 .char (16 : Int32) [(.int (0 : Int32)), (.int (0 : Int32)), (.int (0 : Int32)), (.int (0 : Int32)), (.int (0 : Int32)), (.int (0 : Int32)), (.int (0 : Int32)), (.int (0 : Int32)), (.int x8), (.int x9), (.int x10), (.int x11), (.int x12), (.int x13), (.int x14), (.int x15)] (.int 0) := A38
  show Go p e below _ (T36.setTop (mkF m 196 #[.val (.ref p0), .val (.int (16 : Int32)), .val (.ref a2)] []))
  refine G.aloadN H36 dc_method_3_code_196 (pc' := 197) rfl rfl rfl ?_
  refine G.bipush H36 dc_method_3_code_197 (pc' := 199) rfl (v := (7 : Int32)) rfl ?_
  refine G.aloadN H36 dc_method_3_code_199 (pc' := 200) rfl rfl rfl ?_
  refine G.bipush H36 dc_method_3_code_200 (pc' := 202) rfl (v := (7 : Int32)) rfl ?_
  have F39 : Arv Z h36_ p0 c0 .char (20 : Int32) [(.int x0), (.int x1), (.int x2), (.int x3), (.int x4), (.int x5), (.int x6), (.int x7), (.int x8), (.int x9), (.int x10), (.int x11), (.int x12), (.int x13), (.int x14), (.int x15), (.int x16), (.int x17), (.int x18), (.int x19)] (.int 0) := (Arv.other F35 W37 N10)
  refine G.caloadG H36 F39 (j := (7 : Int32)) (v := (.int x7)) (by decide) rfl dc_method_3_code_202 (pc' := 203) rfl ?_
  refine G.stC H36 A38 (by decide) (i := 7) rfl (Nat.le_of_ble_eq_true rfl) na2 (y := x7) (own_narC r9) dc_method_3_code_203 (pc' := 204) rfl ?_
  intro T40 h40_ H40 W41 A42
  replace A42 : Arv Z h40_ a2 k5 .char (16 : Int32) [(.int (0 : Int32)), (.int (0 : Int32)), (.int (0 : Int32)), (.int (0 : Int32)), (.int (0 : Int32)), (.int (0 : Int32)), (.int (0 : Int32)), (.int x7), (.int x8), (.int x9), (.int x10), (.int x11), (.int x12), (.int x13), (.int x14), (.int x15)] (.int 0) := A42
  show Go p e below _ (T40.setTop (mkF m 204 #[.val (.ref p0), .val (.int (16 : Int32)), .val (.ref a2)] []))
  refine G.aloadN H40 dc_method_3_code_204 (pc' := 205) rfl rfl rfl ?_
  refine G.bipush H40 dc_method_3_code_205 (pc' := 207) rfl (v := (6 : Int32)) rfl ?_
  refine G.aloadN H40 dc_method_3_code_207 (pc' := 208) rfl rfl rfl ?_
  refine G.bipush H40 dc_method_3_code_208 (pc' := 210) rfl (v := (6 : Int32)) rfl ?_
  have F43 : Arv Z h40_ p0 c0 .char (20 : Int32) [(.int x0), (.int x1), (.int x2), (.int x3), (.int x4), (.int x5), (.int x6), (.int x7), (.int x8), (.int x9), (.int x10), (.int x11), (.int x12), (.int x13), (.int x14), (.int x15), (.int x16), (.int x17), (.int x18), (.int x19)] (.int 0) := (Arv.other F39 W41 N10)
  refine G.caloadG H40 F43 (j := (6 : Int32)) (v := (.int x6)) (by decide) rfl dc_method_3_code_210 (pc' := 211) rfl ?_
  refine G.stC H40 A42 (by decide) (i := 6) rfl (Nat.le_of_ble_eq_true rfl) na2 (y := x6) (own_narC r10) dc_method_3_code_211 (pc' := 212) rfl ?_
  intro T44 h44_ H44 W45 A46
  replace A46 : Arv Z h44_ a2 k5 .char (16 : Int32) [(.int (0 : Int32)), (.int (0 : Int32)), (.int (0 : Int32)), (.int (0 : Int32)), (.int (0 : Int32)), (.int (0 : Int32)), (.int x6), (.int x7), (.int x8), (.int x9), (.int x10), (.int x11), (.int x12), (.int x13), (.int x14), (.int x15)] (.int 0) := A46
  show Go p e below _ (T44.setTop (mkF m 212 #[.val (.ref p0), .val (.int (16 : Int32)), .val (.ref a2)] []))
  refine G.aloadN H44 dc_method_3_code_212 (pc' := 213) rfl rfl rfl ?_
  refine G.iconst H44 dc_method_3_code_213 (pc' := 214) rfl (v := (5 : Int32)) rfl ?_
  refine G.aloadN H44 dc_method_3_code_214 (pc' := 215) rfl rfl rfl ?_
  refine G.iconst H44 dc_method_3_code_215 (pc' := 216) rfl (v := (5 : Int32)) rfl ?_
  have F47 : Arv Z h44_ p0 c0 .char (20 : Int32) [(.int x0), (.int x1), (.int x2), (.int x3), (.int x4), (.int x5), (.int x6), (.int x7), (.int x8), (.int x9), (.int x10), (.int x11), (.int x12), (.int x13), (.int x14), (.int x15), (.int x16), (.int x17), (.int x18), (.int x19)] (.int 0) := (Arv.other F43 W45 N10)
  refine G.caloadG H44 F47 (j := (5 : Int32)) (v := (.int x5)) (by decide) rfl dc_method_3_code_216 (pc' := 217) rfl ?_
  refine G.stC H44 A46 (by decide) (i := 5) rfl (Nat.le_of_ble_eq_true rfl) na2 (y := x5) (own_narC r11) dc_method_3_code_217 (pc' := 218) rfl ?_
  intro T48 h48_ H48 W49 A50
  replace A50 : Arv Z h48_ a2 k5 .char (16 : Int32) [(.int (0 : Int32)), (.int (0 : Int32)), (.int (0 : Int32)), (.int (0 : Int32)), (.int (0 : Int32)), (.int x5), (.int x6), (.int x7), (.int x8), (.int x9), (.int x10), (.int x11), (.int x12), (.int x13), (.int x14), (.int x15)] (.int 0) := A50
  show Go p e below _ (T48.setTop (mkF m 218 #[.val (.ref p0), .val (.int (16 : Int32)), .val (.ref a2)] []))
  refine G.aloadN H48 dc_method_3_code_218 (pc' := 219) rfl rfl rfl ?_
  refine G.iconst H48 dc_method_3_code_219 (pc' := 220) rfl (v := (4 : Int32)) rfl ?_
  refine G.aloadN H48 dc_method_3_code_220 (pc' := 221) rfl rfl rfl ?_
  refine G.iconst H48 dc_method_3_code_221 (pc' := 222) rfl (v := (4 : Int32)) rfl ?_
  have F51 : Arv Z h48_ p0 c0 .char (20 : Int32) [(.int x0), (.int x1), (.int x2), (.int x3), (.int x4), (.int x5), (.int x6), (.int x7), (.int x8), (.int x9), (.int x10), (.int x11), (.int x12), (.int x13), (.int x14), (.int x15), (.int x16), (.int x17), (.int x18), (.int x19)] (.int 0) := (Arv.other F47 W49 N10)
  refine G.caloadG H48 F51 (j := (4 : Int32)) (v := (.int x4)) (by decide) rfl dc_method_3_code_222 (pc' := 223) rfl ?_
  refine G.stC H48 A50 (by decide) (i := 4) rfl (Nat.le_of_ble_eq_true rfl) na2 (y := x4) (own_narC r12) dc_method_3_code_223 (pc' := 224) rfl ?_
  intro T52 h52_ H52 W53 A54
  replace A54 : Arv Z h52_ a2 k5 .char (16 : Int32) [(.int (0 : Int32)), (.int (0 : Int32)), (.int (0 : Int32)), (.int (0 : Int32)), (.int x4), (.int x5), (.int x6), (.int x7), (.int x8), (.int x9), (.int x10), (.int x11), (.int x12), (.int x13), (.int x14), (.int x15)] (.int 0) := A54
  show Go p e below _ (T52.setTop (mkF m 224 #[.val (.ref p0), .val (.int (16 : Int32)), .val (.ref a2)] []))
  refine G.aloadN H52 dc_method_3_code_224 (pc' := 225) rfl rfl rfl ?_
  refine G.iconst H52 dc_method_3_code_225 (pc' := 226) rfl (v := (3 : Int32)) rfl ?_
  refine G.aloadN H52 dc_method_3_code_226 (pc' := 227) rfl rfl rfl ?_
  refine G.iconst H52 dc_method_3_code_227 (pc' := 228) rfl (v := (3 : Int32)) rfl ?_
  have F55 : Arv Z h52_ p0 c0 .char (20 : Int32) [(.int x0), (.int x1), (.int x2), (.int x3), (.int x4), (.int x5), (.int x6), (.int x7), (.int x8), (.int x9), (.int x10), (.int x11), (.int x12), (.int x13), (.int x14), (.int x15), (.int x16), (.int x17), (.int x18), (.int x19)] (.int 0) := (Arv.other F51 W53 N10)
  refine G.caloadG H52 F55 (j := (3 : Int32)) (v := (.int x3)) (by decide) rfl dc_method_3_code_228 (pc' := 229) rfl ?_
  refine G.stC H52 A54 (by decide) (i := 3) rfl (Nat.le_of_ble_eq_true rfl) na2 (y := x3) (own_narC r13) dc_method_3_code_229 (pc' := 230) rfl ?_
  intro T56 h56_ H56 W57 A58
  replace A58 : Arv Z h56_ a2 k5 .char (16 : Int32) [(.int (0 : Int32)), (.int (0 : Int32)), (.int (0 : Int32)), (.int x3), (.int x4), (.int x5), (.int x6), (.int x7), (.int x8), (.int x9), (.int x10), (.int x11), (.int x12), (.int x13), (.int x14), (.int x15)] (.int 0) := A58
  show Go p e below _ (T56.setTop (mkF m 230 #[.val (.ref p0), .val (.int (16 : Int32)), .val (.ref a2)] []))
  refine G.aloadN H56 dc_method_3_code_230 (pc' := 231) rfl rfl rfl ?_
  refine G.iconst H56 dc_method_3_code_231 (pc' := 232) rfl (v := (2 : Int32)) rfl ?_
  refine G.aloadN H56 dc_method_3_code_232 (pc' := 233) rfl rfl rfl ?_
  refine G.iconst H56 dc_method_3_code_233 (pc' := 234) rfl (v := (2 : Int32)) rfl ?_
  have F59 : Arv Z h56_ p0 c0 .char (20 : Int32) [(.int x0), (.int x1), (.int x2), (.int x3), (.int x4), (.int x5), (.int x6), (.int x7), (.int x8), (.int x9), (.int x10), (.int x11), (.int x12), (.int x13), (.int x14), (.int x15), (.int x16), (.int x17), (.int x18), (.int x19)] (.int 0) := (Arv.other F55 W57 N10)
  refine G.caloadG H56 F59 (j := (2 : Int32)) (v := (.int x2)) (by decide) rfl dc_method_3_code_234 (pc' := 235) rfl ?_
  refine G.stC H56 A58 (by decide) (i := 2) rfl (Nat.le_of_ble_eq_true rfl) na2 (y := x2) (own_narC r14) dc_method_3_code_235 (pc' := 236) rfl ?_
  intro T60 h60_ H60 W61 A62
  replace A62 : Arv Z h60_ a2 k5 .char (16 : Int32) [(.int (0 : Int32)), (.int (0 : Int32)), (.int x2), (.int x3), (.int x4), (.int x5), (.int x6), (.int x7), (.int x8), (.int x9), (.int x10), (.int x11), (.int x12), (.int x13), (.int x14), (.int x15)] (.int 0) := A62
  show Go p e below _ (T60.setTop (mkF m 236 #[.val (.ref p0), .val (.int (16 : Int32)), .val (.ref a2)] []))
  refine G.aloadN H60 dc_method_3_code_236 (pc' := 237) rfl rfl rfl ?_
  refine G.iconst H60 dc_method_3_code_237 (pc' := 238) rfl (v := (1 : Int32)) rfl ?_
  refine G.aloadN H60 dc_method_3_code_238 (pc' := 239) rfl rfl rfl ?_
  refine G.iconst H60 dc_method_3_code_239 (pc' := 240) rfl (v := (1 : Int32)) rfl ?_
  have F63 : Arv Z h60_ p0 c0 .char (20 : Int32) [(.int x0), (.int x1), (.int x2), (.int x3), (.int x4), (.int x5), (.int x6), (.int x7), (.int x8), (.int x9), (.int x10), (.int x11), (.int x12), (.int x13), (.int x14), (.int x15), (.int x16), (.int x17), (.int x18), (.int x19)] (.int 0) := (Arv.other F59 W61 N10)
  refine G.caloadG H60 F63 (j := (1 : Int32)) (v := (.int x1)) (by decide) rfl dc_method_3_code_240 (pc' := 241) rfl ?_
  refine G.stC H60 A62 (by decide) (i := 1) rfl (Nat.le_of_ble_eq_true rfl) na2 (y := x1) (own_narC r15) dc_method_3_code_241 (pc' := 242) rfl ?_
  intro T64 h64_ H64 W65 A66
  replace A66 : Arv Z h64_ a2 k5 .char (16 : Int32) [(.int (0 : Int32)), (.int x1), (.int x2), (.int x3), (.int x4), (.int x5), (.int x6), (.int x7), (.int x8), (.int x9), (.int x10), (.int x11), (.int x12), (.int x13), (.int x14), (.int x15)] (.int 0) := A66
  show Go p e below _ (T64.setTop (mkF m 242 #[.val (.ref p0), .val (.int (16 : Int32)), .val (.ref a2)] []))
  refine G.aloadN H64 dc_method_3_code_242 (pc' := 243) rfl rfl rfl ?_
  refine G.iconst H64 dc_method_3_code_243 (pc' := 244) rfl (v := (0 : Int32)) rfl ?_
  refine G.aloadN H64 dc_method_3_code_244 (pc' := 245) rfl rfl rfl ?_
  refine G.iconst H64 dc_method_3_code_245 (pc' := 246) rfl (v := (0 : Int32)) rfl ?_
  have F67 : Arv Z h64_ p0 c0 .char (20 : Int32) [(.int x0), (.int x1), (.int x2), (.int x3), (.int x4), (.int x5), (.int x6), (.int x7), (.int x8), (.int x9), (.int x10), (.int x11), (.int x12), (.int x13), (.int x14), (.int x15), (.int x16), (.int x17), (.int x18), (.int x19)] (.int 0) := (Arv.other F63 W65 N10)
  refine G.caloadG H64 F67 (j := (0 : Int32)) (v := (.int x0)) (by decide) rfl dc_method_3_code_246 (pc' := 247) rfl ?_
  refine G.stC H64 A66 (by decide) (i := 0) rfl (Nat.le_of_ble_eq_true rfl) na2 (y := x0) (own_narC r16) dc_method_3_code_247 (pc' := 248) rfl ?_
  intro T68 h68_ H68 W69 A70
  replace A70 : Arv Z h68_ a2 k5 .char (16 : Int32) [(.int x0), (.int x1), (.int x2), (.int x3), (.int x4), (.int x5), (.int x6), (.int x7), (.int x8), (.int x9), (.int x10), (.int x11), (.int x12), (.int x13), (.int x14), (.int x15)] (.int 0) := A70
  show Go p e below _ (T68.setTop (mkF m 248 #[.val (.ref p0), .val (.int (16 : Int32)), .val (.ref a2)] []))
  refine G.aloadN H68 dc_method_3_code_248 (pc' := 249) rfl rfl rfl ?_
  have K71 : Keep h0 h68_ [] := (Keep.wr (Keep.wr (Keep.wr (Keep.wr (Keep.wr (Keep.wr (Keep.wr (Keep.wr (Keep.wr (Keep.wr (Keep.wr (Keep.wr (Keep.wr (Keep.wr (Keep.wr (Keep.wr (Keep.ext (Keep.refl h0 []) E3) W8 (Or.inr (Nat.le_of_eq ga2.symm))) W13 (Or.inr (Nat.le_of_eq ga2.symm))) W17 (Or.inr (Nat.le_of_eq ga2.symm))) W21 (Or.inr (Nat.le_of_eq ga2.symm))) W25 (Or.inr (Nat.le_of_eq ga2.symm))) W29 (Or.inr (Nat.le_of_eq ga2.symm))) W33 (Or.inr (Nat.le_of_eq ga2.symm))) W37 (Or.inr (Nat.le_of_eq ga2.symm))) W41 (Or.inr (Nat.le_of_eq ga2.symm))) W45 (Or.inr (Nat.le_of_eq ga2.symm))) W49 (Or.inr (Nat.le_of_eq ga2.symm))) W53 (Or.inr (Nat.le_of_eq ga2.symm))) W57 (Or.inr (Nat.le_of_eq ga2.symm))) W61 (Or.inr (Nat.le_of_eq ga2.symm))) W65 (Or.inr (Nat.le_of_eq ga2.symm))) W69 (Or.inr (Nat.le_of_eq ga2.symm)))
  exact G.retA H68 (t := (.array .char)) rfl rfl rfl dc_method_3_code_249 (so := []) all0 (by decide) (by decide) ⟨a2, k5, rfl, rfl, K71, (Nat.le_of_eq ga2.symm), A70⟩
set_option maxRecDepth 65536 in
set_option maxHeartbeats 40000000 in
theorem m54_length {l : Launch} {Z : State} {a0 : Array Value} {n0 : Nat} {z_COMPACT_STRINGS : Int32} {z_SIOOBE_FORMATTER : Value} (V : Env1 Z a0 n0 z_COMPACT_STRINGS z_SIOOBE_FORMATTER) (p0 : Addr) (p1 : Addr) (c0 : ClassId) (x0 : Int32) (x1 : Int32) (x2 : Int32) (x3 : Int32) (x4 : Int32) (x5 : Int32) (x6 : Int32) (x7 : Int32) (x8 : Int32) (x9 : Int32) (x10 : Int32) (x11 : Int32) (x12 : Int32) (x13 : Int32) (x14 : Int32) (x15 : Int32) (h0 : Heap) (hO : Old Z n0 h0) (f0 : Fld Z h0 p0 "java/lang/String" "value" "[B" (.ref p1)) (f1 : Arv Z h0 p1 c0 .byte (16 : Int32) [(.int x0), (.int x1), (.int x2), (.int x3), (.int x4), (.int x5), (.int x6), (.int x7), (.int x8), (.int x9), (.int x10), (.int x11), (.int x12), (.int x13), (.int x14), (.int x15)] (.int 0)) (f2 : Exa Z h0 p0 "java/lang/String") (f3 : Fld Z h0 p0 "java/lang/String" "coder" "B" (.int (0 : Int32))) :
    Met Z a0 ELs True n0 l (⟨"java/lang/String", "length", "()I"⟩ : MethodName) jdk_42_method_54_code 1 (Option.some FieldType.int) ({ frames := 1, cells := 0, slots := 0, locals := 13 } : Room) #[(.ref p0)] h0 [] (fun v h so => (v = some (.int (16 : Int32)) ∧ so = [] ∧ h0 = h)) := by
  refine Met.of (EWl V) (by first | decide +kernel | rfl) hO (L0 := #[.val (.ref p0)]) rfl ?_
  intro p e s m below meth c T H
  show Go p e below _ (T.setTop (mkF m 0 #[.val (.ref p0)] []))
  refine G.aloadN H dc_jdk_42_method_54_code_0 (pc' := 1) rfl rfl rfl ?_
  refine G.getF H (wd34 V) Via.refl f0 dc_jdk_42_method_54_code_1 (pc' := 4) rfl ?_
  intro T1 H2
  refine G.arrlen H2 f1 dc_jdk_42_method_54_code_4 (pc' := 5) rfl ?_
  refine G.aloadN H2 dc_jdk_42_method_54_code_5 (pc' := 6) rfl rfl rfl ?_
  refine G.callV H2 (m4_coder V p0 h0 H2.old f3) (wd45 V) (wd46 V) (nf_sel (wd48 V)) (wd48 V) (wd47 V) (wd5 V) (wd49 V) (by decide) f2 (argsL := []) (rest := [(.int (16 : Int32))]) (W := 1) rfl rfl (lenOf (pd_3) rfl) rfl rfl dc_jdk_42_method_54_code_6 (pc' := 9) rfl (by decide) (by decide) (by decide) (by decide) all0 ?_
  intro T3 h3_ v4 s5 H3 Q6
  obtain ⟨rfl, rfl, rfl⟩ := Q6
  show Go p e below _ (T3.setTop (mkF m 9 #[.val (.ref p0)] [(.int (0 : Int32)), (.int (16 : Int32))]))
  refine G.ishr H3 dc_jdk_42_method_54_code_9 (pc' := 10) rfl ?_
  show Go p e below _ (T3.setTop (mkF m 10 #[.val (.ref p0)] [(.int (16 : Int32))]))
  exact G.retI H3 rfl dc_jdk_42_method_54_code_10 (so := []) all0 (by decide) (by decide) ⟨rfl, rfl, rfl⟩
set_option maxRecDepth 65536 in
set_option maxHeartbeats 40000000 in
theorem m55_untimed {l : Launch} {Z : State} {a0 : Array Value} {n0 : Nat} {z_COMPACT_STRINGS : Int32} {z_SIOOBE_FORMATTER : Value} (V : Env1 Z a0 n0 z_COMPACT_STRINGS z_SIOOBE_FORMATTER) (p0 : Addr) (p1 : Addr) (c0 : ClassId) (x0 : Int32) (x1 : Int32) (x2 : Int32) (x3 : Int32) (x4 : Int32) (x5 : Int32) (x6 : Int32) (x7 : Int32) (x8 : Int32) (x9 : Int32) (x10 : Int32) (x11 : Int32) (x12 : Int32) (x13 : Int32) (x14 : Int32) (x15 : Int32) (h0 : Heap) (hO : Old Z n0 h0) (f0 : Exa Z h0 p0 "java/lang/String") (f1 : Fld Z h0 p0 "java/lang/String" "value" "[B" (.ref p1)) (f2 : Arv Z h0 p1 c0 .byte (16 : Int32) [(.int x0), (.int x1), (.int x2), (.int x3), (.int x4), (.int x5), (.int x6), (.int x7), (.int x8), (.int x9), (.int x10), (.int x11), (.int x12), (.int x13), (.int x14), (.int x15)] (.int 0)) (f3 : Fld Z h0 p0 "java/lang/String" "coder" "B" (.int (0 : Int32))) :
    Met Z a0 ELs True n0 l (⟨"com/example/tenure/tenure/Days", "untimed", "(Ljava/lang/String;)Z"⟩ : MethodName) prog_14_method_4_code 1 (Option.some FieldType.boolean) ({ frames := 2, cells := 2, slots := 44, locals := 26 } : Room) #[(.ref p0)] h0 [p0, p1] (fun v h so => (v = some (.int (0 : Int32)) ∧ so = [] ∧ Keep h0 h [])) := by
  refine Met.of (EWl V) (by first | decide +kernel | rfl) hO (L0 := #[.val (.ref p0)]) rfl ?_
  intro p e s m below meth c T H
  show Go p e below _ (T.setTop (mkF m 0 #[.val (.ref p0)] []))
  refine G.aloadN H dc_prog_14_method_4_code_0 (pc' := 1) rfl rfl rfl ?_
  refine G.callV H (m54_length V p0 p1 c0 x0 x1 x2 x3 x4 x5 x6 x7 x8 x9 x10 x11 x12 x13 x14 x15 h0 H.old f1 f2 f0 f3) (wd40 V) (wd41 V) (nf_sel (wd43 V)) (wd43 V) (wd42 V) (wd5 V) (wd44 V) (by decide) f0 (argsL := []) (rest := []) (W := 0) rfl rfl (lenOf (pd_4) rfl) rfl rfl dc_prog_14_method_4_code_1 (pc' := 4) rfl (by decide) (by decide) (by decide) (by decide) all0 ?_
  intro T1 h1_ v2 s3 H1 Q4
  obtain ⟨rfl, rfl, rfl⟩ := Q4
  show Go p e below _ (T1.setTop (mkF m 4 #[.val (.ref p0)] [(.int (16 : Int32))]))
  refine G.ldcS H1 trivial (wS V) (wd50 V) (by decide) (vs := [(.int (48 : Int32)), (.int (48 : Int32)), (.int (48 : Int32)), (.int (48 : Int32)), (.int (45 : Int32)), (.int (48 : Int32)), (.int (48 : Int32)), (.int (45 : Int32)), (.int (48 : Int32)), (.int (48 : Int32))]) (z := (10 : Int32)) (by decide) (by decide) rfl (n := 40) (by decide) (by decide) (by decide) (by decide) dc_prog_14_method_4_code_4 (pc' := 6) rfl ?_
  intro T5 h5_ a6 b8 k9 H5 E7 X10 F11 F12 A13 Q14
  have S15 : Str Z h5_ a6 b8 k9 [(48 : Int32), (48 : Int32), (48 : Int32), (48 : Int32), (45 : Int32), (48 : Int32), (48 : Int32), (45 : Int32), (48 : Int32), (48 : Int32)] := ⟨X10, F11, F12, A13, by decide, by decide⟩
  show Go p e below _ (T5.setTop (mkF m 6 #[.val (.ref p0)] [(.ref a6), (.int (16 : Int32))]))
  refine G.callV H5 (m6_length V a6 b8 k9 h5_ H5.old F12 A13 X10 F11) (wd40 V) (wd41 V) (nf_sel (wd43 V)) (wd43 V) (wd42 V) (wd5 V) (wd44 V) (by decide) X10 (argsL := []) (rest := [(.int (16 : Int32))]) (W := 1) rfl rfl (lenOf (pd_4) rfl) rfl rfl dc_prog_14_method_4_code_6 (pc' := 9) rfl (by decide) (by decide) (by decide) (by decide) all0 ?_
  intro T16 h16_ v17 s18 H16 Q19
  obtain ⟨rfl, rfl, rfl⟩ := Q19
  show Go p e below _ (T16.setTop (mkF m 9 #[.val (.ref p0)] [(.int (10 : Int32)), (.int (16 : Int32))]))
  refine G.icmpYes H16 dc_prog_14_method_4_code_9 (by decide) (by decide) (pc' := 16) rfl ?_
  refine G.iconst H16 dc_prog_14_method_4_code_16 (pc' := 17) rfl (v := (0 : Int32)) rfl ?_
  have K20 : Keep h0 h5_ [] := (Keep.ext (Keep.refl h0 []) E7)
  exact G.retN H16 (t := .boolean) rfl (by decide) dc_prog_14_method_4_code_17 (so := []) all0 (by decide) (by decide) ⟨rfl, rfl, K20⟩
set_option maxRecDepth 65536 in
set_option maxHeartbeats 40000000 in
theorem m56_prefix {l : Launch} {Z : State} {a0 : Array Value} {n0 : Nat} {z_COMPACT_STRINGS : Int32} {z_SIOOBE_FORMATTER : Value} (V : Env1 Z a0 n0 z_COMPACT_STRINGS z_SIOOBE_FORMATTER) (p0 : Addr) (c0 : ClassId) (x0 : Int32) (x1 : Int32) (x2 : Int32) (x3 : Int32) (x4 : Int32) (x5 : Int32) (x6 : Int32) (x7 : Int32) (x8 : Int32) (x9 : Int32) (x10 : Int32) (x11 : Int32) (x12 : Int32) (x13 : Int32) (x14 : Int32) (x15 : Int32) (x16 : Int32) (x17 : Int32) (x18 : Int32) (x19 : Int32) (h0 : Heap) (hO : Old Z n0 h0) (f0 : Arv Z h0 p0 c0 .char (20 : Int32) [(.int x0), (.int x1), (.int x2), (.int x3), (.int x4), (.int x5), (.int x6), (.int x7), (.int x8), (.int x9), (.int x10), (.int x11), (.int x12), (.int x13), (.int x14), (.int x15), (.int x16), (.int x17), (.int x18), (.int x19)] (.int 0)) (r1 : ¬ x16 < 0 ∧ ¬ (65535 : Int32) < x16) (r2 : ¬ x15 < 0 ∧ ¬ (65535 : Int32) < x15) (r3 : ¬ x14 < 0 ∧ ¬ (65535 : Int32) < x14) (r4 : ¬ x13 < 0 ∧ ¬ (65535 : Int32) < x13) (r5 : ¬ x12 < 0 ∧ ¬ (65535 : Int32) < x12) (r6 : ¬ x11 < 0 ∧ ¬ (65535 : Int32) < x11) (r7 : ¬ x10 < 0 ∧ ¬ (65535 : Int32) < x10) (r8 : ¬ x9 < 0 ∧ ¬ (65535 : Int32) < x9) (r9 : ¬ x8 < 0 ∧ ¬ (65535 : Int32) < x8) (r10 : ¬ x7 < 0 ∧ ¬ (65535 : Int32) < x7) (r11 : ¬ x6 < 0 ∧ ¬ (65535 : Int32) < x6) (r12 : ¬ x5 < 0 ∧ ¬ (65535 : Int32) < x5) (r13 : ¬ x4 < 0 ∧ ¬ (65535 : Int32) < x4) (r14 : ¬ x3 < 0 ∧ ¬ (65535 : Int32) < x3) (r15 : ¬ x2 < 0 ∧ ¬ (65535 : Int32) < x2) (r16 : ¬ x1 < 0 ∧ ¬ (65535 : Int32) < x1) (r17 : ¬ x0 < 0 ∧ ¬ (65535 : Int32) < x0) :
    Met Z a0 ELs True n0 l (⟨"com/example/tenure/tenure/DaysUntimedPinLaw", "prefix", "([CI)[C"⟩ : MethodName) method_3_code 3 (Option.some (FieldType.array FieldType.char)) ({ frames := 0, cells := 1, slots := 17, locals := 0 } : Room) #[(.ref p0), (.int (17 : Int32))] h0 [] (fun v h so => (∃ a2 : Addr, ∃ k5 : ClassId, v = some (.ref a2) ∧ so = [] ∧ Keep h0 h [] ∧ h0.size ≤ a2 ∧ Arv Z h a2 k5 .char (17 : Int32) [(.int x0), (.int x1), (.int x2), (.int x3), (.int x4), (.int x5), (.int x6), (.int x7), (.int x8), (.int x9), (.int x10), (.int x11), (.int x12), (.int x13), (.int x14), (.int x15), (.int x16)] (.int 0))) := by
  refine Met.of (EWl V) (by first | decide +kernel | rfl) hO (L0 := #[.val (.ref p0), .val (.int (17 : Int32)), .unset]) rfl ?_
  intro p e s m below meth c T H
  show Go p e below _ (T.setTop (mkF m 0 #[.val (.ref p0), .val (.int (17 : Int32)), .unset] []))
  refine G.iloadN H dc_method_3_code_0 (pc' := 1) rfl rfl ?_
  refine G.newP H (aty := .char) (wd0 V) dc_method_3_code_1 (pc' := 3) rfl (by decide) (cap := 17) (by decide) (by decide) (by decide) (by decide) (vs := [(.int (0 : Int32)), (.int (0 : Int32)), (.int (0 : Int32)), (.int (0 : Int32)), (.int (0 : Int32)), (.int (0 : Int32)), (.int (0 : Int32)), (.int (0 : Int32)), (.int (0 : Int32)), (.int (0 : Int32)), (.int (0 : Int32)), (.int (0 : Int32)), (.int (0 : Int32)), (.int (0 : Int32)), (.int (0 : Int32)), (.int (0 : Int32)), (.int (0 : Int32))]) rfl ?_
  intro T1 h1_ a2 k5 ga2 H1 E3 A4
  have na2 : n0 ≤ a2 := Nat.le_trans H.le (Nat.le_of_eq ga2.symm)
  replace A4 : Arv Z h1_ a2 k5 .char (17 : Int32) [(.int (0 : Int32)), (.int (0 : Int32)), (.int (0 : Int32)), (.int (0 : Int32)), (.int (0 : Int32)), (.int (0 : Int32)), (.int (0 : Int32)), (.int (0 : Int32)), (.int (0 : Int32)), (.int (0 : Int32)), (.int (0 : Int32)), (.int (0 : Int32)), (.int (0 : Int32)), (.int (0 : Int32)), (.int (0 : Int32)), (.int (0 : Int32)), (.int (0 : Int32))] (.int 0) := A4
  show Go p e below _ (T1.setTop (mkF m 3 #[.val (.ref p0), .val (.int (17 : Int32)), .unset] [(.ref a2)]))
  refine G.astoreN H1 (L' := #[.val (.ref p0), .val (.int (17 : Int32)), .val (.ref a2)]) dc_method_3_code_3 (pc' := 4) rfl rfl rfl ?_
  refine G.iloadN H1 dc_method_3_code_4 (pc' := 5) rfl rfl ?_
  refine G.tswIn H1 dc_method_3_code_5 (by decide) (o := 119) rfl (by decide) (pc' := 124) rfl ?_
  refine G.aloadN H1 dc_method_3_code_124 (pc' := 125) rfl rfl rfl ?_
  refine G.bipush H1 dc_method_3_code_125 (pc' := 127) rfl (v := (16 : Int32)) rfl ?_
  refine G.aloadN H1 dc_method_3_code_127 (pc' := 128) rfl rfl rfl ?_
  refine G.bipush H1 dc_method_3_code_128 (pc' := 130) rfl (v := (16 : Int32)) rfl ?_
  have F6 : Arv Z h1_ p0 c0 .char (20 : Int32) [(.int x0), (.int x1), (.int x2), (.int x3), (.int x4), (.int x5), (.int x6), (.int x7), (.int x8), (.int x9), (.int x10), (.int x11), (.int x12), (.int x13), (.int x14), (.int x15), (.int x16), (.int x17), (.int x18), (.int x19)] (.int 0) := (Arv.ext f0 E3)
  refine G.caloadG H1 F6 (j := (16 : Int32)) (v := (.int x16)) (by decide) rfl dc_method_3_code_130 (pc' := 131) rfl ?_
  refine G.stC H1 A4 (by decide) (i := 16) rfl (Nat.le_of_ble_eq_true rfl) na2 (y := x16) (own_narC r1) dc_method_3_code_131 (pc' := 132) rfl ?_
  intro T7 h7_ H7 W8 A9
  replace A9 : Arv Z h7_ a2 k5 .char (17 : Int32) [(.int (0 : Int32)), (.int (0 : Int32)), (.int (0 : Int32)), (.int (0 : Int32)), (.int (0 : Int32)), (.int (0 : Int32)), (.int (0 : Int32)), (.int (0 : Int32)), (.int (0 : Int32)), (.int (0 : Int32)), (.int (0 : Int32)), (.int (0 : Int32)), (.int (0 : Int32)), (.int (0 : Int32)), (.int (0 : Int32)), (.int (0 : Int32)), (.int x16)] (.int 0) := A9
  show Go p e below _ (T7.setTop (mkF m 132 #[.val (.ref p0), .val (.int (17 : Int32)), .val (.ref a2)] []))
  refine G.aloadN H7 dc_method_3_code_132 (pc' := 133) rfl rfl rfl ?_
  refine G.bipush H7 dc_method_3_code_133 (pc' := 135) rfl (v := (15 : Int32)) rfl ?_
  refine G.aloadN H7 dc_method_3_code_135 (pc' := 136) rfl rfl rfl ?_
  refine G.bipush H7 dc_method_3_code_136 (pc' := 138) rfl (v := (15 : Int32)) rfl ?_
  have N10 : p0 ≠ a2 := (Nat.ne_of_lt (Nat.lt_of_lt_of_le f0.lt (Nat.le_of_eq ga2.symm)))
  have F11 : Arv Z h7_ p0 c0 .char (20 : Int32) [(.int x0), (.int x1), (.int x2), (.int x3), (.int x4), (.int x5), (.int x6), (.int x7), (.int x8), (.int x9), (.int x10), (.int x11), (.int x12), (.int x13), (.int x14), (.int x15), (.int x16), (.int x17), (.int x18), (.int x19)] (.int 0) := (Arv.other F6 W8 N10)
  refine G.caloadG H7 F11 (j := (15 : Int32)) (v := (.int x15)) (by decide) rfl dc_method_3_code_138 (pc' := 139) rfl ?_
  refine G.stC H7 A9 (by decide) (i := 15) rfl (Nat.le_of_ble_eq_true rfl) na2 (y := x15) (own_narC r2) dc_method_3_code_139 (pc' := 140) rfl ?_
  intro T12 h12_ H12 W13 A14
  replace A14 : Arv Z h12_ a2 k5 .char (17 : Int32) [(.int (0 : Int32)), (.int (0 : Int32)), (.int (0 : Int32)), (.int (0 : Int32)), (.int (0 : Int32)), (.int (0 : Int32)), (.int (0 : Int32)), (.int (0 : Int32)), (.int (0 : Int32)), (.int (0 : Int32)), (.int (0 : Int32)), (.int (0 : Int32)), (.int (0 : Int32)), (.int (0 : Int32)), (.int (0 : Int32)), (.int x15), (.int x16)] (.int 0) := A14
  show Go p e below _ (T12.setTop (mkF m 140 #[.val (.ref p0), .val (.int (17 : Int32)), .val (.ref a2)] []))
  refine G.aloadN H12 dc_method_3_code_140 (pc' := 141) rfl rfl rfl ?_
  refine G.bipush H12 dc_method_3_code_141 (pc' := 143) rfl (v := (14 : Int32)) rfl ?_
  refine G.aloadN H12 dc_method_3_code_143 (pc' := 144) rfl rfl rfl ?_
  refine G.bipush H12 dc_method_3_code_144 (pc' := 146) rfl (v := (14 : Int32)) rfl ?_
  have F15 : Arv Z h12_ p0 c0 .char (20 : Int32) [(.int x0), (.int x1), (.int x2), (.int x3), (.int x4), (.int x5), (.int x6), (.int x7), (.int x8), (.int x9), (.int x10), (.int x11), (.int x12), (.int x13), (.int x14), (.int x15), (.int x16), (.int x17), (.int x18), (.int x19)] (.int 0) := (Arv.other F11 W13 N10)
  refine G.caloadG H12 F15 (j := (14 : Int32)) (v := (.int x14)) (by decide) rfl dc_method_3_code_146 (pc' := 147) rfl ?_
  refine G.stC H12 A14 (by decide) (i := 14) rfl (Nat.le_of_ble_eq_true rfl) na2 (y := x14) (own_narC r3) dc_method_3_code_147 (pc' := 148) rfl ?_
  intro T16 h16_ H16 W17 A18
  replace A18 : Arv Z h16_ a2 k5 .char (17 : Int32) [(.int (0 : Int32)), (.int (0 : Int32)), (.int (0 : Int32)), (.int (0 : Int32)), (.int (0 : Int32)), (.int (0 : Int32)), (.int (0 : Int32)), (.int (0 : Int32)), (.int (0 : Int32)), (.int (0 : Int32)), (.int (0 : Int32)), (.int (0 : Int32)), (.int (0 : Int32)), (.int (0 : Int32)), (.int x14), (.int x15), (.int x16)] (.int 0) := A18
  show Go p e below _ (T16.setTop (mkF m 148 #[.val (.ref p0), .val (.int (17 : Int32)), .val (.ref a2)] []))
  refine G.aloadN H16 dc_method_3_code_148 (pc' := 149) rfl rfl rfl ?_
  refine G.bipush H16 dc_method_3_code_149 (pc' := 151) rfl (v := (13 : Int32)) rfl ?_
  refine G.aloadN H16 dc_method_3_code_151 (pc' := 152) rfl rfl rfl ?_
  refine G.bipush H16 dc_method_3_code_152 (pc' := 154) rfl (v := (13 : Int32)) rfl ?_
  have F19 : Arv Z h16_ p0 c0 .char (20 : Int32) [(.int x0), (.int x1), (.int x2), (.int x3), (.int x4), (.int x5), (.int x6), (.int x7), (.int x8), (.int x9), (.int x10), (.int x11), (.int x12), (.int x13), (.int x14), (.int x15), (.int x16), (.int x17), (.int x18), (.int x19)] (.int 0) := (Arv.other F15 W17 N10)
  refine G.caloadG H16 F19 (j := (13 : Int32)) (v := (.int x13)) (by decide) rfl dc_method_3_code_154 (pc' := 155) rfl ?_
  refine G.stC H16 A18 (by decide) (i := 13) rfl (Nat.le_of_ble_eq_true rfl) na2 (y := x13) (own_narC r4) dc_method_3_code_155 (pc' := 156) rfl ?_
  intro T20 h20_ H20 W21 A22
  replace A22 : Arv Z h20_ a2 k5 .char (17 : Int32) [(.int (0 : Int32)), (.int (0 : Int32)), (.int (0 : Int32)), (.int (0 : Int32)), (.int (0 : Int32)), (.int (0 : Int32)), (.int (0 : Int32)), (.int (0 : Int32)), (.int (0 : Int32)), (.int (0 : Int32)), (.int (0 : Int32)), (.int (0 : Int32)), (.int (0 : Int32)), (.int x13), (.int x14), (.int x15), (.int x16)] (.int 0) := A22
  show Go p e below _ (T20.setTop (mkF m 156 #[.val (.ref p0), .val (.int (17 : Int32)), .val (.ref a2)] []))
  refine G.aloadN H20 dc_method_3_code_156 (pc' := 157) rfl rfl rfl ?_
  refine G.bipush H20 dc_method_3_code_157 (pc' := 159) rfl (v := (12 : Int32)) rfl ?_
  refine G.aloadN H20 dc_method_3_code_159 (pc' := 160) rfl rfl rfl ?_
  refine G.bipush H20 dc_method_3_code_160 (pc' := 162) rfl (v := (12 : Int32)) rfl ?_
  have F23 : Arv Z h20_ p0 c0 .char (20 : Int32) [(.int x0), (.int x1), (.int x2), (.int x3), (.int x4), (.int x5), (.int x6), (.int x7), (.int x8), (.int x9), (.int x10), (.int x11), (.int x12), (.int x13), (.int x14), (.int x15), (.int x16), (.int x17), (.int x18), (.int x19)] (.int 0) := (Arv.other F19 W21 N10)
  refine G.caloadG H20 F23 (j := (12 : Int32)) (v := (.int x12)) (by decide) rfl dc_method_3_code_162 (pc' := 163) rfl ?_
  refine G.stC H20 A22 (by decide) (i := 12) rfl (Nat.le_of_ble_eq_true rfl) na2 (y := x12) (own_narC r5) dc_method_3_code_163 (pc' := 164) rfl ?_
  intro T24 h24_ H24 W25 A26
  replace A26 : Arv Z h24_ a2 k5 .char (17 : Int32) [(.int (0 : Int32)), (.int (0 : Int32)), (.int (0 : Int32)), (.int (0 : Int32)), (.int (0 : Int32)), (.int (0 : Int32)), (.int (0 : Int32)), (.int (0 : Int32)), (.int (0 : Int32)), (.int (0 : Int32)), (.int (0 : Int32)), (.int (0 : Int32)), (.int x12), (.int x13), (.int x14), (.int x15), (.int x16)] (.int 0) := A26
  show Go p e below _ (T24.setTop (mkF m 164 #[.val (.ref p0), .val (.int (17 : Int32)), .val (.ref a2)] []))
  refine G.aloadN H24 dc_method_3_code_164 (pc' := 165) rfl rfl rfl ?_
  refine G.bipush H24 dc_method_3_code_165 (pc' := 167) rfl (v := (11 : Int32)) rfl ?_
  refine G.aloadN H24 dc_method_3_code_167 (pc' := 168) rfl rfl rfl ?_
  refine G.bipush H24 dc_method_3_code_168 (pc' := 170) rfl (v := (11 : Int32)) rfl ?_
  have F27 : Arv Z h24_ p0 c0 .char (20 : Int32) [(.int x0), (.int x1), (.int x2), (.int x3), (.int x4), (.int x5), (.int x6), (.int x7), (.int x8), (.int x9), (.int x10), (.int x11), (.int x12), (.int x13), (.int x14), (.int x15), (.int x16), (.int x17), (.int x18), (.int x19)] (.int 0) := (Arv.other F23 W25 N10)
  refine G.caloadG H24 F27 (j := (11 : Int32)) (v := (.int x11)) (by decide) rfl dc_method_3_code_170 (pc' := 171) rfl ?_
  refine G.stC H24 A26 (by decide) (i := 11) rfl (Nat.le_of_ble_eq_true rfl) na2 (y := x11) (own_narC r6) dc_method_3_code_171 (pc' := 172) rfl ?_
  intro T28 h28_ H28 W29 A30
  replace A30 : Arv Z h28_ a2 k5 .char (17 : Int32) [(.int (0 : Int32)), (.int (0 : Int32)), (.int (0 : Int32)), (.int (0 : Int32)), (.int (0 : Int32)), (.int (0 : Int32)), (.int (0 : Int32)), (.int (0 : Int32)), (.int (0 : Int32)), (.int (0 : Int32)), (.int (0 : Int32)), (.int x11), (.int x12), (.int x13), (.int x14), (.int x15), (.int x16)] (.int 0) := A30
  show Go p e below _ (T28.setTop (mkF m 172 #[.val (.ref p0), .val (.int (17 : Int32)), .val (.ref a2)] []))
  refine G.aloadN H28 dc_method_3_code_172 (pc' := 173) rfl rfl rfl ?_
  refine G.bipush H28 dc_method_3_code_173 (pc' := 175) rfl (v := (10 : Int32)) rfl ?_
  refine G.aloadN H28 dc_method_3_code_175 (pc' := 176) rfl rfl rfl ?_
  refine G.bipush H28 dc_method_3_code_176 (pc' := 178) rfl (v := (10 : Int32)) rfl ?_
  have F31 : Arv Z h28_ p0 c0 .char (20 : Int32) [(.int x0), (.int x1), (.int x2), (.int x3), (.int x4), (.int x5), (.int x6), (.int x7), (.int x8), (.int x9), (.int x10), (.int x11), (.int x12), (.int x13), (.int x14), (.int x15), (.int x16), (.int x17), (.int x18), (.int x19)] (.int 0) := (Arv.other F27 W29 N10)
  refine G.caloadG H28 F31 (j := (10 : Int32)) (v := (.int x10)) (by decide) rfl dc_method_3_code_178 (pc' := 179) rfl ?_
  refine G.stC H28 A30 (by decide) (i := 10) rfl (Nat.le_of_ble_eq_true rfl) na2 (y := x10) (own_narC r7) dc_method_3_code_179 (pc' := 180) rfl ?_
  intro T32 h32_ H32 W33 A34
  replace A34 : Arv Z h32_ a2 k5 .char (17 : Int32) [(.int (0 : Int32)), (.int (0 : Int32)), (.int (0 : Int32)), (.int (0 : Int32)), (.int (0 : Int32)), (.int (0 : Int32)), (.int (0 : Int32)), (.int (0 : Int32)), (.int (0 : Int32)), (.int (0 : Int32)), (.int x10), (.int x11), (.int x12), (.int x13), (.int x14), (.int x15), (.int x16)] (.int 0) := A34
  show Go p e below _ (T32.setTop (mkF m 180 #[.val (.ref p0), .val (.int (17 : Int32)), .val (.ref a2)] []))
  refine G.aloadN H32 dc_method_3_code_180 (pc' := 181) rfl rfl rfl ?_
  refine G.bipush H32 dc_method_3_code_181 (pc' := 183) rfl (v := (9 : Int32)) rfl ?_
  refine G.aloadN H32 dc_method_3_code_183 (pc' := 184) rfl rfl rfl ?_
  refine G.bipush H32 dc_method_3_code_184 (pc' := 186) rfl (v := (9 : Int32)) rfl ?_
  have F35 : Arv Z h32_ p0 c0 .char (20 : Int32) [(.int x0), (.int x1), (.int x2), (.int x3), (.int x4), (.int x5), (.int x6), (.int x7), (.int x8), (.int x9), (.int x10), (.int x11), (.int x12), (.int x13), (.int x14), (.int x15), (.int x16), (.int x17), (.int x18), (.int x19)] (.int 0) := (Arv.other F31 W33 N10)
  refine G.caloadG H32 F35 (j := (9 : Int32)) (v := (.int x9)) (by decide) rfl dc_method_3_code_186 (pc' := 187) rfl ?_
  refine G.stC H32 A34 (by decide) (i := 9) rfl (Nat.le_of_ble_eq_true rfl) na2 (y := x9) (own_narC r8) dc_method_3_code_187 (pc' := 188) rfl ?_
  intro T36 h36_ H36 W37 A38
  replace A38 : Arv Z h36_ a2 k5 .char (17 : Int32) [(.int (0 : Int32)), (.int (0 : Int32)), (.int (0 : Int32)), (.int (0 : Int32)), (.int (0 : Int32)), (.int (0 : Int32)), (.int (0 : Int32)), (.int (0 : Int32)), (.int (0 : Int32)), (.int x9), (.int x10), (.int x11), (.int x12), (.int x13), (.int x14), (.int x15), (.int x16)] (.int 0) := A38
  show Go p e below _ (T36.setTop (mkF m 188 #[.val (.ref p0), .val (.int (17 : Int32)), .val (.ref a2)] []))
  refine G.aloadN H36 dc_method_3_code_188 (pc' := 189) rfl rfl rfl ?_
  refine G.bipush H36 dc_method_3_code_189 (pc' := 191) rfl (v := (8 : Int32)) rfl ?_
  refine G.aloadN H36 dc_method_3_code_191 (pc' := 192) rfl rfl rfl ?_
  refine G.bipush H36 dc_method_3_code_192 (pc' := 194) rfl (v := (8 : Int32)) rfl ?_
  have F39 : Arv Z h36_ p0 c0 .char (20 : Int32) [(.int x0), (.int x1), (.int x2), (.int x3), (.int x4), (.int x5), (.int x6), (.int x7), (.int x8), (.int x9), (.int x10), (.int x11), (.int x12), (.int x13), (.int x14), (.int x15), (.int x16), (.int x17), (.int x18), (.int x19)] (.int 0) := (Arv.other F35 W37 N10)
  refine G.caloadG H36 F39 (j := (8 : Int32)) (v := (.int x8)) (by decide) rfl dc_method_3_code_194 (pc' := 195) rfl ?_
  refine G.stC H36 A38 (by decide) (i := 8) rfl (Nat.le_of_ble_eq_true rfl) na2 (y := x8) (own_narC r9) dc_method_3_code_195 (pc' := 196) rfl ?_
  intro T40 h40_ H40 W41 A42
  replace A42 : Arv Z h40_ a2 k5 .char (17 : Int32) [(.int (0 : Int32)), (.int (0 : Int32)), (.int (0 : Int32)), (.int (0 : Int32)), (.int (0 : Int32)), (.int (0 : Int32)), (.int (0 : Int32)), (.int (0 : Int32)), (.int x8), (.int x9), (.int x10), (.int x11), (.int x12), (.int x13), (.int x14), (.int x15), (.int x16)] (.int 0) := A42
  show Go p e below _ (T40.setTop (mkF m 196 #[.val (.ref p0), .val (.int (17 : Int32)), .val (.ref a2)] []))
  refine G.aloadN H40 dc_method_3_code_196 (pc' := 197) rfl rfl rfl ?_
  refine G.bipush H40 dc_method_3_code_197 (pc' := 199) rfl (v := (7 : Int32)) rfl ?_
  refine G.aloadN H40 dc_method_3_code_199 (pc' := 200) rfl rfl rfl ?_
  refine G.bipush H40 dc_method_3_code_200 (pc' := 202) rfl (v := (7 : Int32)) rfl ?_
  have F43 : Arv Z h40_ p0 c0 .char (20 : Int32) [(.int x0), (.int x1), (.int x2), (.int x3), (.int x4), (.int x5), (.int x6), (.int x7), (.int x8), (.int x9), (.int x10), (.int x11), (.int x12), (.int x13), (.int x14), (.int x15), (.int x16), (.int x17), (.int x18), (.int x19)] (.int 0) := (Arv.other F39 W41 N10)
  refine G.caloadG H40 F43 (j := (7 : Int32)) (v := (.int x7)) (by decide) rfl dc_method_3_code_202 (pc' := 203) rfl ?_
  refine G.stC H40 A42 (by decide) (i := 7) rfl (Nat.le_of_ble_eq_true rfl) na2 (y := x7) (own_narC r10) dc_method_3_code_203 (pc' := 204) rfl ?_
  intro T44 h44_ H44 W45 A46
  replace A46 : Arv Z h44_ a2 k5 .char (17 : Int32) [(.int (0 : Int32)), (.int (0 : Int32)), (.int (0 : Int32)), (.int (0 : Int32)), (.int (0 : Int32)), (.int (0 : Int32)), (.int (0 : Int32)), (.int x7), (.int x8), (.int x9), (.int x10), (.int x11), (.int x12), (.int x13), (.int x14), (.int x15), (.int x16)] (.int 0) := A46
  show Go p e below _ (T44.setTop (mkF m 204 #[.val (.ref p0), .val (.int (17 : Int32)), .val (.ref a2)] []))
  refine G.aloadN H44 dc_method_3_code_204 (pc' := 205) rfl rfl rfl ?_
  refine G.bipush H44 dc_method_3_code_205 (pc' := 207) rfl (v := (6 : Int32)) rfl ?_
  refine G.aloadN H44 dc_method_3_code_207 (pc' := 208) rfl rfl rfl ?_
  refine G.bipush H44 dc_method_3_code_208 (pc' := 210) rfl (v := (6 : Int32)) rfl ?_
  have F47 : Arv Z h44_ p0 c0 .char (20 : Int32) [(.int x0), (.int x1), (.int x2), (.int x3), (.int x4), (.int x5), (.int x6), (.int x7), (.int x8), (.int x9), (.int x10), (.int x11), (.int x12), (.int x13), (.int x14), (.int x15), (.int x16), (.int x17), (.int x18), (.int x19)] (.int 0) := (Arv.other F43 W45 N10)
  refine G.caloadG H44 F47 (j := (6 : Int32)) (v := (.int x6)) (by decide) rfl dc_method_3_code_210 (pc' := 211) rfl ?_
  refine G.stC H44 A46 (by decide) (i := 6) rfl (Nat.le_of_ble_eq_true rfl) na2 (y := x6) (own_narC r11) dc_method_3_code_211 (pc' := 212) rfl ?_
  intro T48 h48_ H48 W49 A50
  replace A50 : Arv Z h48_ a2 k5 .char (17 : Int32) [(.int (0 : Int32)), (.int (0 : Int32)), (.int (0 : Int32)), (.int (0 : Int32)), (.int (0 : Int32)), (.int (0 : Int32)), (.int x6), (.int x7), (.int x8), (.int x9), (.int x10), (.int x11), (.int x12), (.int x13), (.int x14), (.int x15), (.int x16)] (.int 0) := A50
  show Go p e below _ (T48.setTop (mkF m 212 #[.val (.ref p0), .val (.int (17 : Int32)), .val (.ref a2)] []))
  refine G.aloadN H48 dc_method_3_code_212 (pc' := 213) rfl rfl rfl ?_
  refine G.iconst H48 dc_method_3_code_213 (pc' := 214) rfl (v := (5 : Int32)) rfl ?_
  refine G.aloadN H48 dc_method_3_code_214 (pc' := 215) rfl rfl rfl ?_
  refine G.iconst H48 dc_method_3_code_215 (pc' := 216) rfl (v := (5 : Int32)) rfl ?_
  have F51 : Arv Z h48_ p0 c0 .char (20 : Int32) [(.int x0), (.int x1), (.int x2), (.int x3), (.int x4), (.int x5), (.int x6), (.int x7), (.int x8), (.int x9), (.int x10), (.int x11), (.int x12), (.int x13), (.int x14), (.int x15), (.int x16), (.int x17), (.int x18), (.int x19)] (.int 0) := (Arv.other F47 W49 N10)
  refine G.caloadG H48 F51 (j := (5 : Int32)) (v := (.int x5)) (by decide) rfl dc_method_3_code_216 (pc' := 217) rfl ?_
  refine G.stC H48 A50 (by decide) (i := 5) rfl (Nat.le_of_ble_eq_true rfl) na2 (y := x5) (own_narC r12) dc_method_3_code_217 (pc' := 218) rfl ?_
  intro T52 h52_ H52 W53 A54
  replace A54 : Arv Z h52_ a2 k5 .char (17 : Int32) [(.int (0 : Int32)), (.int (0 : Int32)), (.int (0 : Int32)), (.int (0 : Int32)), (.int (0 : Int32)), (.int x5), (.int x6), (.int x7), (.int x8), (.int x9), (.int x10), (.int x11), (.int x12), (.int x13), (.int x14), (.int x15), (.int x16)] (.int 0) := A54
  show Go p e below _ (T52.setTop (mkF m 218 #[.val (.ref p0), .val (.int (17 : Int32)), .val (.ref a2)] []))
  refine G.aloadN H52 dc_method_3_code_218 (pc' := 219) rfl rfl rfl ?_
  refine G.iconst H52 dc_method_3_code_219 (pc' := 220) rfl (v := (4 : Int32)) rfl ?_
  refine G.aloadN H52 dc_method_3_code_220 (pc' := 221) rfl rfl rfl ?_
  refine G.iconst H52 dc_method_3_code_221 (pc' := 222) rfl (v := (4 : Int32)) rfl ?_
  have F55 : Arv Z h52_ p0 c0 .char (20 : Int32) [(.int x0), (.int x1), (.int x2), (.int x3), (.int x4), (.int x5), (.int x6), (.int x7), (.int x8), (.int x9), (.int x10), (.int x11), (.int x12), (.int x13), (.int x14), (.int x15), (.int x16), (.int x17), (.int x18), (.int x19)] (.int 0) := (Arv.other F51 W53 N10)
  refine G.caloadG H52 F55 (j := (4 : Int32)) (v := (.int x4)) (by decide) rfl dc_method_3_code_222 (pc' := 223) rfl ?_
  refine G.stC H52 A54 (by decide) (i := 4) rfl (Nat.le_of_ble_eq_true rfl) na2 (y := x4) (own_narC r13) dc_method_3_code_223 (pc' := 224) rfl ?_
  intro T56 h56_ H56 W57 A58
  replace A58 : Arv Z h56_ a2 k5 .char (17 : Int32) [(.int (0 : Int32)), (.int (0 : Int32)), (.int (0 : Int32)), (.int (0 : Int32)), (.int x4), (.int x5), (.int x6), (.int x7), (.int x8), (.int x9), (.int x10), (.int x11), (.int x12), (.int x13), (.int x14), (.int x15), (.int x16)] (.int 0) := A58
  show Go p e below _ (T56.setTop (mkF m 224 #[.val (.ref p0), .val (.int (17 : Int32)), .val (.ref a2)] []))
  refine G.aloadN H56 dc_method_3_code_224 (pc' := 225) rfl rfl rfl ?_
  refine G.iconst H56 dc_method_3_code_225 (pc' := 226) rfl (v := (3 : Int32)) rfl ?_
  refine G.aloadN H56 dc_method_3_code_226 (pc' := 227) rfl rfl rfl ?_
  refine G.iconst H56 dc_method_3_code_227 (pc' := 228) rfl (v := (3 : Int32)) rfl ?_
  have F59 : Arv Z h56_ p0 c0 .char (20 : Int32) [(.int x0), (.int x1), (.int x2), (.int x3), (.int x4), (.int x5), (.int x6), (.int x7), (.int x8), (.int x9), (.int x10), (.int x11), (.int x12), (.int x13), (.int x14), (.int x15), (.int x16), (.int x17), (.int x18), (.int x19)] (.int 0) := (Arv.other F55 W57 N10)
  refine G.caloadG H56 F59 (j := (3 : Int32)) (v := (.int x3)) (by decide) rfl dc_method_3_code_228 (pc' := 229) rfl ?_
  refine G.stC H56 A58 (by decide) (i := 3) rfl (Nat.le_of_ble_eq_true rfl) na2 (y := x3) (own_narC r14) dc_method_3_code_229 (pc' := 230) rfl ?_
  intro T60 h60_ H60 W61 A62
  replace A62 : Arv Z h60_ a2 k5 .char (17 : Int32) [(.int (0 : Int32)), (.int (0 : Int32)), (.int (0 : Int32)), (.int x3), (.int x4), (.int x5), (.int x6), (.int x7), (.int x8), (.int x9), (.int x10), (.int x11), (.int x12), (.int x13), (.int x14), (.int x15), (.int x16)] (.int 0) := A62
  show Go p e below _ (T60.setTop (mkF m 230 #[.val (.ref p0), .val (.int (17 : Int32)), .val (.ref a2)] []))
  refine G.aloadN H60 dc_method_3_code_230 (pc' := 231) rfl rfl rfl ?_
  refine G.iconst H60 dc_method_3_code_231 (pc' := 232) rfl (v := (2 : Int32)) rfl ?_
  refine G.aloadN H60 dc_method_3_code_232 (pc' := 233) rfl rfl rfl ?_
  refine G.iconst H60 dc_method_3_code_233 (pc' := 234) rfl (v := (2 : Int32)) rfl ?_
  have F63 : Arv Z h60_ p0 c0 .char (20 : Int32) [(.int x0), (.int x1), (.int x2), (.int x3), (.int x4), (.int x5), (.int x6), (.int x7), (.int x8), (.int x9), (.int x10), (.int x11), (.int x12), (.int x13), (.int x14), (.int x15), (.int x16), (.int x17), (.int x18), (.int x19)] (.int 0) := (Arv.other F59 W61 N10)
  refine G.caloadG H60 F63 (j := (2 : Int32)) (v := (.int x2)) (by decide) rfl dc_method_3_code_234 (pc' := 235) rfl ?_
  refine G.stC H60 A62 (by decide) (i := 2) rfl (Nat.le_of_ble_eq_true rfl) na2 (y := x2) (own_narC r15) dc_method_3_code_235 (pc' := 236) rfl ?_
  intro T64 h64_ H64 W65 A66
  replace A66 : Arv Z h64_ a2 k5 .char (17 : Int32) [(.int (0 : Int32)), (.int (0 : Int32)), (.int x2), (.int x3), (.int x4), (.int x5), (.int x6), (.int x7), (.int x8), (.int x9), (.int x10), (.int x11), (.int x12), (.int x13), (.int x14), (.int x15), (.int x16)] (.int 0) := A66
  show Go p e below _ (T64.setTop (mkF m 236 #[.val (.ref p0), .val (.int (17 : Int32)), .val (.ref a2)] []))
  refine G.aloadN H64 dc_method_3_code_236 (pc' := 237) rfl rfl rfl ?_
  refine G.iconst H64 dc_method_3_code_237 (pc' := 238) rfl (v := (1 : Int32)) rfl ?_
  refine G.aloadN H64 dc_method_3_code_238 (pc' := 239) rfl rfl rfl ?_
  refine G.iconst H64 dc_method_3_code_239 (pc' := 240) rfl (v := (1 : Int32)) rfl ?_
  have F67 : Arv Z h64_ p0 c0 .char (20 : Int32) [(.int x0), (.int x1), (.int x2), (.int x3), (.int x4), (.int x5), (.int x6), (.int x7), (.int x8), (.int x9), (.int x10), (.int x11), (.int x12), (.int x13), (.int x14), (.int x15), (.int x16), (.int x17), (.int x18), (.int x19)] (.int 0) := (Arv.other F63 W65 N10)
  refine G.caloadG H64 F67 (j := (1 : Int32)) (v := (.int x1)) (by decide) rfl dc_method_3_code_240 (pc' := 241) rfl ?_
  refine G.stC H64 A66 (by decide) (i := 1) rfl (Nat.le_of_ble_eq_true rfl) na2 (y := x1) (own_narC r16) dc_method_3_code_241 (pc' := 242) rfl ?_
  intro T68 h68_ H68 W69 A70
  replace A70 : Arv Z h68_ a2 k5 .char (17 : Int32) [(.int (0 : Int32)), (.int x1), (.int x2), (.int x3), (.int x4), (.int x5), (.int x6), (.int x7), (.int x8), (.int x9), (.int x10), (.int x11), (.int x12), (.int x13), (.int x14), (.int x15), (.int x16)] (.int 0) := A70
  show Go p e below _ (T68.setTop (mkF m 242 #[.val (.ref p0), .val (.int (17 : Int32)), .val (.ref a2)] []))
  refine G.aloadN H68 dc_method_3_code_242 (pc' := 243) rfl rfl rfl ?_
  refine G.iconst H68 dc_method_3_code_243 (pc' := 244) rfl (v := (0 : Int32)) rfl ?_
  refine G.aloadN H68 dc_method_3_code_244 (pc' := 245) rfl rfl rfl ?_
  refine G.iconst H68 dc_method_3_code_245 (pc' := 246) rfl (v := (0 : Int32)) rfl ?_
  have F71 : Arv Z h68_ p0 c0 .char (20 : Int32) [(.int x0), (.int x1), (.int x2), (.int x3), (.int x4), (.int x5), (.int x6), (.int x7), (.int x8), (.int x9), (.int x10), (.int x11), (.int x12), (.int x13), (.int x14), (.int x15), (.int x16), (.int x17), (.int x18), (.int x19)] (.int 0) := (Arv.other F67 W69 N10)
  refine G.caloadG H68 F71 (j := (0 : Int32)) (v := (.int x0)) (by decide) rfl dc_method_3_code_246 (pc' := 247) rfl ?_
  refine G.stC H68 A70 (by decide) (i := 0) rfl (Nat.le_of_ble_eq_true rfl) na2 (y := x0) (own_narC r17) dc_method_3_code_247 (pc' := 248) rfl ?_
  intro T72 h72_ H72 W73 A74
  replace A74 : Arv Z h72_ a2 k5 .char (17 : Int32) [(.int x0), (.int x1), (.int x2), (.int x3), (.int x4), (.int x5), (.int x6), (.int x7), (.int x8), (.int x9), (.int x10), (.int x11), (.int x12), (.int x13), (.int x14), (.int x15), (.int x16)] (.int 0) := A74
  show Go p e below _ (T72.setTop (mkF m 248 #[.val (.ref p0), .val (.int (17 : Int32)), .val (.ref a2)] []))
  refine G.aloadN H72 dc_method_3_code_248 (pc' := 249) rfl rfl rfl ?_
  have K75 : Keep h0 h72_ [] := (Keep.wr (Keep.wr (Keep.wr (Keep.wr (Keep.wr (Keep.wr (Keep.wr (Keep.wr (Keep.wr (Keep.wr (Keep.wr (Keep.wr (Keep.wr (Keep.wr (Keep.wr (Keep.wr (Keep.wr (Keep.ext (Keep.refl h0 []) E3) W8 (Or.inr (Nat.le_of_eq ga2.symm))) W13 (Or.inr (Nat.le_of_eq ga2.symm))) W17 (Or.inr (Nat.le_of_eq ga2.symm))) W21 (Or.inr (Nat.le_of_eq ga2.symm))) W25 (Or.inr (Nat.le_of_eq ga2.symm))) W29 (Or.inr (Nat.le_of_eq ga2.symm))) W33 (Or.inr (Nat.le_of_eq ga2.symm))) W37 (Or.inr (Nat.le_of_eq ga2.symm))) W41 (Or.inr (Nat.le_of_eq ga2.symm))) W45 (Or.inr (Nat.le_of_eq ga2.symm))) W49 (Or.inr (Nat.le_of_eq ga2.symm))) W53 (Or.inr (Nat.le_of_eq ga2.symm))) W57 (Or.inr (Nat.le_of_eq ga2.symm))) W61 (Or.inr (Nat.le_of_eq ga2.symm))) W65 (Or.inr (Nat.le_of_eq ga2.symm))) W69 (Or.inr (Nat.le_of_eq ga2.symm))) W73 (Or.inr (Nat.le_of_eq ga2.symm)))
  exact G.retA H72 (t := (.array .char)) rfl rfl rfl dc_method_3_code_249 (so := []) all0 (by decide) (by decide) ⟨a2, k5, rfl, rfl, K75, (Nat.le_of_eq ga2.symm), A74⟩
set_option maxRecDepth 65536 in
set_option maxHeartbeats 40000000 in
theorem m57_length {l : Launch} {Z : State} {a0 : Array Value} {n0 : Nat} {z_COMPACT_STRINGS : Int32} {z_SIOOBE_FORMATTER : Value} (V : Env1 Z a0 n0 z_COMPACT_STRINGS z_SIOOBE_FORMATTER) (p0 : Addr) (p1 : Addr) (c0 : ClassId) (x0 : Int32) (x1 : Int32) (x2 : Int32) (x3 : Int32) (x4 : Int32) (x5 : Int32) (x6 : Int32) (x7 : Int32) (x8 : Int32) (x9 : Int32) (x10 : Int32) (x11 : Int32) (x12 : Int32) (x13 : Int32) (x14 : Int32) (x15 : Int32) (x16 : Int32) (h0 : Heap) (hO : Old Z n0 h0) (f0 : Fld Z h0 p0 "java/lang/String" "value" "[B" (.ref p1)) (f1 : Arv Z h0 p1 c0 .byte (17 : Int32) [(.int x0), (.int x1), (.int x2), (.int x3), (.int x4), (.int x5), (.int x6), (.int x7), (.int x8), (.int x9), (.int x10), (.int x11), (.int x12), (.int x13), (.int x14), (.int x15), (.int x16)] (.int 0)) (f2 : Exa Z h0 p0 "java/lang/String") (f3 : Fld Z h0 p0 "java/lang/String" "coder" "B" (.int (0 : Int32))) :
    Met Z a0 ELs True n0 l (⟨"java/lang/String", "length", "()I"⟩ : MethodName) jdk_42_method_54_code 1 (Option.some FieldType.int) ({ frames := 1, cells := 0, slots := 0, locals := 13 } : Room) #[(.ref p0)] h0 [] (fun v h so => (v = some (.int (17 : Int32)) ∧ so = [] ∧ h0 = h)) := by
  refine Met.of (EWl V) (by first | decide +kernel | rfl) hO (L0 := #[.val (.ref p0)]) rfl ?_
  intro p e s m below meth c T H
  show Go p e below _ (T.setTop (mkF m 0 #[.val (.ref p0)] []))
  refine G.aloadN H dc_jdk_42_method_54_code_0 (pc' := 1) rfl rfl rfl ?_
  refine G.getF H (wd34 V) Via.refl f0 dc_jdk_42_method_54_code_1 (pc' := 4) rfl ?_
  intro T1 H2
  refine G.arrlen H2 f1 dc_jdk_42_method_54_code_4 (pc' := 5) rfl ?_
  refine G.aloadN H2 dc_jdk_42_method_54_code_5 (pc' := 6) rfl rfl rfl ?_
  refine G.callV H2 (m4_coder V p0 h0 H2.old f3) (wd45 V) (wd46 V) (nf_sel (wd48 V)) (wd48 V) (wd47 V) (wd5 V) (wd49 V) (by decide) f2 (argsL := []) (rest := [(.int (17 : Int32))]) (W := 1) rfl rfl (lenOf (pd_3) rfl) rfl rfl dc_jdk_42_method_54_code_6 (pc' := 9) rfl (by decide) (by decide) (by decide) (by decide) all0 ?_
  intro T3 h3_ v4 s5 H3 Q6
  obtain ⟨rfl, rfl, rfl⟩ := Q6
  show Go p e below _ (T3.setTop (mkF m 9 #[.val (.ref p0)] [(.int (0 : Int32)), (.int (17 : Int32))]))
  refine G.ishr H3 dc_jdk_42_method_54_code_9 (pc' := 10) rfl ?_
  show Go p e below _ (T3.setTop (mkF m 10 #[.val (.ref p0)] [(.int (17 : Int32))]))
  exact G.retI H3 rfl dc_jdk_42_method_54_code_10 (so := []) all0 (by decide) (by decide) ⟨rfl, rfl, rfl⟩
set_option maxRecDepth 65536 in
set_option maxHeartbeats 40000000 in
theorem m58_untimed {l : Launch} {Z : State} {a0 : Array Value} {n0 : Nat} {z_COMPACT_STRINGS : Int32} {z_SIOOBE_FORMATTER : Value} (V : Env1 Z a0 n0 z_COMPACT_STRINGS z_SIOOBE_FORMATTER) (p0 : Addr) (p1 : Addr) (c0 : ClassId) (x0 : Int32) (x1 : Int32) (x2 : Int32) (x3 : Int32) (x4 : Int32) (x5 : Int32) (x6 : Int32) (x7 : Int32) (x8 : Int32) (x9 : Int32) (x10 : Int32) (x11 : Int32) (x12 : Int32) (x13 : Int32) (x14 : Int32) (x15 : Int32) (x16 : Int32) (h0 : Heap) (hO : Old Z n0 h0) (f0 : Exa Z h0 p0 "java/lang/String") (f1 : Fld Z h0 p0 "java/lang/String" "value" "[B" (.ref p1)) (f2 : Arv Z h0 p1 c0 .byte (17 : Int32) [(.int x0), (.int x1), (.int x2), (.int x3), (.int x4), (.int x5), (.int x6), (.int x7), (.int x8), (.int x9), (.int x10), (.int x11), (.int x12), (.int x13), (.int x14), (.int x15), (.int x16)] (.int 0)) (f3 : Fld Z h0 p0 "java/lang/String" "coder" "B" (.int (0 : Int32))) :
    Met Z a0 ELs True n0 l (⟨"com/example/tenure/tenure/Days", "untimed", "(Ljava/lang/String;)Z"⟩ : MethodName) prog_14_method_4_code 1 (Option.some FieldType.boolean) ({ frames := 2, cells := 2, slots := 44, locals := 26 } : Room) #[(.ref p0)] h0 [p0, p1] (fun v h so => (v = some (.int (0 : Int32)) ∧ so = [] ∧ Keep h0 h [])) := by
  refine Met.of (EWl V) (by first | decide +kernel | rfl) hO (L0 := #[.val (.ref p0)]) rfl ?_
  intro p e s m below meth c T H
  show Go p e below _ (T.setTop (mkF m 0 #[.val (.ref p0)] []))
  refine G.aloadN H dc_prog_14_method_4_code_0 (pc' := 1) rfl rfl rfl ?_
  refine G.callV H (m57_length V p0 p1 c0 x0 x1 x2 x3 x4 x5 x6 x7 x8 x9 x10 x11 x12 x13 x14 x15 x16 h0 H.old f1 f2 f0 f3) (wd40 V) (wd41 V) (nf_sel (wd43 V)) (wd43 V) (wd42 V) (wd5 V) (wd44 V) (by decide) f0 (argsL := []) (rest := []) (W := 0) rfl rfl (lenOf (pd_4) rfl) rfl rfl dc_prog_14_method_4_code_1 (pc' := 4) rfl (by decide) (by decide) (by decide) (by decide) all0 ?_
  intro T1 h1_ v2 s3 H1 Q4
  obtain ⟨rfl, rfl, rfl⟩ := Q4
  show Go p e below _ (T1.setTop (mkF m 4 #[.val (.ref p0)] [(.int (17 : Int32))]))
  refine G.ldcS H1 trivial (wS V) (wd50 V) (by decide) (vs := [(.int (48 : Int32)), (.int (48 : Int32)), (.int (48 : Int32)), (.int (48 : Int32)), (.int (45 : Int32)), (.int (48 : Int32)), (.int (48 : Int32)), (.int (45 : Int32)), (.int (48 : Int32)), (.int (48 : Int32))]) (z := (10 : Int32)) (by decide) (by decide) rfl (n := 40) (by decide) (by decide) (by decide) (by decide) dc_prog_14_method_4_code_4 (pc' := 6) rfl ?_
  intro T5 h5_ a6 b8 k9 H5 E7 X10 F11 F12 A13 Q14
  have S15 : Str Z h5_ a6 b8 k9 [(48 : Int32), (48 : Int32), (48 : Int32), (48 : Int32), (45 : Int32), (48 : Int32), (48 : Int32), (45 : Int32), (48 : Int32), (48 : Int32)] := ⟨X10, F11, F12, A13, by decide, by decide⟩
  show Go p e below _ (T5.setTop (mkF m 6 #[.val (.ref p0)] [(.ref a6), (.int (17 : Int32))]))
  refine G.callV H5 (m6_length V a6 b8 k9 h5_ H5.old F12 A13 X10 F11) (wd40 V) (wd41 V) (nf_sel (wd43 V)) (wd43 V) (wd42 V) (wd5 V) (wd44 V) (by decide) X10 (argsL := []) (rest := [(.int (17 : Int32))]) (W := 1) rfl rfl (lenOf (pd_4) rfl) rfl rfl dc_prog_14_method_4_code_6 (pc' := 9) rfl (by decide) (by decide) (by decide) (by decide) all0 ?_
  intro T16 h16_ v17 s18 H16 Q19
  obtain ⟨rfl, rfl, rfl⟩ := Q19
  show Go p e below _ (T16.setTop (mkF m 9 #[.val (.ref p0)] [(.int (10 : Int32)), (.int (17 : Int32))]))
  refine G.icmpYes H16 dc_prog_14_method_4_code_9 (by decide) (by decide) (pc' := 16) rfl ?_
  refine G.iconst H16 dc_prog_14_method_4_code_16 (pc' := 17) rfl (v := (0 : Int32)) rfl ?_
  have K20 : Keep h0 h5_ [] := (Keep.ext (Keep.refl h0 []) E7)
  exact G.retN H16 (t := .boolean) rfl (by decide) dc_prog_14_method_4_code_17 (so := []) all0 (by decide) (by decide) ⟨rfl, rfl, K20⟩
set_option maxRecDepth 65536 in
set_option maxHeartbeats 40000000 in
theorem m59_prefix {l : Launch} {Z : State} {a0 : Array Value} {n0 : Nat} {z_COMPACT_STRINGS : Int32} {z_SIOOBE_FORMATTER : Value} (V : Env1 Z a0 n0 z_COMPACT_STRINGS z_SIOOBE_FORMATTER) (p0 : Addr) (c0 : ClassId) (x0 : Int32) (x1 : Int32) (x2 : Int32) (x3 : Int32) (x4 : Int32) (x5 : Int32) (x6 : Int32) (x7 : Int32) (x8 : Int32) (x9 : Int32) (x10 : Int32) (x11 : Int32) (x12 : Int32) (x13 : Int32) (x14 : Int32) (x15 : Int32) (x16 : Int32) (x17 : Int32) (x18 : Int32) (x19 : Int32) (h0 : Heap) (hO : Old Z n0 h0) (f0 : Arv Z h0 p0 c0 .char (20 : Int32) [(.int x0), (.int x1), (.int x2), (.int x3), (.int x4), (.int x5), (.int x6), (.int x7), (.int x8), (.int x9), (.int x10), (.int x11), (.int x12), (.int x13), (.int x14), (.int x15), (.int x16), (.int x17), (.int x18), (.int x19)] (.int 0)) (r1 : ¬ x17 < 0 ∧ ¬ (65535 : Int32) < x17) (r2 : ¬ x16 < 0 ∧ ¬ (65535 : Int32) < x16) (r3 : ¬ x15 < 0 ∧ ¬ (65535 : Int32) < x15) (r4 : ¬ x14 < 0 ∧ ¬ (65535 : Int32) < x14) (r5 : ¬ x13 < 0 ∧ ¬ (65535 : Int32) < x13) (r6 : ¬ x12 < 0 ∧ ¬ (65535 : Int32) < x12) (r7 : ¬ x11 < 0 ∧ ¬ (65535 : Int32) < x11) (r8 : ¬ x10 < 0 ∧ ¬ (65535 : Int32) < x10) (r9 : ¬ x9 < 0 ∧ ¬ (65535 : Int32) < x9) (r10 : ¬ x8 < 0 ∧ ¬ (65535 : Int32) < x8) (r11 : ¬ x7 < 0 ∧ ¬ (65535 : Int32) < x7) (r12 : ¬ x6 < 0 ∧ ¬ (65535 : Int32) < x6) (r13 : ¬ x5 < 0 ∧ ¬ (65535 : Int32) < x5) (r14 : ¬ x4 < 0 ∧ ¬ (65535 : Int32) < x4) (r15 : ¬ x3 < 0 ∧ ¬ (65535 : Int32) < x3) (r16 : ¬ x2 < 0 ∧ ¬ (65535 : Int32) < x2) (r17 : ¬ x1 < 0 ∧ ¬ (65535 : Int32) < x1) (r18 : ¬ x0 < 0 ∧ ¬ (65535 : Int32) < x0) :
    Met Z a0 ELs True n0 l (⟨"com/example/tenure/tenure/DaysUntimedPinLaw", "prefix", "([CI)[C"⟩ : MethodName) method_3_code 3 (Option.some (FieldType.array FieldType.char)) ({ frames := 0, cells := 1, slots := 18, locals := 0 } : Room) #[(.ref p0), (.int (18 : Int32))] h0 [] (fun v h so => (∃ a2 : Addr, ∃ k5 : ClassId, v = some (.ref a2) ∧ so = [] ∧ Keep h0 h [] ∧ h0.size ≤ a2 ∧ Arv Z h a2 k5 .char (18 : Int32) [(.int x0), (.int x1), (.int x2), (.int x3), (.int x4), (.int x5), (.int x6), (.int x7), (.int x8), (.int x9), (.int x10), (.int x11), (.int x12), (.int x13), (.int x14), (.int x15), (.int x16), (.int x17)] (.int 0))) := by
  refine Met.of (EWl V) (by first | decide +kernel | rfl) hO (L0 := #[.val (.ref p0), .val (.int (18 : Int32)), .unset]) rfl ?_
  intro p e s m below meth c T H
  show Go p e below _ (T.setTop (mkF m 0 #[.val (.ref p0), .val (.int (18 : Int32)), .unset] []))
  refine G.iloadN H dc_method_3_code_0 (pc' := 1) rfl rfl ?_
  refine G.newP H (aty := .char) (wd0 V) dc_method_3_code_1 (pc' := 3) rfl (by decide) (cap := 18) (by decide) (by decide) (by decide) (by decide) (vs := [(.int (0 : Int32)), (.int (0 : Int32)), (.int (0 : Int32)), (.int (0 : Int32)), (.int (0 : Int32)), (.int (0 : Int32)), (.int (0 : Int32)), (.int (0 : Int32)), (.int (0 : Int32)), (.int (0 : Int32)), (.int (0 : Int32)), (.int (0 : Int32)), (.int (0 : Int32)), (.int (0 : Int32)), (.int (0 : Int32)), (.int (0 : Int32)), (.int (0 : Int32)), (.int (0 : Int32))]) rfl ?_
  intro T1 h1_ a2 k5 ga2 H1 E3 A4
  have na2 : n0 ≤ a2 := Nat.le_trans H.le (Nat.le_of_eq ga2.symm)
  replace A4 : Arv Z h1_ a2 k5 .char (18 : Int32) [(.int (0 : Int32)), (.int (0 : Int32)), (.int (0 : Int32)), (.int (0 : Int32)), (.int (0 : Int32)), (.int (0 : Int32)), (.int (0 : Int32)), (.int (0 : Int32)), (.int (0 : Int32)), (.int (0 : Int32)), (.int (0 : Int32)), (.int (0 : Int32)), (.int (0 : Int32)), (.int (0 : Int32)), (.int (0 : Int32)), (.int (0 : Int32)), (.int (0 : Int32)), (.int (0 : Int32))] (.int 0) := A4
  show Go p e below _ (T1.setTop (mkF m 3 #[.val (.ref p0), .val (.int (18 : Int32)), .unset] [(.ref a2)]))
  refine G.astoreN H1 (L' := #[.val (.ref p0), .val (.int (18 : Int32)), .val (.ref a2)]) dc_method_3_code_3 (pc' := 4) rfl rfl rfl ?_
  refine G.iloadN H1 dc_method_3_code_4 (pc' := 5) rfl rfl ?_
  refine G.tswIn H1 dc_method_3_code_5 (by decide) (o := 111) rfl (by decide) (pc' := 116) rfl ?_
  refine G.aloadN H1 dc_method_3_code_116 (pc' := 117) rfl rfl rfl ?_
  refine G.bipush H1 dc_method_3_code_117 (pc' := 119) rfl (v := (17 : Int32)) rfl ?_
  refine G.aloadN H1 dc_method_3_code_119 (pc' := 120) rfl rfl rfl ?_
  refine G.bipush H1 dc_method_3_code_120 (pc' := 122) rfl (v := (17 : Int32)) rfl ?_
  have F6 : Arv Z h1_ p0 c0 .char (20 : Int32) [(.int x0), (.int x1), (.int x2), (.int x3), (.int x4), (.int x5), (.int x6), (.int x7), (.int x8), (.int x9), (.int x10), (.int x11), (.int x12), (.int x13), (.int x14), (.int x15), (.int x16), (.int x17), (.int x18), (.int x19)] (.int 0) := (Arv.ext f0 E3)
  refine G.caloadG H1 F6 (j := (17 : Int32)) (v := (.int x17)) (by decide) rfl dc_method_3_code_122 (pc' := 123) rfl ?_
  refine G.stC H1 A4 (by decide) (i := 17) rfl (Nat.le_of_ble_eq_true rfl) na2 (y := x17) (own_narC r1) dc_method_3_code_123 (pc' := 124) rfl ?_
  intro T7 h7_ H7 W8 A9
  replace A9 : Arv Z h7_ a2 k5 .char (18 : Int32) [(.int (0 : Int32)), (.int (0 : Int32)), (.int (0 : Int32)), (.int (0 : Int32)), (.int (0 : Int32)), (.int (0 : Int32)), (.int (0 : Int32)), (.int (0 : Int32)), (.int (0 : Int32)), (.int (0 : Int32)), (.int (0 : Int32)), (.int (0 : Int32)), (.int (0 : Int32)), (.int (0 : Int32)), (.int (0 : Int32)), (.int (0 : Int32)), (.int (0 : Int32)), (.int x17)] (.int 0) := A9
  show Go p e below _ (T7.setTop (mkF m 124 #[.val (.ref p0), .val (.int (18 : Int32)), .val (.ref a2)] []))
  refine G.aloadN H7 dc_method_3_code_124 (pc' := 125) rfl rfl rfl ?_
  refine G.bipush H7 dc_method_3_code_125 (pc' := 127) rfl (v := (16 : Int32)) rfl ?_
  refine G.aloadN H7 dc_method_3_code_127 (pc' := 128) rfl rfl rfl ?_
  refine G.bipush H7 dc_method_3_code_128 (pc' := 130) rfl (v := (16 : Int32)) rfl ?_
  have N10 : p0 ≠ a2 := (Nat.ne_of_lt (Nat.lt_of_lt_of_le f0.lt (Nat.le_of_eq ga2.symm)))
  have F11 : Arv Z h7_ p0 c0 .char (20 : Int32) [(.int x0), (.int x1), (.int x2), (.int x3), (.int x4), (.int x5), (.int x6), (.int x7), (.int x8), (.int x9), (.int x10), (.int x11), (.int x12), (.int x13), (.int x14), (.int x15), (.int x16), (.int x17), (.int x18), (.int x19)] (.int 0) := (Arv.other F6 W8 N10)
  refine G.caloadG H7 F11 (j := (16 : Int32)) (v := (.int x16)) (by decide) rfl dc_method_3_code_130 (pc' := 131) rfl ?_
  refine G.stC H7 A9 (by decide) (i := 16) rfl (Nat.le_of_ble_eq_true rfl) na2 (y := x16) (own_narC r2) dc_method_3_code_131 (pc' := 132) rfl ?_
  intro T12 h12_ H12 W13 A14
  replace A14 : Arv Z h12_ a2 k5 .char (18 : Int32) [(.int (0 : Int32)), (.int (0 : Int32)), (.int (0 : Int32)), (.int (0 : Int32)), (.int (0 : Int32)), (.int (0 : Int32)), (.int (0 : Int32)), (.int (0 : Int32)), (.int (0 : Int32)), (.int (0 : Int32)), (.int (0 : Int32)), (.int (0 : Int32)), (.int (0 : Int32)), (.int (0 : Int32)), (.int (0 : Int32)), (.int (0 : Int32)), (.int x16), (.int x17)] (.int 0) := A14
  show Go p e below _ (T12.setTop (mkF m 132 #[.val (.ref p0), .val (.int (18 : Int32)), .val (.ref a2)] []))
  refine G.aloadN H12 dc_method_3_code_132 (pc' := 133) rfl rfl rfl ?_
  refine G.bipush H12 dc_method_3_code_133 (pc' := 135) rfl (v := (15 : Int32)) rfl ?_
  refine G.aloadN H12 dc_method_3_code_135 (pc' := 136) rfl rfl rfl ?_
  refine G.bipush H12 dc_method_3_code_136 (pc' := 138) rfl (v := (15 : Int32)) rfl ?_
  have F15 : Arv Z h12_ p0 c0 .char (20 : Int32) [(.int x0), (.int x1), (.int x2), (.int x3), (.int x4), (.int x5), (.int x6), (.int x7), (.int x8), (.int x9), (.int x10), (.int x11), (.int x12), (.int x13), (.int x14), (.int x15), (.int x16), (.int x17), (.int x18), (.int x19)] (.int 0) := (Arv.other F11 W13 N10)
  refine G.caloadG H12 F15 (j := (15 : Int32)) (v := (.int x15)) (by decide) rfl dc_method_3_code_138 (pc' := 139) rfl ?_
  refine G.stC H12 A14 (by decide) (i := 15) rfl (Nat.le_of_ble_eq_true rfl) na2 (y := x15) (own_narC r3) dc_method_3_code_139 (pc' := 140) rfl ?_
  intro T16 h16_ H16 W17 A18
  replace A18 : Arv Z h16_ a2 k5 .char (18 : Int32) [(.int (0 : Int32)), (.int (0 : Int32)), (.int (0 : Int32)), (.int (0 : Int32)), (.int (0 : Int32)), (.int (0 : Int32)), (.int (0 : Int32)), (.int (0 : Int32)), (.int (0 : Int32)), (.int (0 : Int32)), (.int (0 : Int32)), (.int (0 : Int32)), (.int (0 : Int32)), (.int (0 : Int32)), (.int (0 : Int32)), (.int x15), (.int x16), (.int x17)] (.int 0) := A18
  show Go p e below _ (T16.setTop (mkF m 140 #[.val (.ref p0), .val (.int (18 : Int32)), .val (.ref a2)] []))
  refine G.aloadN H16 dc_method_3_code_140 (pc' := 141) rfl rfl rfl ?_
  refine G.bipush H16 dc_method_3_code_141 (pc' := 143) rfl (v := (14 : Int32)) rfl ?_
  refine G.aloadN H16 dc_method_3_code_143 (pc' := 144) rfl rfl rfl ?_
  refine G.bipush H16 dc_method_3_code_144 (pc' := 146) rfl (v := (14 : Int32)) rfl ?_
  have F19 : Arv Z h16_ p0 c0 .char (20 : Int32) [(.int x0), (.int x1), (.int x2), (.int x3), (.int x4), (.int x5), (.int x6), (.int x7), (.int x8), (.int x9), (.int x10), (.int x11), (.int x12), (.int x13), (.int x14), (.int x15), (.int x16), (.int x17), (.int x18), (.int x19)] (.int 0) := (Arv.other F15 W17 N10)
  refine G.caloadG H16 F19 (j := (14 : Int32)) (v := (.int x14)) (by decide) rfl dc_method_3_code_146 (pc' := 147) rfl ?_
  refine G.stC H16 A18 (by decide) (i := 14) rfl (Nat.le_of_ble_eq_true rfl) na2 (y := x14) (own_narC r4) dc_method_3_code_147 (pc' := 148) rfl ?_
  intro T20 h20_ H20 W21 A22
  replace A22 : Arv Z h20_ a2 k5 .char (18 : Int32) [(.int (0 : Int32)), (.int (0 : Int32)), (.int (0 : Int32)), (.int (0 : Int32)), (.int (0 : Int32)), (.int (0 : Int32)), (.int (0 : Int32)), (.int (0 : Int32)), (.int (0 : Int32)), (.int (0 : Int32)), (.int (0 : Int32)), (.int (0 : Int32)), (.int (0 : Int32)), (.int (0 : Int32)), (.int x14), (.int x15), (.int x16), (.int x17)] (.int 0) := A22
  show Go p e below _ (T20.setTop (mkF m 148 #[.val (.ref p0), .val (.int (18 : Int32)), .val (.ref a2)] []))
  refine G.aloadN H20 dc_method_3_code_148 (pc' := 149) rfl rfl rfl ?_
  refine G.bipush H20 dc_method_3_code_149 (pc' := 151) rfl (v := (13 : Int32)) rfl ?_
  refine G.aloadN H20 dc_method_3_code_151 (pc' := 152) rfl rfl rfl ?_
  refine G.bipush H20 dc_method_3_code_152 (pc' := 154) rfl (v := (13 : Int32)) rfl ?_
  have F23 : Arv Z h20_ p0 c0 .char (20 : Int32) [(.int x0), (.int x1), (.int x2), (.int x3), (.int x4), (.int x5), (.int x6), (.int x7), (.int x8), (.int x9), (.int x10), (.int x11), (.int x12), (.int x13), (.int x14), (.int x15), (.int x16), (.int x17), (.int x18), (.int x19)] (.int 0) := (Arv.other F19 W21 N10)
  refine G.caloadG H20 F23 (j := (13 : Int32)) (v := (.int x13)) (by decide) rfl dc_method_3_code_154 (pc' := 155) rfl ?_
  refine G.stC H20 A22 (by decide) (i := 13) rfl (Nat.le_of_ble_eq_true rfl) na2 (y := x13) (own_narC r5) dc_method_3_code_155 (pc' := 156) rfl ?_
  intro T24 h24_ H24 W25 A26
  replace A26 : Arv Z h24_ a2 k5 .char (18 : Int32) [(.int (0 : Int32)), (.int (0 : Int32)), (.int (0 : Int32)), (.int (0 : Int32)), (.int (0 : Int32)), (.int (0 : Int32)), (.int (0 : Int32)), (.int (0 : Int32)), (.int (0 : Int32)), (.int (0 : Int32)), (.int (0 : Int32)), (.int (0 : Int32)), (.int (0 : Int32)), (.int x13), (.int x14), (.int x15), (.int x16), (.int x17)] (.int 0) := A26
  show Go p e below _ (T24.setTop (mkF m 156 #[.val (.ref p0), .val (.int (18 : Int32)), .val (.ref a2)] []))
  refine G.aloadN H24 dc_method_3_code_156 (pc' := 157) rfl rfl rfl ?_
  refine G.bipush H24 dc_method_3_code_157 (pc' := 159) rfl (v := (12 : Int32)) rfl ?_
  refine G.aloadN H24 dc_method_3_code_159 (pc' := 160) rfl rfl rfl ?_
  refine G.bipush H24 dc_method_3_code_160 (pc' := 162) rfl (v := (12 : Int32)) rfl ?_
  have F27 : Arv Z h24_ p0 c0 .char (20 : Int32) [(.int x0), (.int x1), (.int x2), (.int x3), (.int x4), (.int x5), (.int x6), (.int x7), (.int x8), (.int x9), (.int x10), (.int x11), (.int x12), (.int x13), (.int x14), (.int x15), (.int x16), (.int x17), (.int x18), (.int x19)] (.int 0) := (Arv.other F23 W25 N10)
  refine G.caloadG H24 F27 (j := (12 : Int32)) (v := (.int x12)) (by decide) rfl dc_method_3_code_162 (pc' := 163) rfl ?_
  refine G.stC H24 A26 (by decide) (i := 12) rfl (Nat.le_of_ble_eq_true rfl) na2 (y := x12) (own_narC r6) dc_method_3_code_163 (pc' := 164) rfl ?_
  intro T28 h28_ H28 W29 A30
  replace A30 : Arv Z h28_ a2 k5 .char (18 : Int32) [(.int (0 : Int32)), (.int (0 : Int32)), (.int (0 : Int32)), (.int (0 : Int32)), (.int (0 : Int32)), (.int (0 : Int32)), (.int (0 : Int32)), (.int (0 : Int32)), (.int (0 : Int32)), (.int (0 : Int32)), (.int (0 : Int32)), (.int (0 : Int32)), (.int x12), (.int x13), (.int x14), (.int x15), (.int x16), (.int x17)] (.int 0) := A30
  show Go p e below _ (T28.setTop (mkF m 164 #[.val (.ref p0), .val (.int (18 : Int32)), .val (.ref a2)] []))
  refine G.aloadN H28 dc_method_3_code_164 (pc' := 165) rfl rfl rfl ?_
  refine G.bipush H28 dc_method_3_code_165 (pc' := 167) rfl (v := (11 : Int32)) rfl ?_
  refine G.aloadN H28 dc_method_3_code_167 (pc' := 168) rfl rfl rfl ?_
  refine G.bipush H28 dc_method_3_code_168 (pc' := 170) rfl (v := (11 : Int32)) rfl ?_
  have F31 : Arv Z h28_ p0 c0 .char (20 : Int32) [(.int x0), (.int x1), (.int x2), (.int x3), (.int x4), (.int x5), (.int x6), (.int x7), (.int x8), (.int x9), (.int x10), (.int x11), (.int x12), (.int x13), (.int x14), (.int x15), (.int x16), (.int x17), (.int x18), (.int x19)] (.int 0) := (Arv.other F27 W29 N10)
  refine G.caloadG H28 F31 (j := (11 : Int32)) (v := (.int x11)) (by decide) rfl dc_method_3_code_170 (pc' := 171) rfl ?_
  refine G.stC H28 A30 (by decide) (i := 11) rfl (Nat.le_of_ble_eq_true rfl) na2 (y := x11) (own_narC r7) dc_method_3_code_171 (pc' := 172) rfl ?_
  intro T32 h32_ H32 W33 A34
  replace A34 : Arv Z h32_ a2 k5 .char (18 : Int32) [(.int (0 : Int32)), (.int (0 : Int32)), (.int (0 : Int32)), (.int (0 : Int32)), (.int (0 : Int32)), (.int (0 : Int32)), (.int (0 : Int32)), (.int (0 : Int32)), (.int (0 : Int32)), (.int (0 : Int32)), (.int (0 : Int32)), (.int x11), (.int x12), (.int x13), (.int x14), (.int x15), (.int x16), (.int x17)] (.int 0) := A34
  show Go p e below _ (T32.setTop (mkF m 172 #[.val (.ref p0), .val (.int (18 : Int32)), .val (.ref a2)] []))
  refine G.aloadN H32 dc_method_3_code_172 (pc' := 173) rfl rfl rfl ?_
  refine G.bipush H32 dc_method_3_code_173 (pc' := 175) rfl (v := (10 : Int32)) rfl ?_
  refine G.aloadN H32 dc_method_3_code_175 (pc' := 176) rfl rfl rfl ?_
  refine G.bipush H32 dc_method_3_code_176 (pc' := 178) rfl (v := (10 : Int32)) rfl ?_
  have F35 : Arv Z h32_ p0 c0 .char (20 : Int32) [(.int x0), (.int x1), (.int x2), (.int x3), (.int x4), (.int x5), (.int x6), (.int x7), (.int x8), (.int x9), (.int x10), (.int x11), (.int x12), (.int x13), (.int x14), (.int x15), (.int x16), (.int x17), (.int x18), (.int x19)] (.int 0) := (Arv.other F31 W33 N10)
  refine G.caloadG H32 F35 (j := (10 : Int32)) (v := (.int x10)) (by decide) rfl dc_method_3_code_178 (pc' := 179) rfl ?_
  refine G.stC H32 A34 (by decide) (i := 10) rfl (Nat.le_of_ble_eq_true rfl) na2 (y := x10) (own_narC r8) dc_method_3_code_179 (pc' := 180) rfl ?_
  intro T36 h36_ H36 W37 A38
  replace A38 : Arv Z h36_ a2 k5 .char (18 : Int32) [(.int (0 : Int32)), (.int (0 : Int32)), (.int (0 : Int32)), (.int (0 : Int32)), (.int (0 : Int32)), (.int (0 : Int32)), (.int (0 : Int32)), (.int (0 : Int32)), (.int (0 : Int32)), (.int (0 : Int32)), (.int x10), (.int x11), (.int x12), (.int x13), (.int x14), (.int x15), (.int x16), (.int x17)] (.int 0) := A38
  show Go p e below _ (T36.setTop (mkF m 180 #[.val (.ref p0), .val (.int (18 : Int32)), .val (.ref a2)] []))
  refine G.aloadN H36 dc_method_3_code_180 (pc' := 181) rfl rfl rfl ?_
  refine G.bipush H36 dc_method_3_code_181 (pc' := 183) rfl (v := (9 : Int32)) rfl ?_
  refine G.aloadN H36 dc_method_3_code_183 (pc' := 184) rfl rfl rfl ?_
  refine G.bipush H36 dc_method_3_code_184 (pc' := 186) rfl (v := (9 : Int32)) rfl ?_
  have F39 : Arv Z h36_ p0 c0 .char (20 : Int32) [(.int x0), (.int x1), (.int x2), (.int x3), (.int x4), (.int x5), (.int x6), (.int x7), (.int x8), (.int x9), (.int x10), (.int x11), (.int x12), (.int x13), (.int x14), (.int x15), (.int x16), (.int x17), (.int x18), (.int x19)] (.int 0) := (Arv.other F35 W37 N10)
  refine G.caloadG H36 F39 (j := (9 : Int32)) (v := (.int x9)) (by decide) rfl dc_method_3_code_186 (pc' := 187) rfl ?_
  refine G.stC H36 A38 (by decide) (i := 9) rfl (Nat.le_of_ble_eq_true rfl) na2 (y := x9) (own_narC r9) dc_method_3_code_187 (pc' := 188) rfl ?_
  intro T40 h40_ H40 W41 A42
  replace A42 : Arv Z h40_ a2 k5 .char (18 : Int32) [(.int (0 : Int32)), (.int (0 : Int32)), (.int (0 : Int32)), (.int (0 : Int32)), (.int (0 : Int32)), (.int (0 : Int32)), (.int (0 : Int32)), (.int (0 : Int32)), (.int (0 : Int32)), (.int x9), (.int x10), (.int x11), (.int x12), (.int x13), (.int x14), (.int x15), (.int x16), (.int x17)] (.int 0) := A42
  show Go p e below _ (T40.setTop (mkF m 188 #[.val (.ref p0), .val (.int (18 : Int32)), .val (.ref a2)] []))
  refine G.aloadN H40 dc_method_3_code_188 (pc' := 189) rfl rfl rfl ?_
  refine G.bipush H40 dc_method_3_code_189 (pc' := 191) rfl (v := (8 : Int32)) rfl ?_
  refine G.aloadN H40 dc_method_3_code_191 (pc' := 192) rfl rfl rfl ?_
  refine G.bipush H40 dc_method_3_code_192 (pc' := 194) rfl (v := (8 : Int32)) rfl ?_
  have F43 : Arv Z h40_ p0 c0 .char (20 : Int32) [(.int x0), (.int x1), (.int x2), (.int x3), (.int x4), (.int x5), (.int x6), (.int x7), (.int x8), (.int x9), (.int x10), (.int x11), (.int x12), (.int x13), (.int x14), (.int x15), (.int x16), (.int x17), (.int x18), (.int x19)] (.int 0) := (Arv.other F39 W41 N10)
  refine G.caloadG H40 F43 (j := (8 : Int32)) (v := (.int x8)) (by decide) rfl dc_method_3_code_194 (pc' := 195) rfl ?_
  refine G.stC H40 A42 (by decide) (i := 8) rfl (Nat.le_of_ble_eq_true rfl) na2 (y := x8) (own_narC r10) dc_method_3_code_195 (pc' := 196) rfl ?_
  intro T44 h44_ H44 W45 A46
  replace A46 : Arv Z h44_ a2 k5 .char (18 : Int32) [(.int (0 : Int32)), (.int (0 : Int32)), (.int (0 : Int32)), (.int (0 : Int32)), (.int (0 : Int32)), (.int (0 : Int32)), (.int (0 : Int32)), (.int (0 : Int32)), (.int x8), (.int x9), (.int x10), (.int x11), (.int x12), (.int x13), (.int x14), (.int x15), (.int x16), (.int x17)] (.int 0) := A46
  show Go p e below _ (T44.setTop (mkF m 196 #[.val (.ref p0), .val (.int (18 : Int32)), .val (.ref a2)] []))
  refine G.aloadN H44 dc_method_3_code_196 (pc' := 197) rfl rfl rfl ?_
  refine G.bipush H44 dc_method_3_code_197 (pc' := 199) rfl (v := (7 : Int32)) rfl ?_
  refine G.aloadN H44 dc_method_3_code_199 (pc' := 200) rfl rfl rfl ?_
  refine G.bipush H44 dc_method_3_code_200 (pc' := 202) rfl (v := (7 : Int32)) rfl ?_
  have F47 : Arv Z h44_ p0 c0 .char (20 : Int32) [(.int x0), (.int x1), (.int x2), (.int x3), (.int x4), (.int x5), (.int x6), (.int x7), (.int x8), (.int x9), (.int x10), (.int x11), (.int x12), (.int x13), (.int x14), (.int x15), (.int x16), (.int x17), (.int x18), (.int x19)] (.int 0) := (Arv.other F43 W45 N10)
  refine G.caloadG H44 F47 (j := (7 : Int32)) (v := (.int x7)) (by decide) rfl dc_method_3_code_202 (pc' := 203) rfl ?_
  refine G.stC H44 A46 (by decide) (i := 7) rfl (Nat.le_of_ble_eq_true rfl) na2 (y := x7) (own_narC r11) dc_method_3_code_203 (pc' := 204) rfl ?_
  intro T48 h48_ H48 W49 A50
  replace A50 : Arv Z h48_ a2 k5 .char (18 : Int32) [(.int (0 : Int32)), (.int (0 : Int32)), (.int (0 : Int32)), (.int (0 : Int32)), (.int (0 : Int32)), (.int (0 : Int32)), (.int (0 : Int32)), (.int x7), (.int x8), (.int x9), (.int x10), (.int x11), (.int x12), (.int x13), (.int x14), (.int x15), (.int x16), (.int x17)] (.int 0) := A50
  show Go p e below _ (T48.setTop (mkF m 204 #[.val (.ref p0), .val (.int (18 : Int32)), .val (.ref a2)] []))
  refine G.aloadN H48 dc_method_3_code_204 (pc' := 205) rfl rfl rfl ?_
  refine G.bipush H48 dc_method_3_code_205 (pc' := 207) rfl (v := (6 : Int32)) rfl ?_
  refine G.aloadN H48 dc_method_3_code_207 (pc' := 208) rfl rfl rfl ?_
  refine G.bipush H48 dc_method_3_code_208 (pc' := 210) rfl (v := (6 : Int32)) rfl ?_
  have F51 : Arv Z h48_ p0 c0 .char (20 : Int32) [(.int x0), (.int x1), (.int x2), (.int x3), (.int x4), (.int x5), (.int x6), (.int x7), (.int x8), (.int x9), (.int x10), (.int x11), (.int x12), (.int x13), (.int x14), (.int x15), (.int x16), (.int x17), (.int x18), (.int x19)] (.int 0) := (Arv.other F47 W49 N10)
  refine G.caloadG H48 F51 (j := (6 : Int32)) (v := (.int x6)) (by decide) rfl dc_method_3_code_210 (pc' := 211) rfl ?_
  refine G.stC H48 A50 (by decide) (i := 6) rfl (Nat.le_of_ble_eq_true rfl) na2 (y := x6) (own_narC r12) dc_method_3_code_211 (pc' := 212) rfl ?_
  intro T52 h52_ H52 W53 A54
  replace A54 : Arv Z h52_ a2 k5 .char (18 : Int32) [(.int (0 : Int32)), (.int (0 : Int32)), (.int (0 : Int32)), (.int (0 : Int32)), (.int (0 : Int32)), (.int (0 : Int32)), (.int x6), (.int x7), (.int x8), (.int x9), (.int x10), (.int x11), (.int x12), (.int x13), (.int x14), (.int x15), (.int x16), (.int x17)] (.int 0) := A54
  show Go p e below _ (T52.setTop (mkF m 212 #[.val (.ref p0), .val (.int (18 : Int32)), .val (.ref a2)] []))
  refine G.aloadN H52 dc_method_3_code_212 (pc' := 213) rfl rfl rfl ?_
  refine G.iconst H52 dc_method_3_code_213 (pc' := 214) rfl (v := (5 : Int32)) rfl ?_
  refine G.aloadN H52 dc_method_3_code_214 (pc' := 215) rfl rfl rfl ?_
  refine G.iconst H52 dc_method_3_code_215 (pc' := 216) rfl (v := (5 : Int32)) rfl ?_
  have F55 : Arv Z h52_ p0 c0 .char (20 : Int32) [(.int x0), (.int x1), (.int x2), (.int x3), (.int x4), (.int x5), (.int x6), (.int x7), (.int x8), (.int x9), (.int x10), (.int x11), (.int x12), (.int x13), (.int x14), (.int x15), (.int x16), (.int x17), (.int x18), (.int x19)] (.int 0) := (Arv.other F51 W53 N10)
  refine G.caloadG H52 F55 (j := (5 : Int32)) (v := (.int x5)) (by decide) rfl dc_method_3_code_216 (pc' := 217) rfl ?_
  refine G.stC H52 A54 (by decide) (i := 5) rfl (Nat.le_of_ble_eq_true rfl) na2 (y := x5) (own_narC r13) dc_method_3_code_217 (pc' := 218) rfl ?_
  intro T56 h56_ H56 W57 A58
  replace A58 : Arv Z h56_ a2 k5 .char (18 : Int32) [(.int (0 : Int32)), (.int (0 : Int32)), (.int (0 : Int32)), (.int (0 : Int32)), (.int (0 : Int32)), (.int x5), (.int x6), (.int x7), (.int x8), (.int x9), (.int x10), (.int x11), (.int x12), (.int x13), (.int x14), (.int x15), (.int x16), (.int x17)] (.int 0) := A58
  show Go p e below _ (T56.setTop (mkF m 218 #[.val (.ref p0), .val (.int (18 : Int32)), .val (.ref a2)] []))
  refine G.aloadN H56 dc_method_3_code_218 (pc' := 219) rfl rfl rfl ?_
  refine G.iconst H56 dc_method_3_code_219 (pc' := 220) rfl (v := (4 : Int32)) rfl ?_
  refine G.aloadN H56 dc_method_3_code_220 (pc' := 221) rfl rfl rfl ?_
  refine G.iconst H56 dc_method_3_code_221 (pc' := 222) rfl (v := (4 : Int32)) rfl ?_
  have F59 : Arv Z h56_ p0 c0 .char (20 : Int32) [(.int x0), (.int x1), (.int x2), (.int x3), (.int x4), (.int x5), (.int x6), (.int x7), (.int x8), (.int x9), (.int x10), (.int x11), (.int x12), (.int x13), (.int x14), (.int x15), (.int x16), (.int x17), (.int x18), (.int x19)] (.int 0) := (Arv.other F55 W57 N10)
  refine G.caloadG H56 F59 (j := (4 : Int32)) (v := (.int x4)) (by decide) rfl dc_method_3_code_222 (pc' := 223) rfl ?_
  refine G.stC H56 A58 (by decide) (i := 4) rfl (Nat.le_of_ble_eq_true rfl) na2 (y := x4) (own_narC r14) dc_method_3_code_223 (pc' := 224) rfl ?_
  intro T60 h60_ H60 W61 A62
  replace A62 : Arv Z h60_ a2 k5 .char (18 : Int32) [(.int (0 : Int32)), (.int (0 : Int32)), (.int (0 : Int32)), (.int (0 : Int32)), (.int x4), (.int x5), (.int x6), (.int x7), (.int x8), (.int x9), (.int x10), (.int x11), (.int x12), (.int x13), (.int x14), (.int x15), (.int x16), (.int x17)] (.int 0) := A62
  show Go p e below _ (T60.setTop (mkF m 224 #[.val (.ref p0), .val (.int (18 : Int32)), .val (.ref a2)] []))
  refine G.aloadN H60 dc_method_3_code_224 (pc' := 225) rfl rfl rfl ?_
  refine G.iconst H60 dc_method_3_code_225 (pc' := 226) rfl (v := (3 : Int32)) rfl ?_
  refine G.aloadN H60 dc_method_3_code_226 (pc' := 227) rfl rfl rfl ?_
  refine G.iconst H60 dc_method_3_code_227 (pc' := 228) rfl (v := (3 : Int32)) rfl ?_
  have F63 : Arv Z h60_ p0 c0 .char (20 : Int32) [(.int x0), (.int x1), (.int x2), (.int x3), (.int x4), (.int x5), (.int x6), (.int x7), (.int x8), (.int x9), (.int x10), (.int x11), (.int x12), (.int x13), (.int x14), (.int x15), (.int x16), (.int x17), (.int x18), (.int x19)] (.int 0) := (Arv.other F59 W61 N10)
  refine G.caloadG H60 F63 (j := (3 : Int32)) (v := (.int x3)) (by decide) rfl dc_method_3_code_228 (pc' := 229) rfl ?_
  refine G.stC H60 A62 (by decide) (i := 3) rfl (Nat.le_of_ble_eq_true rfl) na2 (y := x3) (own_narC r15) dc_method_3_code_229 (pc' := 230) rfl ?_
  intro T64 h64_ H64 W65 A66
  replace A66 : Arv Z h64_ a2 k5 .char (18 : Int32) [(.int (0 : Int32)), (.int (0 : Int32)), (.int (0 : Int32)), (.int x3), (.int x4), (.int x5), (.int x6), (.int x7), (.int x8), (.int x9), (.int x10), (.int x11), (.int x12), (.int x13), (.int x14), (.int x15), (.int x16), (.int x17)] (.int 0) := A66
  show Go p e below _ (T64.setTop (mkF m 230 #[.val (.ref p0), .val (.int (18 : Int32)), .val (.ref a2)] []))
  refine G.aloadN H64 dc_method_3_code_230 (pc' := 231) rfl rfl rfl ?_
  refine G.iconst H64 dc_method_3_code_231 (pc' := 232) rfl (v := (2 : Int32)) rfl ?_
  refine G.aloadN H64 dc_method_3_code_232 (pc' := 233) rfl rfl rfl ?_
  refine G.iconst H64 dc_method_3_code_233 (pc' := 234) rfl (v := (2 : Int32)) rfl ?_
  have F67 : Arv Z h64_ p0 c0 .char (20 : Int32) [(.int x0), (.int x1), (.int x2), (.int x3), (.int x4), (.int x5), (.int x6), (.int x7), (.int x8), (.int x9), (.int x10), (.int x11), (.int x12), (.int x13), (.int x14), (.int x15), (.int x16), (.int x17), (.int x18), (.int x19)] (.int 0) := (Arv.other F63 W65 N10)
  refine G.caloadG H64 F67 (j := (2 : Int32)) (v := (.int x2)) (by decide) rfl dc_method_3_code_234 (pc' := 235) rfl ?_
  refine G.stC H64 A66 (by decide) (i := 2) rfl (Nat.le_of_ble_eq_true rfl) na2 (y := x2) (own_narC r16) dc_method_3_code_235 (pc' := 236) rfl ?_
  intro T68 h68_ H68 W69 A70
  replace A70 : Arv Z h68_ a2 k5 .char (18 : Int32) [(.int (0 : Int32)), (.int (0 : Int32)), (.int x2), (.int x3), (.int x4), (.int x5), (.int x6), (.int x7), (.int x8), (.int x9), (.int x10), (.int x11), (.int x12), (.int x13), (.int x14), (.int x15), (.int x16), (.int x17)] (.int 0) := A70
  show Go p e below _ (T68.setTop (mkF m 236 #[.val (.ref p0), .val (.int (18 : Int32)), .val (.ref a2)] []))
  refine G.aloadN H68 dc_method_3_code_236 (pc' := 237) rfl rfl rfl ?_
  refine G.iconst H68 dc_method_3_code_237 (pc' := 238) rfl (v := (1 : Int32)) rfl ?_
  refine G.aloadN H68 dc_method_3_code_238 (pc' := 239) rfl rfl rfl ?_
  refine G.iconst H68 dc_method_3_code_239 (pc' := 240) rfl (v := (1 : Int32)) rfl ?_
  have F71 : Arv Z h68_ p0 c0 .char (20 : Int32) [(.int x0), (.int x1), (.int x2), (.int x3), (.int x4), (.int x5), (.int x6), (.int x7), (.int x8), (.int x9), (.int x10), (.int x11), (.int x12), (.int x13), (.int x14), (.int x15), (.int x16), (.int x17), (.int x18), (.int x19)] (.int 0) := (Arv.other F67 W69 N10)
  refine G.caloadG H68 F71 (j := (1 : Int32)) (v := (.int x1)) (by decide) rfl dc_method_3_code_240 (pc' := 241) rfl ?_
  refine G.stC H68 A70 (by decide) (i := 1) rfl (Nat.le_of_ble_eq_true rfl) na2 (y := x1) (own_narC r17) dc_method_3_code_241 (pc' := 242) rfl ?_
  intro T72 h72_ H72 W73 A74
  replace A74 : Arv Z h72_ a2 k5 .char (18 : Int32) [(.int (0 : Int32)), (.int x1), (.int x2), (.int x3), (.int x4), (.int x5), (.int x6), (.int x7), (.int x8), (.int x9), (.int x10), (.int x11), (.int x12), (.int x13), (.int x14), (.int x15), (.int x16), (.int x17)] (.int 0) := A74
  show Go p e below _ (T72.setTop (mkF m 242 #[.val (.ref p0), .val (.int (18 : Int32)), .val (.ref a2)] []))
  refine G.aloadN H72 dc_method_3_code_242 (pc' := 243) rfl rfl rfl ?_
  refine G.iconst H72 dc_method_3_code_243 (pc' := 244) rfl (v := (0 : Int32)) rfl ?_
  refine G.aloadN H72 dc_method_3_code_244 (pc' := 245) rfl rfl rfl ?_
  refine G.iconst H72 dc_method_3_code_245 (pc' := 246) rfl (v := (0 : Int32)) rfl ?_
  have F75 : Arv Z h72_ p0 c0 .char (20 : Int32) [(.int x0), (.int x1), (.int x2), (.int x3), (.int x4), (.int x5), (.int x6), (.int x7), (.int x8), (.int x9), (.int x10), (.int x11), (.int x12), (.int x13), (.int x14), (.int x15), (.int x16), (.int x17), (.int x18), (.int x19)] (.int 0) := (Arv.other F71 W73 N10)
  refine G.caloadG H72 F75 (j := (0 : Int32)) (v := (.int x0)) (by decide) rfl dc_method_3_code_246 (pc' := 247) rfl ?_
  refine G.stC H72 A74 (by decide) (i := 0) rfl (Nat.le_of_ble_eq_true rfl) na2 (y := x0) (own_narC r18) dc_method_3_code_247 (pc' := 248) rfl ?_
  intro T76 h76_ H76 W77 A78
  replace A78 : Arv Z h76_ a2 k5 .char (18 : Int32) [(.int x0), (.int x1), (.int x2), (.int x3), (.int x4), (.int x5), (.int x6), (.int x7), (.int x8), (.int x9), (.int x10), (.int x11), (.int x12), (.int x13), (.int x14), (.int x15), (.int x16), (.int x17)] (.int 0) := A78
  show Go p e below _ (T76.setTop (mkF m 248 #[.val (.ref p0), .val (.int (18 : Int32)), .val (.ref a2)] []))
  refine G.aloadN H76 dc_method_3_code_248 (pc' := 249) rfl rfl rfl ?_
  have K79 : Keep h0 h76_ [] := (Keep.wr (Keep.wr (Keep.wr (Keep.wr (Keep.wr (Keep.wr (Keep.wr (Keep.wr (Keep.wr (Keep.wr (Keep.wr (Keep.wr (Keep.wr (Keep.wr (Keep.wr (Keep.wr (Keep.wr (Keep.wr (Keep.ext (Keep.refl h0 []) E3) W8 (Or.inr (Nat.le_of_eq ga2.symm))) W13 (Or.inr (Nat.le_of_eq ga2.symm))) W17 (Or.inr (Nat.le_of_eq ga2.symm))) W21 (Or.inr (Nat.le_of_eq ga2.symm))) W25 (Or.inr (Nat.le_of_eq ga2.symm))) W29 (Or.inr (Nat.le_of_eq ga2.symm))) W33 (Or.inr (Nat.le_of_eq ga2.symm))) W37 (Or.inr (Nat.le_of_eq ga2.symm))) W41 (Or.inr (Nat.le_of_eq ga2.symm))) W45 (Or.inr (Nat.le_of_eq ga2.symm))) W49 (Or.inr (Nat.le_of_eq ga2.symm))) W53 (Or.inr (Nat.le_of_eq ga2.symm))) W57 (Or.inr (Nat.le_of_eq ga2.symm))) W61 (Or.inr (Nat.le_of_eq ga2.symm))) W65 (Or.inr (Nat.le_of_eq ga2.symm))) W69 (Or.inr (Nat.le_of_eq ga2.symm))) W73 (Or.inr (Nat.le_of_eq ga2.symm))) W77 (Or.inr (Nat.le_of_eq ga2.symm)))
  exact G.retA H76 (t := (.array .char)) rfl rfl rfl dc_method_3_code_249 (so := []) all0 (by decide) (by decide) ⟨a2, k5, rfl, rfl, K79, (Nat.le_of_eq ga2.symm), A78⟩
set_option maxRecDepth 65536 in
set_option maxHeartbeats 40000000 in
theorem m60_length {l : Launch} {Z : State} {a0 : Array Value} {n0 : Nat} {z_COMPACT_STRINGS : Int32} {z_SIOOBE_FORMATTER : Value} (V : Env1 Z a0 n0 z_COMPACT_STRINGS z_SIOOBE_FORMATTER) (p0 : Addr) (p1 : Addr) (c0 : ClassId) (x0 : Int32) (x1 : Int32) (x2 : Int32) (x3 : Int32) (x4 : Int32) (x5 : Int32) (x6 : Int32) (x7 : Int32) (x8 : Int32) (x9 : Int32) (x10 : Int32) (x11 : Int32) (x12 : Int32) (x13 : Int32) (x14 : Int32) (x15 : Int32) (x16 : Int32) (x17 : Int32) (h0 : Heap) (hO : Old Z n0 h0) (f0 : Fld Z h0 p0 "java/lang/String" "value" "[B" (.ref p1)) (f1 : Arv Z h0 p1 c0 .byte (18 : Int32) [(.int x0), (.int x1), (.int x2), (.int x3), (.int x4), (.int x5), (.int x6), (.int x7), (.int x8), (.int x9), (.int x10), (.int x11), (.int x12), (.int x13), (.int x14), (.int x15), (.int x16), (.int x17)] (.int 0)) (f2 : Exa Z h0 p0 "java/lang/String") (f3 : Fld Z h0 p0 "java/lang/String" "coder" "B" (.int (0 : Int32))) :
    Met Z a0 ELs True n0 l (⟨"java/lang/String", "length", "()I"⟩ : MethodName) jdk_42_method_54_code 1 (Option.some FieldType.int) ({ frames := 1, cells := 0, slots := 0, locals := 13 } : Room) #[(.ref p0)] h0 [] (fun v h so => (v = some (.int (18 : Int32)) ∧ so = [] ∧ h0 = h)) := by
  refine Met.of (EWl V) (by first | decide +kernel | rfl) hO (L0 := #[.val (.ref p0)]) rfl ?_
  intro p e s m below meth c T H
  show Go p e below _ (T.setTop (mkF m 0 #[.val (.ref p0)] []))
  refine G.aloadN H dc_jdk_42_method_54_code_0 (pc' := 1) rfl rfl rfl ?_
  refine G.getF H (wd34 V) Via.refl f0 dc_jdk_42_method_54_code_1 (pc' := 4) rfl ?_
  intro T1 H2
  refine G.arrlen H2 f1 dc_jdk_42_method_54_code_4 (pc' := 5) rfl ?_
  refine G.aloadN H2 dc_jdk_42_method_54_code_5 (pc' := 6) rfl rfl rfl ?_
  refine G.callV H2 (m4_coder V p0 h0 H2.old f3) (wd45 V) (wd46 V) (nf_sel (wd48 V)) (wd48 V) (wd47 V) (wd5 V) (wd49 V) (by decide) f2 (argsL := []) (rest := [(.int (18 : Int32))]) (W := 1) rfl rfl (lenOf (pd_3) rfl) rfl rfl dc_jdk_42_method_54_code_6 (pc' := 9) rfl (by decide) (by decide) (by decide) (by decide) all0 ?_
  intro T3 h3_ v4 s5 H3 Q6
  obtain ⟨rfl, rfl, rfl⟩ := Q6
  show Go p e below _ (T3.setTop (mkF m 9 #[.val (.ref p0)] [(.int (0 : Int32)), (.int (18 : Int32))]))
  refine G.ishr H3 dc_jdk_42_method_54_code_9 (pc' := 10) rfl ?_
  show Go p e below _ (T3.setTop (mkF m 10 #[.val (.ref p0)] [(.int (18 : Int32))]))
  exact G.retI H3 rfl dc_jdk_42_method_54_code_10 (so := []) all0 (by decide) (by decide) ⟨rfl, rfl, rfl⟩
set_option maxRecDepth 65536 in
set_option maxHeartbeats 40000000 in
theorem m61_untimed {l : Launch} {Z : State} {a0 : Array Value} {n0 : Nat} {z_COMPACT_STRINGS : Int32} {z_SIOOBE_FORMATTER : Value} (V : Env1 Z a0 n0 z_COMPACT_STRINGS z_SIOOBE_FORMATTER) (p0 : Addr) (p1 : Addr) (c0 : ClassId) (x0 : Int32) (x1 : Int32) (x2 : Int32) (x3 : Int32) (x4 : Int32) (x5 : Int32) (x6 : Int32) (x7 : Int32) (x8 : Int32) (x9 : Int32) (x10 : Int32) (x11 : Int32) (x12 : Int32) (x13 : Int32) (x14 : Int32) (x15 : Int32) (x16 : Int32) (x17 : Int32) (h0 : Heap) (hO : Old Z n0 h0) (f0 : Exa Z h0 p0 "java/lang/String") (f1 : Fld Z h0 p0 "java/lang/String" "value" "[B" (.ref p1)) (f2 : Arv Z h0 p1 c0 .byte (18 : Int32) [(.int x0), (.int x1), (.int x2), (.int x3), (.int x4), (.int x5), (.int x6), (.int x7), (.int x8), (.int x9), (.int x10), (.int x11), (.int x12), (.int x13), (.int x14), (.int x15), (.int x16), (.int x17)] (.int 0)) (f3 : Fld Z h0 p0 "java/lang/String" "coder" "B" (.int (0 : Int32))) :
    Met Z a0 ELs True n0 l (⟨"com/example/tenure/tenure/Days", "untimed", "(Ljava/lang/String;)Z"⟩ : MethodName) prog_14_method_4_code 1 (Option.some FieldType.boolean) ({ frames := 2, cells := 2, slots := 44, locals := 26 } : Room) #[(.ref p0)] h0 [p0, p1] (fun v h so => (v = some (.int (0 : Int32)) ∧ so = [] ∧ Keep h0 h [])) := by
  refine Met.of (EWl V) (by first | decide +kernel | rfl) hO (L0 := #[.val (.ref p0)]) rfl ?_
  intro p e s m below meth c T H
  show Go p e below _ (T.setTop (mkF m 0 #[.val (.ref p0)] []))
  refine G.aloadN H dc_prog_14_method_4_code_0 (pc' := 1) rfl rfl rfl ?_
  refine G.callV H (m60_length V p0 p1 c0 x0 x1 x2 x3 x4 x5 x6 x7 x8 x9 x10 x11 x12 x13 x14 x15 x16 x17 h0 H.old f1 f2 f0 f3) (wd40 V) (wd41 V) (nf_sel (wd43 V)) (wd43 V) (wd42 V) (wd5 V) (wd44 V) (by decide) f0 (argsL := []) (rest := []) (W := 0) rfl rfl (lenOf (pd_4) rfl) rfl rfl dc_prog_14_method_4_code_1 (pc' := 4) rfl (by decide) (by decide) (by decide) (by decide) all0 ?_
  intro T1 h1_ v2 s3 H1 Q4
  obtain ⟨rfl, rfl, rfl⟩ := Q4
  show Go p e below _ (T1.setTop (mkF m 4 #[.val (.ref p0)] [(.int (18 : Int32))]))
  refine G.ldcS H1 trivial (wS V) (wd50 V) (by decide) (vs := [(.int (48 : Int32)), (.int (48 : Int32)), (.int (48 : Int32)), (.int (48 : Int32)), (.int (45 : Int32)), (.int (48 : Int32)), (.int (48 : Int32)), (.int (45 : Int32)), (.int (48 : Int32)), (.int (48 : Int32))]) (z := (10 : Int32)) (by decide) (by decide) rfl (n := 40) (by decide) (by decide) (by decide) (by decide) dc_prog_14_method_4_code_4 (pc' := 6) rfl ?_
  intro T5 h5_ a6 b8 k9 H5 E7 X10 F11 F12 A13 Q14
  have S15 : Str Z h5_ a6 b8 k9 [(48 : Int32), (48 : Int32), (48 : Int32), (48 : Int32), (45 : Int32), (48 : Int32), (48 : Int32), (45 : Int32), (48 : Int32), (48 : Int32)] := ⟨X10, F11, F12, A13, by decide, by decide⟩
  show Go p e below _ (T5.setTop (mkF m 6 #[.val (.ref p0)] [(.ref a6), (.int (18 : Int32))]))
  refine G.callV H5 (m6_length V a6 b8 k9 h5_ H5.old F12 A13 X10 F11) (wd40 V) (wd41 V) (nf_sel (wd43 V)) (wd43 V) (wd42 V) (wd5 V) (wd44 V) (by decide) X10 (argsL := []) (rest := [(.int (18 : Int32))]) (W := 1) rfl rfl (lenOf (pd_4) rfl) rfl rfl dc_prog_14_method_4_code_6 (pc' := 9) rfl (by decide) (by decide) (by decide) (by decide) all0 ?_
  intro T16 h16_ v17 s18 H16 Q19
  obtain ⟨rfl, rfl, rfl⟩ := Q19
  show Go p e below _ (T16.setTop (mkF m 9 #[.val (.ref p0)] [(.int (10 : Int32)), (.int (18 : Int32))]))
  refine G.icmpYes H16 dc_prog_14_method_4_code_9 (by decide) (by decide) (pc' := 16) rfl ?_
  refine G.iconst H16 dc_prog_14_method_4_code_16 (pc' := 17) rfl (v := (0 : Int32)) rfl ?_
  have K20 : Keep h0 h5_ [] := (Keep.ext (Keep.refl h0 []) E7)
  exact G.retN H16 (t := .boolean) rfl (by decide) dc_prog_14_method_4_code_17 (so := []) all0 (by decide) (by decide) ⟨rfl, rfl, K20⟩
set_option maxRecDepth 65536 in
set_option maxHeartbeats 40000000 in
theorem m62_prefix {l : Launch} {Z : State} {a0 : Array Value} {n0 : Nat} {z_COMPACT_STRINGS : Int32} {z_SIOOBE_FORMATTER : Value} (V : Env1 Z a0 n0 z_COMPACT_STRINGS z_SIOOBE_FORMATTER) (p0 : Addr) (c0 : ClassId) (x0 : Int32) (x1 : Int32) (x2 : Int32) (x3 : Int32) (x4 : Int32) (x5 : Int32) (x6 : Int32) (x7 : Int32) (x8 : Int32) (x9 : Int32) (x10 : Int32) (x11 : Int32) (x12 : Int32) (x13 : Int32) (x14 : Int32) (x15 : Int32) (x16 : Int32) (x17 : Int32) (x18 : Int32) (x19 : Int32) (h0 : Heap) (hO : Old Z n0 h0) (f0 : Arv Z h0 p0 c0 .char (20 : Int32) [(.int x0), (.int x1), (.int x2), (.int x3), (.int x4), (.int x5), (.int x6), (.int x7), (.int x8), (.int x9), (.int x10), (.int x11), (.int x12), (.int x13), (.int x14), (.int x15), (.int x16), (.int x17), (.int x18), (.int x19)] (.int 0)) (r1 : ¬ x18 < 0 ∧ ¬ (65535 : Int32) < x18) (r2 : ¬ x17 < 0 ∧ ¬ (65535 : Int32) < x17) (r3 : ¬ x16 < 0 ∧ ¬ (65535 : Int32) < x16) (r4 : ¬ x15 < 0 ∧ ¬ (65535 : Int32) < x15) (r5 : ¬ x14 < 0 ∧ ¬ (65535 : Int32) < x14) (r6 : ¬ x13 < 0 ∧ ¬ (65535 : Int32) < x13) (r7 : ¬ x12 < 0 ∧ ¬ (65535 : Int32) < x12) (r8 : ¬ x11 < 0 ∧ ¬ (65535 : Int32) < x11) (r9 : ¬ x10 < 0 ∧ ¬ (65535 : Int32) < x10) (r10 : ¬ x9 < 0 ∧ ¬ (65535 : Int32) < x9) (r11 : ¬ x8 < 0 ∧ ¬ (65535 : Int32) < x8) (r12 : ¬ x7 < 0 ∧ ¬ (65535 : Int32) < x7) (r13 : ¬ x6 < 0 ∧ ¬ (65535 : Int32) < x6) (r14 : ¬ x5 < 0 ∧ ¬ (65535 : Int32) < x5) (r15 : ¬ x4 < 0 ∧ ¬ (65535 : Int32) < x4) (r16 : ¬ x3 < 0 ∧ ¬ (65535 : Int32) < x3) (r17 : ¬ x2 < 0 ∧ ¬ (65535 : Int32) < x2) (r18 : ¬ x1 < 0 ∧ ¬ (65535 : Int32) < x1) (r19 : ¬ x0 < 0 ∧ ¬ (65535 : Int32) < x0) :
    Met Z a0 ELs True n0 l (⟨"com/example/tenure/tenure/DaysUntimedPinLaw", "prefix", "([CI)[C"⟩ : MethodName) method_3_code 3 (Option.some (FieldType.array FieldType.char)) ({ frames := 0, cells := 1, slots := 19, locals := 0 } : Room) #[(.ref p0), (.int (19 : Int32))] h0 [] (fun v h so => (∃ a2 : Addr, ∃ k5 : ClassId, v = some (.ref a2) ∧ so = [] ∧ Keep h0 h [] ∧ h0.size ≤ a2 ∧ Arv Z h a2 k5 .char (19 : Int32) [(.int x0), (.int x1), (.int x2), (.int x3), (.int x4), (.int x5), (.int x6), (.int x7), (.int x8), (.int x9), (.int x10), (.int x11), (.int x12), (.int x13), (.int x14), (.int x15), (.int x16), (.int x17), (.int x18)] (.int 0))) := by
  refine Met.of (EWl V) (by first | decide +kernel | rfl) hO (L0 := #[.val (.ref p0), .val (.int (19 : Int32)), .unset]) rfl ?_
  intro p e s m below meth c T H
  show Go p e below _ (T.setTop (mkF m 0 #[.val (.ref p0), .val (.int (19 : Int32)), .unset] []))
  refine G.iloadN H dc_method_3_code_0 (pc' := 1) rfl rfl ?_
  refine G.newP H (aty := .char) (wd0 V) dc_method_3_code_1 (pc' := 3) rfl (by decide) (cap := 19) (by decide) (by decide) (by decide) (by decide) (vs := [(.int (0 : Int32)), (.int (0 : Int32)), (.int (0 : Int32)), (.int (0 : Int32)), (.int (0 : Int32)), (.int (0 : Int32)), (.int (0 : Int32)), (.int (0 : Int32)), (.int (0 : Int32)), (.int (0 : Int32)), (.int (0 : Int32)), (.int (0 : Int32)), (.int (0 : Int32)), (.int (0 : Int32)), (.int (0 : Int32)), (.int (0 : Int32)), (.int (0 : Int32)), (.int (0 : Int32)), (.int (0 : Int32))]) rfl ?_
  intro T1 h1_ a2 k5 ga2 H1 E3 A4
  have na2 : n0 ≤ a2 := Nat.le_trans H.le (Nat.le_of_eq ga2.symm)
  replace A4 : Arv Z h1_ a2 k5 .char (19 : Int32) [(.int (0 : Int32)), (.int (0 : Int32)), (.int (0 : Int32)), (.int (0 : Int32)), (.int (0 : Int32)), (.int (0 : Int32)), (.int (0 : Int32)), (.int (0 : Int32)), (.int (0 : Int32)), (.int (0 : Int32)), (.int (0 : Int32)), (.int (0 : Int32)), (.int (0 : Int32)), (.int (0 : Int32)), (.int (0 : Int32)), (.int (0 : Int32)), (.int (0 : Int32)), (.int (0 : Int32)), (.int (0 : Int32))] (.int 0) := A4
  show Go p e below _ (T1.setTop (mkF m 3 #[.val (.ref p0), .val (.int (19 : Int32)), .unset] [(.ref a2)]))
  refine G.astoreN H1 (L' := #[.val (.ref p0), .val (.int (19 : Int32)), .val (.ref a2)]) dc_method_3_code_3 (pc' := 4) rfl rfl rfl ?_
  refine G.iloadN H1 dc_method_3_code_4 (pc' := 5) rfl rfl ?_
  refine G.tswIn H1 dc_method_3_code_5 (by decide) (o := 103) rfl (by decide) (pc' := 108) rfl ?_
  refine G.aloadN H1 dc_method_3_code_108 (pc' := 109) rfl rfl rfl ?_
  refine G.bipush H1 dc_method_3_code_109 (pc' := 111) rfl (v := (18 : Int32)) rfl ?_
  refine G.aloadN H1 dc_method_3_code_111 (pc' := 112) rfl rfl rfl ?_
  refine G.bipush H1 dc_method_3_code_112 (pc' := 114) rfl (v := (18 : Int32)) rfl ?_
  have F6 : Arv Z h1_ p0 c0 .char (20 : Int32) [(.int x0), (.int x1), (.int x2), (.int x3), (.int x4), (.int x5), (.int x6), (.int x7), (.int x8), (.int x9), (.int x10), (.int x11), (.int x12), (.int x13), (.int x14), (.int x15), (.int x16), (.int x17), (.int x18), (.int x19)] (.int 0) := (Arv.ext f0 E3)
  refine G.caloadG H1 F6 (j := (18 : Int32)) (v := (.int x18)) (by decide) rfl dc_method_3_code_114 (pc' := 115) rfl ?_
  refine G.stC H1 A4 (by decide) (i := 18) rfl (Nat.le_of_ble_eq_true rfl) na2 (y := x18) (own_narC r1) dc_method_3_code_115 (pc' := 116) rfl ?_
  intro T7 h7_ H7 W8 A9
  replace A9 : Arv Z h7_ a2 k5 .char (19 : Int32) [(.int (0 : Int32)), (.int (0 : Int32)), (.int (0 : Int32)), (.int (0 : Int32)), (.int (0 : Int32)), (.int (0 : Int32)), (.int (0 : Int32)), (.int (0 : Int32)), (.int (0 : Int32)), (.int (0 : Int32)), (.int (0 : Int32)), (.int (0 : Int32)), (.int (0 : Int32)), (.int (0 : Int32)), (.int (0 : Int32)), (.int (0 : Int32)), (.int (0 : Int32)), (.int (0 : Int32)), (.int x18)] (.int 0) := A9
  show Go p e below _ (T7.setTop (mkF m 116 #[.val (.ref p0), .val (.int (19 : Int32)), .val (.ref a2)] []))
  refine G.aloadN H7 dc_method_3_code_116 (pc' := 117) rfl rfl rfl ?_
  refine G.bipush H7 dc_method_3_code_117 (pc' := 119) rfl (v := (17 : Int32)) rfl ?_
  refine G.aloadN H7 dc_method_3_code_119 (pc' := 120) rfl rfl rfl ?_
  refine G.bipush H7 dc_method_3_code_120 (pc' := 122) rfl (v := (17 : Int32)) rfl ?_
  have N10 : p0 ≠ a2 := (Nat.ne_of_lt (Nat.lt_of_lt_of_le f0.lt (Nat.le_of_eq ga2.symm)))
  have F11 : Arv Z h7_ p0 c0 .char (20 : Int32) [(.int x0), (.int x1), (.int x2), (.int x3), (.int x4), (.int x5), (.int x6), (.int x7), (.int x8), (.int x9), (.int x10), (.int x11), (.int x12), (.int x13), (.int x14), (.int x15), (.int x16), (.int x17), (.int x18), (.int x19)] (.int 0) := (Arv.other F6 W8 N10)
  refine G.caloadG H7 F11 (j := (17 : Int32)) (v := (.int x17)) (by decide) rfl dc_method_3_code_122 (pc' := 123) rfl ?_
  refine G.stC H7 A9 (by decide) (i := 17) rfl (Nat.le_of_ble_eq_true rfl) na2 (y := x17) (own_narC r2) dc_method_3_code_123 (pc' := 124) rfl ?_
  intro T12 h12_ H12 W13 A14
  replace A14 : Arv Z h12_ a2 k5 .char (19 : Int32) [(.int (0 : Int32)), (.int (0 : Int32)), (.int (0 : Int32)), (.int (0 : Int32)), (.int (0 : Int32)), (.int (0 : Int32)), (.int (0 : Int32)), (.int (0 : Int32)), (.int (0 : Int32)), (.int (0 : Int32)), (.int (0 : Int32)), (.int (0 : Int32)), (.int (0 : Int32)), (.int (0 : Int32)), (.int (0 : Int32)), (.int (0 : Int32)), (.int (0 : Int32)), (.int x17), (.int x18)] (.int 0) := A14
  show Go p e below _ (T12.setTop (mkF m 124 #[.val (.ref p0), .val (.int (19 : Int32)), .val (.ref a2)] []))
  refine G.aloadN H12 dc_method_3_code_124 (pc' := 125) rfl rfl rfl ?_
  refine G.bipush H12 dc_method_3_code_125 (pc' := 127) rfl (v := (16 : Int32)) rfl ?_
  refine G.aloadN H12 dc_method_3_code_127 (pc' := 128) rfl rfl rfl ?_
  refine G.bipush H12 dc_method_3_code_128 (pc' := 130) rfl (v := (16 : Int32)) rfl ?_
  have F15 : Arv Z h12_ p0 c0 .char (20 : Int32) [(.int x0), (.int x1), (.int x2), (.int x3), (.int x4), (.int x5), (.int x6), (.int x7), (.int x8), (.int x9), (.int x10), (.int x11), (.int x12), (.int x13), (.int x14), (.int x15), (.int x16), (.int x17), (.int x18), (.int x19)] (.int 0) := (Arv.other F11 W13 N10)
  refine G.caloadG H12 F15 (j := (16 : Int32)) (v := (.int x16)) (by decide) rfl dc_method_3_code_130 (pc' := 131) rfl ?_
  refine G.stC H12 A14 (by decide) (i := 16) rfl (Nat.le_of_ble_eq_true rfl) na2 (y := x16) (own_narC r3) dc_method_3_code_131 (pc' := 132) rfl ?_
  intro T16 h16_ H16 W17 A18
  replace A18 : Arv Z h16_ a2 k5 .char (19 : Int32) [(.int (0 : Int32)), (.int (0 : Int32)), (.int (0 : Int32)), (.int (0 : Int32)), (.int (0 : Int32)), (.int (0 : Int32)), (.int (0 : Int32)), (.int (0 : Int32)), (.int (0 : Int32)), (.int (0 : Int32)), (.int (0 : Int32)), (.int (0 : Int32)), (.int (0 : Int32)), (.int (0 : Int32)), (.int (0 : Int32)), (.int (0 : Int32)), (.int x16), (.int x17), (.int x18)] (.int 0) := A18
  show Go p e below _ (T16.setTop (mkF m 132 #[.val (.ref p0), .val (.int (19 : Int32)), .val (.ref a2)] []))
  refine G.aloadN H16 dc_method_3_code_132 (pc' := 133) rfl rfl rfl ?_
  refine G.bipush H16 dc_method_3_code_133 (pc' := 135) rfl (v := (15 : Int32)) rfl ?_
  refine G.aloadN H16 dc_method_3_code_135 (pc' := 136) rfl rfl rfl ?_
  refine G.bipush H16 dc_method_3_code_136 (pc' := 138) rfl (v := (15 : Int32)) rfl ?_
  have F19 : Arv Z h16_ p0 c0 .char (20 : Int32) [(.int x0), (.int x1), (.int x2), (.int x3), (.int x4), (.int x5), (.int x6), (.int x7), (.int x8), (.int x9), (.int x10), (.int x11), (.int x12), (.int x13), (.int x14), (.int x15), (.int x16), (.int x17), (.int x18), (.int x19)] (.int 0) := (Arv.other F15 W17 N10)
  refine G.caloadG H16 F19 (j := (15 : Int32)) (v := (.int x15)) (by decide) rfl dc_method_3_code_138 (pc' := 139) rfl ?_
  refine G.stC H16 A18 (by decide) (i := 15) rfl (Nat.le_of_ble_eq_true rfl) na2 (y := x15) (own_narC r4) dc_method_3_code_139 (pc' := 140) rfl ?_
  intro T20 h20_ H20 W21 A22
  replace A22 : Arv Z h20_ a2 k5 .char (19 : Int32) [(.int (0 : Int32)), (.int (0 : Int32)), (.int (0 : Int32)), (.int (0 : Int32)), (.int (0 : Int32)), (.int (0 : Int32)), (.int (0 : Int32)), (.int (0 : Int32)), (.int (0 : Int32)), (.int (0 : Int32)), (.int (0 : Int32)), (.int (0 : Int32)), (.int (0 : Int32)), (.int (0 : Int32)), (.int (0 : Int32)), (.int x15), (.int x16), (.int x17), (.int x18)] (.int 0) := A22
  show Go p e below _ (T20.setTop (mkF m 140 #[.val (.ref p0), .val (.int (19 : Int32)), .val (.ref a2)] []))
  refine G.aloadN H20 dc_method_3_code_140 (pc' := 141) rfl rfl rfl ?_
  refine G.bipush H20 dc_method_3_code_141 (pc' := 143) rfl (v := (14 : Int32)) rfl ?_
  refine G.aloadN H20 dc_method_3_code_143 (pc' := 144) rfl rfl rfl ?_
  refine G.bipush H20 dc_method_3_code_144 (pc' := 146) rfl (v := (14 : Int32)) rfl ?_
  have F23 : Arv Z h20_ p0 c0 .char (20 : Int32) [(.int x0), (.int x1), (.int x2), (.int x3), (.int x4), (.int x5), (.int x6), (.int x7), (.int x8), (.int x9), (.int x10), (.int x11), (.int x12), (.int x13), (.int x14), (.int x15), (.int x16), (.int x17), (.int x18), (.int x19)] (.int 0) := (Arv.other F19 W21 N10)
  refine G.caloadG H20 F23 (j := (14 : Int32)) (v := (.int x14)) (by decide) rfl dc_method_3_code_146 (pc' := 147) rfl ?_
  refine G.stC H20 A22 (by decide) (i := 14) rfl (Nat.le_of_ble_eq_true rfl) na2 (y := x14) (own_narC r5) dc_method_3_code_147 (pc' := 148) rfl ?_
  intro T24 h24_ H24 W25 A26
  replace A26 : Arv Z h24_ a2 k5 .char (19 : Int32) [(.int (0 : Int32)), (.int (0 : Int32)), (.int (0 : Int32)), (.int (0 : Int32)), (.int (0 : Int32)), (.int (0 : Int32)), (.int (0 : Int32)), (.int (0 : Int32)), (.int (0 : Int32)), (.int (0 : Int32)), (.int (0 : Int32)), (.int (0 : Int32)), (.int (0 : Int32)), (.int (0 : Int32)), (.int x14), (.int x15), (.int x16), (.int x17), (.int x18)] (.int 0) := A26
  show Go p e below _ (T24.setTop (mkF m 148 #[.val (.ref p0), .val (.int (19 : Int32)), .val (.ref a2)] []))
  refine G.aloadN H24 dc_method_3_code_148 (pc' := 149) rfl rfl rfl ?_
  refine G.bipush H24 dc_method_3_code_149 (pc' := 151) rfl (v := (13 : Int32)) rfl ?_
  refine G.aloadN H24 dc_method_3_code_151 (pc' := 152) rfl rfl rfl ?_
  refine G.bipush H24 dc_method_3_code_152 (pc' := 154) rfl (v := (13 : Int32)) rfl ?_
  have F27 : Arv Z h24_ p0 c0 .char (20 : Int32) [(.int x0), (.int x1), (.int x2), (.int x3), (.int x4), (.int x5), (.int x6), (.int x7), (.int x8), (.int x9), (.int x10), (.int x11), (.int x12), (.int x13), (.int x14), (.int x15), (.int x16), (.int x17), (.int x18), (.int x19)] (.int 0) := (Arv.other F23 W25 N10)
  refine G.caloadG H24 F27 (j := (13 : Int32)) (v := (.int x13)) (by decide) rfl dc_method_3_code_154 (pc' := 155) rfl ?_
  refine G.stC H24 A26 (by decide) (i := 13) rfl (Nat.le_of_ble_eq_true rfl) na2 (y := x13) (own_narC r6) dc_method_3_code_155 (pc' := 156) rfl ?_
  intro T28 h28_ H28 W29 A30
  replace A30 : Arv Z h28_ a2 k5 .char (19 : Int32) [(.int (0 : Int32)), (.int (0 : Int32)), (.int (0 : Int32)), (.int (0 : Int32)), (.int (0 : Int32)), (.int (0 : Int32)), (.int (0 : Int32)), (.int (0 : Int32)), (.int (0 : Int32)), (.int (0 : Int32)), (.int (0 : Int32)), (.int (0 : Int32)), (.int (0 : Int32)), (.int x13), (.int x14), (.int x15), (.int x16), (.int x17), (.int x18)] (.int 0) := A30
  show Go p e below _ (T28.setTop (mkF m 156 #[.val (.ref p0), .val (.int (19 : Int32)), .val (.ref a2)] []))
  refine G.aloadN H28 dc_method_3_code_156 (pc' := 157) rfl rfl rfl ?_
  refine G.bipush H28 dc_method_3_code_157 (pc' := 159) rfl (v := (12 : Int32)) rfl ?_
  refine G.aloadN H28 dc_method_3_code_159 (pc' := 160) rfl rfl rfl ?_
  refine G.bipush H28 dc_method_3_code_160 (pc' := 162) rfl (v := (12 : Int32)) rfl ?_
  have F31 : Arv Z h28_ p0 c0 .char (20 : Int32) [(.int x0), (.int x1), (.int x2), (.int x3), (.int x4), (.int x5), (.int x6), (.int x7), (.int x8), (.int x9), (.int x10), (.int x11), (.int x12), (.int x13), (.int x14), (.int x15), (.int x16), (.int x17), (.int x18), (.int x19)] (.int 0) := (Arv.other F27 W29 N10)
  refine G.caloadG H28 F31 (j := (12 : Int32)) (v := (.int x12)) (by decide) rfl dc_method_3_code_162 (pc' := 163) rfl ?_
  refine G.stC H28 A30 (by decide) (i := 12) rfl (Nat.le_of_ble_eq_true rfl) na2 (y := x12) (own_narC r7) dc_method_3_code_163 (pc' := 164) rfl ?_
  intro T32 h32_ H32 W33 A34
  replace A34 : Arv Z h32_ a2 k5 .char (19 : Int32) [(.int (0 : Int32)), (.int (0 : Int32)), (.int (0 : Int32)), (.int (0 : Int32)), (.int (0 : Int32)), (.int (0 : Int32)), (.int (0 : Int32)), (.int (0 : Int32)), (.int (0 : Int32)), (.int (0 : Int32)), (.int (0 : Int32)), (.int (0 : Int32)), (.int x12), (.int x13), (.int x14), (.int x15), (.int x16), (.int x17), (.int x18)] (.int 0) := A34
  show Go p e below _ (T32.setTop (mkF m 164 #[.val (.ref p0), .val (.int (19 : Int32)), .val (.ref a2)] []))
  refine G.aloadN H32 dc_method_3_code_164 (pc' := 165) rfl rfl rfl ?_
  refine G.bipush H32 dc_method_3_code_165 (pc' := 167) rfl (v := (11 : Int32)) rfl ?_
  refine G.aloadN H32 dc_method_3_code_167 (pc' := 168) rfl rfl rfl ?_
  refine G.bipush H32 dc_method_3_code_168 (pc' := 170) rfl (v := (11 : Int32)) rfl ?_
  have F35 : Arv Z h32_ p0 c0 .char (20 : Int32) [(.int x0), (.int x1), (.int x2), (.int x3), (.int x4), (.int x5), (.int x6), (.int x7), (.int x8), (.int x9), (.int x10), (.int x11), (.int x12), (.int x13), (.int x14), (.int x15), (.int x16), (.int x17), (.int x18), (.int x19)] (.int 0) := (Arv.other F31 W33 N10)
  refine G.caloadG H32 F35 (j := (11 : Int32)) (v := (.int x11)) (by decide) rfl dc_method_3_code_170 (pc' := 171) rfl ?_
  refine G.stC H32 A34 (by decide) (i := 11) rfl (Nat.le_of_ble_eq_true rfl) na2 (y := x11) (own_narC r8) dc_method_3_code_171 (pc' := 172) rfl ?_
  intro T36 h36_ H36 W37 A38
  replace A38 : Arv Z h36_ a2 k5 .char (19 : Int32) [(.int (0 : Int32)), (.int (0 : Int32)), (.int (0 : Int32)), (.int (0 : Int32)), (.int (0 : Int32)), (.int (0 : Int32)), (.int (0 : Int32)), (.int (0 : Int32)), (.int (0 : Int32)), (.int (0 : Int32)), (.int (0 : Int32)), (.int x11), (.int x12), (.int x13), (.int x14), (.int x15), (.int x16), (.int x17), (.int x18)] (.int 0) := A38
  show Go p e below _ (T36.setTop (mkF m 172 #[.val (.ref p0), .val (.int (19 : Int32)), .val (.ref a2)] []))
  refine G.aloadN H36 dc_method_3_code_172 (pc' := 173) rfl rfl rfl ?_
  refine G.bipush H36 dc_method_3_code_173 (pc' := 175) rfl (v := (10 : Int32)) rfl ?_
  refine G.aloadN H36 dc_method_3_code_175 (pc' := 176) rfl rfl rfl ?_
  refine G.bipush H36 dc_method_3_code_176 (pc' := 178) rfl (v := (10 : Int32)) rfl ?_
  have F39 : Arv Z h36_ p0 c0 .char (20 : Int32) [(.int x0), (.int x1), (.int x2), (.int x3), (.int x4), (.int x5), (.int x6), (.int x7), (.int x8), (.int x9), (.int x10), (.int x11), (.int x12), (.int x13), (.int x14), (.int x15), (.int x16), (.int x17), (.int x18), (.int x19)] (.int 0) := (Arv.other F35 W37 N10)
  refine G.caloadG H36 F39 (j := (10 : Int32)) (v := (.int x10)) (by decide) rfl dc_method_3_code_178 (pc' := 179) rfl ?_
  refine G.stC H36 A38 (by decide) (i := 10) rfl (Nat.le_of_ble_eq_true rfl) na2 (y := x10) (own_narC r9) dc_method_3_code_179 (pc' := 180) rfl ?_
  intro T40 h40_ H40 W41 A42
  replace A42 : Arv Z h40_ a2 k5 .char (19 : Int32) [(.int (0 : Int32)), (.int (0 : Int32)), (.int (0 : Int32)), (.int (0 : Int32)), (.int (0 : Int32)), (.int (0 : Int32)), (.int (0 : Int32)), (.int (0 : Int32)), (.int (0 : Int32)), (.int (0 : Int32)), (.int x10), (.int x11), (.int x12), (.int x13), (.int x14), (.int x15), (.int x16), (.int x17), (.int x18)] (.int 0) := A42
  show Go p e below _ (T40.setTop (mkF m 180 #[.val (.ref p0), .val (.int (19 : Int32)), .val (.ref a2)] []))
  refine G.aloadN H40 dc_method_3_code_180 (pc' := 181) rfl rfl rfl ?_
  refine G.bipush H40 dc_method_3_code_181 (pc' := 183) rfl (v := (9 : Int32)) rfl ?_
  refine G.aloadN H40 dc_method_3_code_183 (pc' := 184) rfl rfl rfl ?_
  refine G.bipush H40 dc_method_3_code_184 (pc' := 186) rfl (v := (9 : Int32)) rfl ?_
  have F43 : Arv Z h40_ p0 c0 .char (20 : Int32) [(.int x0), (.int x1), (.int x2), (.int x3), (.int x4), (.int x5), (.int x6), (.int x7), (.int x8), (.int x9), (.int x10), (.int x11), (.int x12), (.int x13), (.int x14), (.int x15), (.int x16), (.int x17), (.int x18), (.int x19)] (.int 0) := (Arv.other F39 W41 N10)
  refine G.caloadG H40 F43 (j := (9 : Int32)) (v := (.int x9)) (by decide) rfl dc_method_3_code_186 (pc' := 187) rfl ?_
  refine G.stC H40 A42 (by decide) (i := 9) rfl (Nat.le_of_ble_eq_true rfl) na2 (y := x9) (own_narC r10) dc_method_3_code_187 (pc' := 188) rfl ?_
  intro T44 h44_ H44 W45 A46
  replace A46 : Arv Z h44_ a2 k5 .char (19 : Int32) [(.int (0 : Int32)), (.int (0 : Int32)), (.int (0 : Int32)), (.int (0 : Int32)), (.int (0 : Int32)), (.int (0 : Int32)), (.int (0 : Int32)), (.int (0 : Int32)), (.int (0 : Int32)), (.int x9), (.int x10), (.int x11), (.int x12), (.int x13), (.int x14), (.int x15), (.int x16), (.int x17), (.int x18)] (.int 0) := A46
  show Go p e below _ (T44.setTop (mkF m 188 #[.val (.ref p0), .val (.int (19 : Int32)), .val (.ref a2)] []))
  refine G.aloadN H44 dc_method_3_code_188 (pc' := 189) rfl rfl rfl ?_
  refine G.bipush H44 dc_method_3_code_189 (pc' := 191) rfl (v := (8 : Int32)) rfl ?_
  refine G.aloadN H44 dc_method_3_code_191 (pc' := 192) rfl rfl rfl ?_
  refine G.bipush H44 dc_method_3_code_192 (pc' := 194) rfl (v := (8 : Int32)) rfl ?_
  have F47 : Arv Z h44_ p0 c0 .char (20 : Int32) [(.int x0), (.int x1), (.int x2), (.int x3), (.int x4), (.int x5), (.int x6), (.int x7), (.int x8), (.int x9), (.int x10), (.int x11), (.int x12), (.int x13), (.int x14), (.int x15), (.int x16), (.int x17), (.int x18), (.int x19)] (.int 0) := (Arv.other F43 W45 N10)
  refine G.caloadG H44 F47 (j := (8 : Int32)) (v := (.int x8)) (by decide) rfl dc_method_3_code_194 (pc' := 195) rfl ?_
  refine G.stC H44 A46 (by decide) (i := 8) rfl (Nat.le_of_ble_eq_true rfl) na2 (y := x8) (own_narC r11) dc_method_3_code_195 (pc' := 196) rfl ?_
  intro T48 h48_ H48 W49 A50
  replace A50 : Arv Z h48_ a2 k5 .char (19 : Int32) [(.int (0 : Int32)), (.int (0 : Int32)), (.int (0 : Int32)), (.int (0 : Int32)), (.int (0 : Int32)), (.int (0 : Int32)), (.int (0 : Int32)), (.int (0 : Int32)), (.int x8), (.int x9), (.int x10), (.int x11), (.int x12), (.int x13), (.int x14), (.int x15), (.int x16), (.int x17), (.int x18)] (.int 0) := A50
  show Go p e below _ (T48.setTop (mkF m 196 #[.val (.ref p0), .val (.int (19 : Int32)), .val (.ref a2)] []))
  refine G.aloadN H48 dc_method_3_code_196 (pc' := 197) rfl rfl rfl ?_
  refine G.bipush H48 dc_method_3_code_197 (pc' := 199) rfl (v := (7 : Int32)) rfl ?_
  refine G.aloadN H48 dc_method_3_code_199 (pc' := 200) rfl rfl rfl ?_
  refine G.bipush H48 dc_method_3_code_200 (pc' := 202) rfl (v := (7 : Int32)) rfl ?_
  have F51 : Arv Z h48_ p0 c0 .char (20 : Int32) [(.int x0), (.int x1), (.int x2), (.int x3), (.int x4), (.int x5), (.int x6), (.int x7), (.int x8), (.int x9), (.int x10), (.int x11), (.int x12), (.int x13), (.int x14), (.int x15), (.int x16), (.int x17), (.int x18), (.int x19)] (.int 0) := (Arv.other F47 W49 N10)
  refine G.caloadG H48 F51 (j := (7 : Int32)) (v := (.int x7)) (by decide) rfl dc_method_3_code_202 (pc' := 203) rfl ?_
  refine G.stC H48 A50 (by decide) (i := 7) rfl (Nat.le_of_ble_eq_true rfl) na2 (y := x7) (own_narC r12) dc_method_3_code_203 (pc' := 204) rfl ?_
  intro T52 h52_ H52 W53 A54
  replace A54 : Arv Z h52_ a2 k5 .char (19 : Int32) [(.int (0 : Int32)), (.int (0 : Int32)), (.int (0 : Int32)), (.int (0 : Int32)), (.int (0 : Int32)), (.int (0 : Int32)), (.int (0 : Int32)), (.int x7), (.int x8), (.int x9), (.int x10), (.int x11), (.int x12), (.int x13), (.int x14), (.int x15), (.int x16), (.int x17), (.int x18)] (.int 0) := A54
  show Go p e below _ (T52.setTop (mkF m 204 #[.val (.ref p0), .val (.int (19 : Int32)), .val (.ref a2)] []))
  refine G.aloadN H52 dc_method_3_code_204 (pc' := 205) rfl rfl rfl ?_
  refine G.bipush H52 dc_method_3_code_205 (pc' := 207) rfl (v := (6 : Int32)) rfl ?_
  refine G.aloadN H52 dc_method_3_code_207 (pc' := 208) rfl rfl rfl ?_
  refine G.bipush H52 dc_method_3_code_208 (pc' := 210) rfl (v := (6 : Int32)) rfl ?_
  have F55 : Arv Z h52_ p0 c0 .char (20 : Int32) [(.int x0), (.int x1), (.int x2), (.int x3), (.int x4), (.int x5), (.int x6), (.int x7), (.int x8), (.int x9), (.int x10), (.int x11), (.int x12), (.int x13), (.int x14), (.int x15), (.int x16), (.int x17), (.int x18), (.int x19)] (.int 0) := (Arv.other F51 W53 N10)
  refine G.caloadG H52 F55 (j := (6 : Int32)) (v := (.int x6)) (by decide) rfl dc_method_3_code_210 (pc' := 211) rfl ?_
  refine G.stC H52 A54 (by decide) (i := 6) rfl (Nat.le_of_ble_eq_true rfl) na2 (y := x6) (own_narC r13) dc_method_3_code_211 (pc' := 212) rfl ?_
  intro T56 h56_ H56 W57 A58
  replace A58 : Arv Z h56_ a2 k5 .char (19 : Int32) [(.int (0 : Int32)), (.int (0 : Int32)), (.int (0 : Int32)), (.int (0 : Int32)), (.int (0 : Int32)), (.int (0 : Int32)), (.int x6), (.int x7), (.int x8), (.int x9), (.int x10), (.int x11), (.int x12), (.int x13), (.int x14), (.int x15), (.int x16), (.int x17), (.int x18)] (.int 0) := A58
  show Go p e below _ (T56.setTop (mkF m 212 #[.val (.ref p0), .val (.int (19 : Int32)), .val (.ref a2)] []))
  refine G.aloadN H56 dc_method_3_code_212 (pc' := 213) rfl rfl rfl ?_
  refine G.iconst H56 dc_method_3_code_213 (pc' := 214) rfl (v := (5 : Int32)) rfl ?_
  refine G.aloadN H56 dc_method_3_code_214 (pc' := 215) rfl rfl rfl ?_
  refine G.iconst H56 dc_method_3_code_215 (pc' := 216) rfl (v := (5 : Int32)) rfl ?_
  have F59 : Arv Z h56_ p0 c0 .char (20 : Int32) [(.int x0), (.int x1), (.int x2), (.int x3), (.int x4), (.int x5), (.int x6), (.int x7), (.int x8), (.int x9), (.int x10), (.int x11), (.int x12), (.int x13), (.int x14), (.int x15), (.int x16), (.int x17), (.int x18), (.int x19)] (.int 0) := (Arv.other F55 W57 N10)
  refine G.caloadG H56 F59 (j := (5 : Int32)) (v := (.int x5)) (by decide) rfl dc_method_3_code_216 (pc' := 217) rfl ?_
  refine G.stC H56 A58 (by decide) (i := 5) rfl (Nat.le_of_ble_eq_true rfl) na2 (y := x5) (own_narC r14) dc_method_3_code_217 (pc' := 218) rfl ?_
  intro T60 h60_ H60 W61 A62
  replace A62 : Arv Z h60_ a2 k5 .char (19 : Int32) [(.int (0 : Int32)), (.int (0 : Int32)), (.int (0 : Int32)), (.int (0 : Int32)), (.int (0 : Int32)), (.int x5), (.int x6), (.int x7), (.int x8), (.int x9), (.int x10), (.int x11), (.int x12), (.int x13), (.int x14), (.int x15), (.int x16), (.int x17), (.int x18)] (.int 0) := A62
  show Go p e below _ (T60.setTop (mkF m 218 #[.val (.ref p0), .val (.int (19 : Int32)), .val (.ref a2)] []))
  refine G.aloadN H60 dc_method_3_code_218 (pc' := 219) rfl rfl rfl ?_
  refine G.iconst H60 dc_method_3_code_219 (pc' := 220) rfl (v := (4 : Int32)) rfl ?_
  refine G.aloadN H60 dc_method_3_code_220 (pc' := 221) rfl rfl rfl ?_
  refine G.iconst H60 dc_method_3_code_221 (pc' := 222) rfl (v := (4 : Int32)) rfl ?_
  have F63 : Arv Z h60_ p0 c0 .char (20 : Int32) [(.int x0), (.int x1), (.int x2), (.int x3), (.int x4), (.int x5), (.int x6), (.int x7), (.int x8), (.int x9), (.int x10), (.int x11), (.int x12), (.int x13), (.int x14), (.int x15), (.int x16), (.int x17), (.int x18), (.int x19)] (.int 0) := (Arv.other F59 W61 N10)
  refine G.caloadG H60 F63 (j := (4 : Int32)) (v := (.int x4)) (by decide) rfl dc_method_3_code_222 (pc' := 223) rfl ?_
  refine G.stC H60 A62 (by decide) (i := 4) rfl (Nat.le_of_ble_eq_true rfl) na2 (y := x4) (own_narC r15) dc_method_3_code_223 (pc' := 224) rfl ?_
  intro T64 h64_ H64 W65 A66
  replace A66 : Arv Z h64_ a2 k5 .char (19 : Int32) [(.int (0 : Int32)), (.int (0 : Int32)), (.int (0 : Int32)), (.int (0 : Int32)), (.int x4), (.int x5), (.int x6), (.int x7), (.int x8), (.int x9), (.int x10), (.int x11), (.int x12), (.int x13), (.int x14), (.int x15), (.int x16), (.int x17), (.int x18)] (.int 0) := A66
  show Go p e below _ (T64.setTop (mkF m 224 #[.val (.ref p0), .val (.int (19 : Int32)), .val (.ref a2)] []))
  refine G.aloadN H64 dc_method_3_code_224 (pc' := 225) rfl rfl rfl ?_
  refine G.iconst H64 dc_method_3_code_225 (pc' := 226) rfl (v := (3 : Int32)) rfl ?_
  refine G.aloadN H64 dc_method_3_code_226 (pc' := 227) rfl rfl rfl ?_
  refine G.iconst H64 dc_method_3_code_227 (pc' := 228) rfl (v := (3 : Int32)) rfl ?_
  have F67 : Arv Z h64_ p0 c0 .char (20 : Int32) [(.int x0), (.int x1), (.int x2), (.int x3), (.int x4), (.int x5), (.int x6), (.int x7), (.int x8), (.int x9), (.int x10), (.int x11), (.int x12), (.int x13), (.int x14), (.int x15), (.int x16), (.int x17), (.int x18), (.int x19)] (.int 0) := (Arv.other F63 W65 N10)
  refine G.caloadG H64 F67 (j := (3 : Int32)) (v := (.int x3)) (by decide) rfl dc_method_3_code_228 (pc' := 229) rfl ?_
  refine G.stC H64 A66 (by decide) (i := 3) rfl (Nat.le_of_ble_eq_true rfl) na2 (y := x3) (own_narC r16) dc_method_3_code_229 (pc' := 230) rfl ?_
  intro T68 h68_ H68 W69 A70
  replace A70 : Arv Z h68_ a2 k5 .char (19 : Int32) [(.int (0 : Int32)), (.int (0 : Int32)), (.int (0 : Int32)), (.int x3), (.int x4), (.int x5), (.int x6), (.int x7), (.int x8), (.int x9), (.int x10), (.int x11), (.int x12), (.int x13), (.int x14), (.int x15), (.int x16), (.int x17), (.int x18)] (.int 0) := A70
  show Go p e below _ (T68.setTop (mkF m 230 #[.val (.ref p0), .val (.int (19 : Int32)), .val (.ref a2)] []))
  refine G.aloadN H68 dc_method_3_code_230 (pc' := 231) rfl rfl rfl ?_
  refine G.iconst H68 dc_method_3_code_231 (pc' := 232) rfl (v := (2 : Int32)) rfl ?_
  refine G.aloadN H68 dc_method_3_code_232 (pc' := 233) rfl rfl rfl ?_
  refine G.iconst H68 dc_method_3_code_233 (pc' := 234) rfl (v := (2 : Int32)) rfl ?_
  have F71 : Arv Z h68_ p0 c0 .char (20 : Int32) [(.int x0), (.int x1), (.int x2), (.int x3), (.int x4), (.int x5), (.int x6), (.int x7), (.int x8), (.int x9), (.int x10), (.int x11), (.int x12), (.int x13), (.int x14), (.int x15), (.int x16), (.int x17), (.int x18), (.int x19)] (.int 0) := (Arv.other F67 W69 N10)
  refine G.caloadG H68 F71 (j := (2 : Int32)) (v := (.int x2)) (by decide) rfl dc_method_3_code_234 (pc' := 235) rfl ?_
  refine G.stC H68 A70 (by decide) (i := 2) rfl (Nat.le_of_ble_eq_true rfl) na2 (y := x2) (own_narC r17) dc_method_3_code_235 (pc' := 236) rfl ?_
  intro T72 h72_ H72 W73 A74
  replace A74 : Arv Z h72_ a2 k5 .char (19 : Int32) [(.int (0 : Int32)), (.int (0 : Int32)), (.int x2), (.int x3), (.int x4), (.int x5), (.int x6), (.int x7), (.int x8), (.int x9), (.int x10), (.int x11), (.int x12), (.int x13), (.int x14), (.int x15), (.int x16), (.int x17), (.int x18)] (.int 0) := A74
  show Go p e below _ (T72.setTop (mkF m 236 #[.val (.ref p0), .val (.int (19 : Int32)), .val (.ref a2)] []))
  refine G.aloadN H72 dc_method_3_code_236 (pc' := 237) rfl rfl rfl ?_
  refine G.iconst H72 dc_method_3_code_237 (pc' := 238) rfl (v := (1 : Int32)) rfl ?_
  refine G.aloadN H72 dc_method_3_code_238 (pc' := 239) rfl rfl rfl ?_
  refine G.iconst H72 dc_method_3_code_239 (pc' := 240) rfl (v := (1 : Int32)) rfl ?_
  have F75 : Arv Z h72_ p0 c0 .char (20 : Int32) [(.int x0), (.int x1), (.int x2), (.int x3), (.int x4), (.int x5), (.int x6), (.int x7), (.int x8), (.int x9), (.int x10), (.int x11), (.int x12), (.int x13), (.int x14), (.int x15), (.int x16), (.int x17), (.int x18), (.int x19)] (.int 0) := (Arv.other F71 W73 N10)
  refine G.caloadG H72 F75 (j := (1 : Int32)) (v := (.int x1)) (by decide) rfl dc_method_3_code_240 (pc' := 241) rfl ?_
  refine G.stC H72 A74 (by decide) (i := 1) rfl (Nat.le_of_ble_eq_true rfl) na2 (y := x1) (own_narC r18) dc_method_3_code_241 (pc' := 242) rfl ?_
  intro T76 h76_ H76 W77 A78
  replace A78 : Arv Z h76_ a2 k5 .char (19 : Int32) [(.int (0 : Int32)), (.int x1), (.int x2), (.int x3), (.int x4), (.int x5), (.int x6), (.int x7), (.int x8), (.int x9), (.int x10), (.int x11), (.int x12), (.int x13), (.int x14), (.int x15), (.int x16), (.int x17), (.int x18)] (.int 0) := A78
  show Go p e below _ (T76.setTop (mkF m 242 #[.val (.ref p0), .val (.int (19 : Int32)), .val (.ref a2)] []))
  refine G.aloadN H76 dc_method_3_code_242 (pc' := 243) rfl rfl rfl ?_
  refine G.iconst H76 dc_method_3_code_243 (pc' := 244) rfl (v := (0 : Int32)) rfl ?_
  refine G.aloadN H76 dc_method_3_code_244 (pc' := 245) rfl rfl rfl ?_
  refine G.iconst H76 dc_method_3_code_245 (pc' := 246) rfl (v := (0 : Int32)) rfl ?_
  have F79 : Arv Z h76_ p0 c0 .char (20 : Int32) [(.int x0), (.int x1), (.int x2), (.int x3), (.int x4), (.int x5), (.int x6), (.int x7), (.int x8), (.int x9), (.int x10), (.int x11), (.int x12), (.int x13), (.int x14), (.int x15), (.int x16), (.int x17), (.int x18), (.int x19)] (.int 0) := (Arv.other F75 W77 N10)
  refine G.caloadG H76 F79 (j := (0 : Int32)) (v := (.int x0)) (by decide) rfl dc_method_3_code_246 (pc' := 247) rfl ?_
  refine G.stC H76 A78 (by decide) (i := 0) rfl (Nat.le_of_ble_eq_true rfl) na2 (y := x0) (own_narC r19) dc_method_3_code_247 (pc' := 248) rfl ?_
  intro T80 h80_ H80 W81 A82
  replace A82 : Arv Z h80_ a2 k5 .char (19 : Int32) [(.int x0), (.int x1), (.int x2), (.int x3), (.int x4), (.int x5), (.int x6), (.int x7), (.int x8), (.int x9), (.int x10), (.int x11), (.int x12), (.int x13), (.int x14), (.int x15), (.int x16), (.int x17), (.int x18)] (.int 0) := A82
  show Go p e below _ (T80.setTop (mkF m 248 #[.val (.ref p0), .val (.int (19 : Int32)), .val (.ref a2)] []))
  refine G.aloadN H80 dc_method_3_code_248 (pc' := 249) rfl rfl rfl ?_
  have K83 : Keep h0 h80_ [] := (Keep.wr (Keep.wr (Keep.wr (Keep.wr (Keep.wr (Keep.wr (Keep.wr (Keep.wr (Keep.wr (Keep.wr (Keep.wr (Keep.wr (Keep.wr (Keep.wr (Keep.wr (Keep.wr (Keep.wr (Keep.wr (Keep.wr (Keep.ext (Keep.refl h0 []) E3) W8 (Or.inr (Nat.le_of_eq ga2.symm))) W13 (Or.inr (Nat.le_of_eq ga2.symm))) W17 (Or.inr (Nat.le_of_eq ga2.symm))) W21 (Or.inr (Nat.le_of_eq ga2.symm))) W25 (Or.inr (Nat.le_of_eq ga2.symm))) W29 (Or.inr (Nat.le_of_eq ga2.symm))) W33 (Or.inr (Nat.le_of_eq ga2.symm))) W37 (Or.inr (Nat.le_of_eq ga2.symm))) W41 (Or.inr (Nat.le_of_eq ga2.symm))) W45 (Or.inr (Nat.le_of_eq ga2.symm))) W49 (Or.inr (Nat.le_of_eq ga2.symm))) W53 (Or.inr (Nat.le_of_eq ga2.symm))) W57 (Or.inr (Nat.le_of_eq ga2.symm))) W61 (Or.inr (Nat.le_of_eq ga2.symm))) W65 (Or.inr (Nat.le_of_eq ga2.symm))) W69 (Or.inr (Nat.le_of_eq ga2.symm))) W73 (Or.inr (Nat.le_of_eq ga2.symm))) W77 (Or.inr (Nat.le_of_eq ga2.symm))) W81 (Or.inr (Nat.le_of_eq ga2.symm)))
  exact G.retA H80 (t := (.array .char)) rfl rfl rfl dc_method_3_code_249 (so := []) all0 (by decide) (by decide) ⟨a2, k5, rfl, rfl, K83, (Nat.le_of_eq ga2.symm), A82⟩
set_option maxRecDepth 65536 in
set_option maxHeartbeats 40000000 in
theorem m63_length {l : Launch} {Z : State} {a0 : Array Value} {n0 : Nat} {z_COMPACT_STRINGS : Int32} {z_SIOOBE_FORMATTER : Value} (V : Env1 Z a0 n0 z_COMPACT_STRINGS z_SIOOBE_FORMATTER) (p0 : Addr) (p1 : Addr) (c0 : ClassId) (x0 : Int32) (x1 : Int32) (x2 : Int32) (x3 : Int32) (x4 : Int32) (x5 : Int32) (x6 : Int32) (x7 : Int32) (x8 : Int32) (x9 : Int32) (x10 : Int32) (x11 : Int32) (x12 : Int32) (x13 : Int32) (x14 : Int32) (x15 : Int32) (x16 : Int32) (x17 : Int32) (x18 : Int32) (h0 : Heap) (hO : Old Z n0 h0) (f0 : Fld Z h0 p0 "java/lang/String" "value" "[B" (.ref p1)) (f1 : Arv Z h0 p1 c0 .byte (19 : Int32) [(.int x0), (.int x1), (.int x2), (.int x3), (.int x4), (.int x5), (.int x6), (.int x7), (.int x8), (.int x9), (.int x10), (.int x11), (.int x12), (.int x13), (.int x14), (.int x15), (.int x16), (.int x17), (.int x18)] (.int 0)) (f2 : Exa Z h0 p0 "java/lang/String") (f3 : Fld Z h0 p0 "java/lang/String" "coder" "B" (.int (0 : Int32))) :
    Met Z a0 ELs True n0 l (⟨"java/lang/String", "length", "()I"⟩ : MethodName) jdk_42_method_54_code 1 (Option.some FieldType.int) ({ frames := 1, cells := 0, slots := 0, locals := 13 } : Room) #[(.ref p0)] h0 [] (fun v h so => (v = some (.int (19 : Int32)) ∧ so = [] ∧ h0 = h)) := by
  refine Met.of (EWl V) (by first | decide +kernel | rfl) hO (L0 := #[.val (.ref p0)]) rfl ?_
  intro p e s m below meth c T H
  show Go p e below _ (T.setTop (mkF m 0 #[.val (.ref p0)] []))
  refine G.aloadN H dc_jdk_42_method_54_code_0 (pc' := 1) rfl rfl rfl ?_
  refine G.getF H (wd34 V) Via.refl f0 dc_jdk_42_method_54_code_1 (pc' := 4) rfl ?_
  intro T1 H2
  refine G.arrlen H2 f1 dc_jdk_42_method_54_code_4 (pc' := 5) rfl ?_
  refine G.aloadN H2 dc_jdk_42_method_54_code_5 (pc' := 6) rfl rfl rfl ?_
  refine G.callV H2 (m4_coder V p0 h0 H2.old f3) (wd45 V) (wd46 V) (nf_sel (wd48 V)) (wd48 V) (wd47 V) (wd5 V) (wd49 V) (by decide) f2 (argsL := []) (rest := [(.int (19 : Int32))]) (W := 1) rfl rfl (lenOf (pd_3) rfl) rfl rfl dc_jdk_42_method_54_code_6 (pc' := 9) rfl (by decide) (by decide) (by decide) (by decide) all0 ?_
  intro T3 h3_ v4 s5 H3 Q6
  obtain ⟨rfl, rfl, rfl⟩ := Q6
  show Go p e below _ (T3.setTop (mkF m 9 #[.val (.ref p0)] [(.int (0 : Int32)), (.int (19 : Int32))]))
  refine G.ishr H3 dc_jdk_42_method_54_code_9 (pc' := 10) rfl ?_
  show Go p e below _ (T3.setTop (mkF m 10 #[.val (.ref p0)] [(.int (19 : Int32))]))
  exact G.retI H3 rfl dc_jdk_42_method_54_code_10 (so := []) all0 (by decide) (by decide) ⟨rfl, rfl, rfl⟩
set_option maxRecDepth 65536 in
set_option maxHeartbeats 40000000 in
theorem m64_untimed {l : Launch} {Z : State} {a0 : Array Value} {n0 : Nat} {z_COMPACT_STRINGS : Int32} {z_SIOOBE_FORMATTER : Value} (V : Env1 Z a0 n0 z_COMPACT_STRINGS z_SIOOBE_FORMATTER) (p0 : Addr) (p1 : Addr) (c0 : ClassId) (x0 : Int32) (x1 : Int32) (x2 : Int32) (x3 : Int32) (x4 : Int32) (x5 : Int32) (x6 : Int32) (x7 : Int32) (x8 : Int32) (x9 : Int32) (x10 : Int32) (x11 : Int32) (x12 : Int32) (x13 : Int32) (x14 : Int32) (x15 : Int32) (x16 : Int32) (x17 : Int32) (x18 : Int32) (h0 : Heap) (hO : Old Z n0 h0) (f0 : Exa Z h0 p0 "java/lang/String") (f1 : Fld Z h0 p0 "java/lang/String" "value" "[B" (.ref p1)) (f2 : Arv Z h0 p1 c0 .byte (19 : Int32) [(.int x0), (.int x1), (.int x2), (.int x3), (.int x4), (.int x5), (.int x6), (.int x7), (.int x8), (.int x9), (.int x10), (.int x11), (.int x12), (.int x13), (.int x14), (.int x15), (.int x16), (.int x17), (.int x18)] (.int 0)) (f3 : Fld Z h0 p0 "java/lang/String" "coder" "B" (.int (0 : Int32))) :
    Met Z a0 ELs True n0 l (⟨"com/example/tenure/tenure/Days", "untimed", "(Ljava/lang/String;)Z"⟩ : MethodName) prog_14_method_4_code 1 (Option.some FieldType.boolean) ({ frames := 2, cells := 2, slots := 44, locals := 26 } : Room) #[(.ref p0)] h0 [p0, p1] (fun v h so => (v = some (.int (0 : Int32)) ∧ so = [] ∧ Keep h0 h [])) := by
  refine Met.of (EWl V) (by first | decide +kernel | rfl) hO (L0 := #[.val (.ref p0)]) rfl ?_
  intro p e s m below meth c T H
  show Go p e below _ (T.setTop (mkF m 0 #[.val (.ref p0)] []))
  refine G.aloadN H dc_prog_14_method_4_code_0 (pc' := 1) rfl rfl rfl ?_
  refine G.callV H (m63_length V p0 p1 c0 x0 x1 x2 x3 x4 x5 x6 x7 x8 x9 x10 x11 x12 x13 x14 x15 x16 x17 x18 h0 H.old f1 f2 f0 f3) (wd40 V) (wd41 V) (nf_sel (wd43 V)) (wd43 V) (wd42 V) (wd5 V) (wd44 V) (by decide) f0 (argsL := []) (rest := []) (W := 0) rfl rfl (lenOf (pd_4) rfl) rfl rfl dc_prog_14_method_4_code_1 (pc' := 4) rfl (by decide) (by decide) (by decide) (by decide) all0 ?_
  intro T1 h1_ v2 s3 H1 Q4
  obtain ⟨rfl, rfl, rfl⟩ := Q4
  show Go p e below _ (T1.setTop (mkF m 4 #[.val (.ref p0)] [(.int (19 : Int32))]))
  refine G.ldcS H1 trivial (wS V) (wd50 V) (by decide) (vs := [(.int (48 : Int32)), (.int (48 : Int32)), (.int (48 : Int32)), (.int (48 : Int32)), (.int (45 : Int32)), (.int (48 : Int32)), (.int (48 : Int32)), (.int (45 : Int32)), (.int (48 : Int32)), (.int (48 : Int32))]) (z := (10 : Int32)) (by decide) (by decide) rfl (n := 40) (by decide) (by decide) (by decide) (by decide) dc_prog_14_method_4_code_4 (pc' := 6) rfl ?_
  intro T5 h5_ a6 b8 k9 H5 E7 X10 F11 F12 A13 Q14
  have S15 : Str Z h5_ a6 b8 k9 [(48 : Int32), (48 : Int32), (48 : Int32), (48 : Int32), (45 : Int32), (48 : Int32), (48 : Int32), (45 : Int32), (48 : Int32), (48 : Int32)] := ⟨X10, F11, F12, A13, by decide, by decide⟩
  show Go p e below _ (T5.setTop (mkF m 6 #[.val (.ref p0)] [(.ref a6), (.int (19 : Int32))]))
  refine G.callV H5 (m6_length V a6 b8 k9 h5_ H5.old F12 A13 X10 F11) (wd40 V) (wd41 V) (nf_sel (wd43 V)) (wd43 V) (wd42 V) (wd5 V) (wd44 V) (by decide) X10 (argsL := []) (rest := [(.int (19 : Int32))]) (W := 1) rfl rfl (lenOf (pd_4) rfl) rfl rfl dc_prog_14_method_4_code_6 (pc' := 9) rfl (by decide) (by decide) (by decide) (by decide) all0 ?_
  intro T16 h16_ v17 s18 H16 Q19
  obtain ⟨rfl, rfl, rfl⟩ := Q19
  show Go p e below _ (T16.setTop (mkF m 9 #[.val (.ref p0)] [(.int (10 : Int32)), (.int (19 : Int32))]))
  refine G.icmpYes H16 dc_prog_14_method_4_code_9 (by decide) (by decide) (pc' := 16) rfl ?_
  refine G.iconst H16 dc_prog_14_method_4_code_16 (pc' := 17) rfl (v := (0 : Int32)) rfl ?_
  have K20 : Keep h0 h5_ [] := (Keep.ext (Keep.refl h0 []) E7)
  exact G.retN H16 (t := .boolean) rfl (by decide) dc_prog_14_method_4_code_17 (so := []) all0 (by decide) (by decide) ⟨rfl, rfl, K20⟩
set_option maxRecDepth 65536 in
set_option maxHeartbeats 40000000 in
theorem m65_prefix {l : Launch} {Z : State} {a0 : Array Value} {n0 : Nat} {z_COMPACT_STRINGS : Int32} {z_SIOOBE_FORMATTER : Value} (V : Env1 Z a0 n0 z_COMPACT_STRINGS z_SIOOBE_FORMATTER) (p0 : Addr) (c0 : ClassId) (x0 : Int32) (x1 : Int32) (x2 : Int32) (x3 : Int32) (x4 : Int32) (x5 : Int32) (x6 : Int32) (x7 : Int32) (x8 : Int32) (x9 : Int32) (x10 : Int32) (x11 : Int32) (x12 : Int32) (x13 : Int32) (x14 : Int32) (x15 : Int32) (x16 : Int32) (x17 : Int32) (x18 : Int32) (x19 : Int32) (h0 : Heap) (hO : Old Z n0 h0) (f0 : Arv Z h0 p0 c0 .char (20 : Int32) [(.int x0), (.int x1), (.int x2), (.int x3), (.int x4), (.int x5), (.int x6), (.int x7), (.int x8), (.int x9), (.int x10), (.int x11), (.int x12), (.int x13), (.int x14), (.int x15), (.int x16), (.int x17), (.int x18), (.int x19)] (.int 0)) (r1 : ¬ x19 < 0 ∧ ¬ (65535 : Int32) < x19) (r2 : ¬ x18 < 0 ∧ ¬ (65535 : Int32) < x18) (r3 : ¬ x17 < 0 ∧ ¬ (65535 : Int32) < x17) (r4 : ¬ x16 < 0 ∧ ¬ (65535 : Int32) < x16) (r5 : ¬ x15 < 0 ∧ ¬ (65535 : Int32) < x15) (r6 : ¬ x14 < 0 ∧ ¬ (65535 : Int32) < x14) (r7 : ¬ x13 < 0 ∧ ¬ (65535 : Int32) < x13) (r8 : ¬ x12 < 0 ∧ ¬ (65535 : Int32) < x12) (r9 : ¬ x11 < 0 ∧ ¬ (65535 : Int32) < x11) (r10 : ¬ x10 < 0 ∧ ¬ (65535 : Int32) < x10) (r11 : ¬ x9 < 0 ∧ ¬ (65535 : Int32) < x9) (r12 : ¬ x8 < 0 ∧ ¬ (65535 : Int32) < x8) (r13 : ¬ x7 < 0 ∧ ¬ (65535 : Int32) < x7) (r14 : ¬ x6 < 0 ∧ ¬ (65535 : Int32) < x6) (r15 : ¬ x5 < 0 ∧ ¬ (65535 : Int32) < x5) (r16 : ¬ x4 < 0 ∧ ¬ (65535 : Int32) < x4) (r17 : ¬ x3 < 0 ∧ ¬ (65535 : Int32) < x3) (r18 : ¬ x2 < 0 ∧ ¬ (65535 : Int32) < x2) (r19 : ¬ x1 < 0 ∧ ¬ (65535 : Int32) < x1) (r20 : ¬ x0 < 0 ∧ ¬ (65535 : Int32) < x0) :
    Met Z a0 ELs True n0 l (⟨"com/example/tenure/tenure/DaysUntimedPinLaw", "prefix", "([CI)[C"⟩ : MethodName) method_3_code 3 (Option.some (FieldType.array FieldType.char)) ({ frames := 0, cells := 1, slots := 20, locals := 0 } : Room) #[(.ref p0), (.int (20 : Int32))] h0 [] (fun v h so => (∃ a2 : Addr, ∃ k5 : ClassId, v = some (.ref a2) ∧ so = [] ∧ Keep h0 h [] ∧ h0.size ≤ a2 ∧ Arv Z h a2 k5 .char (20 : Int32) [(.int x0), (.int x1), (.int x2), (.int x3), (.int x4), (.int x5), (.int x6), (.int x7), (.int x8), (.int x9), (.int x10), (.int x11), (.int x12), (.int x13), (.int x14), (.int x15), (.int x16), (.int x17), (.int x18), (.int x19)] (.int 0))) := by
  refine Met.of (EWl V) (by first | decide +kernel | rfl) hO (L0 := #[.val (.ref p0), .val (.int (20 : Int32)), .unset]) rfl ?_
  intro p e s m below meth c T H
  show Go p e below _ (T.setTop (mkF m 0 #[.val (.ref p0), .val (.int (20 : Int32)), .unset] []))
  refine G.iloadN H dc_method_3_code_0 (pc' := 1) rfl rfl ?_
  refine G.newP H (aty := .char) (wd0 V) dc_method_3_code_1 (pc' := 3) rfl (by decide) (cap := 20) (by decide) (by decide) (by decide) (by decide) (vs := [(.int (0 : Int32)), (.int (0 : Int32)), (.int (0 : Int32)), (.int (0 : Int32)), (.int (0 : Int32)), (.int (0 : Int32)), (.int (0 : Int32)), (.int (0 : Int32)), (.int (0 : Int32)), (.int (0 : Int32)), (.int (0 : Int32)), (.int (0 : Int32)), (.int (0 : Int32)), (.int (0 : Int32)), (.int (0 : Int32)), (.int (0 : Int32)), (.int (0 : Int32)), (.int (0 : Int32)), (.int (0 : Int32)), (.int (0 : Int32))]) rfl ?_
  intro T1 h1_ a2 k5 ga2 H1 E3 A4
  have na2 : n0 ≤ a2 := Nat.le_trans H.le (Nat.le_of_eq ga2.symm)
  replace A4 : Arv Z h1_ a2 k5 .char (20 : Int32) [(.int (0 : Int32)), (.int (0 : Int32)), (.int (0 : Int32)), (.int (0 : Int32)), (.int (0 : Int32)), (.int (0 : Int32)), (.int (0 : Int32)), (.int (0 : Int32)), (.int (0 : Int32)), (.int (0 : Int32)), (.int (0 : Int32)), (.int (0 : Int32)), (.int (0 : Int32)), (.int (0 : Int32)), (.int (0 : Int32)), (.int (0 : Int32)), (.int (0 : Int32)), (.int (0 : Int32)), (.int (0 : Int32)), (.int (0 : Int32))] (.int 0) := A4
  show Go p e below _ (T1.setTop (mkF m 3 #[.val (.ref p0), .val (.int (20 : Int32)), .unset] [(.ref a2)]))
  refine G.astoreN H1 (L' := #[.val (.ref p0), .val (.int (20 : Int32)), .val (.ref a2)]) dc_method_3_code_3 (pc' := 4) rfl rfl rfl ?_
  refine G.iloadN H1 dc_method_3_code_4 (pc' := 5) rfl rfl ?_
  refine G.tswIn H1 dc_method_3_code_5 (by decide) (o := 95) rfl (by decide) (pc' := 100) rfl ?_
  refine G.aloadN H1 dc_method_3_code_100 (pc' := 101) rfl rfl rfl ?_
  refine G.bipush H1 dc_method_3_code_101 (pc' := 103) rfl (v := (19 : Int32)) rfl ?_
  refine G.aloadN H1 dc_method_3_code_103 (pc' := 104) rfl rfl rfl ?_
  refine G.bipush H1 dc_method_3_code_104 (pc' := 106) rfl (v := (19 : Int32)) rfl ?_
  have F6 : Arv Z h1_ p0 c0 .char (20 : Int32) [(.int x0), (.int x1), (.int x2), (.int x3), (.int x4), (.int x5), (.int x6), (.int x7), (.int x8), (.int x9), (.int x10), (.int x11), (.int x12), (.int x13), (.int x14), (.int x15), (.int x16), (.int x17), (.int x18), (.int x19)] (.int 0) := (Arv.ext f0 E3)
  refine G.caloadG H1 F6 (j := (19 : Int32)) (v := (.int x19)) (by decide) rfl dc_method_3_code_106 (pc' := 107) rfl ?_
  refine G.stC H1 A4 (by decide) (i := 19) rfl (Nat.le_of_ble_eq_true rfl) na2 (y := x19) (own_narC r1) dc_method_3_code_107 (pc' := 108) rfl ?_
  intro T7 h7_ H7 W8 A9
  replace A9 : Arv Z h7_ a2 k5 .char (20 : Int32) [(.int (0 : Int32)), (.int (0 : Int32)), (.int (0 : Int32)), (.int (0 : Int32)), (.int (0 : Int32)), (.int (0 : Int32)), (.int (0 : Int32)), (.int (0 : Int32)), (.int (0 : Int32)), (.int (0 : Int32)), (.int (0 : Int32)), (.int (0 : Int32)), (.int (0 : Int32)), (.int (0 : Int32)), (.int (0 : Int32)), (.int (0 : Int32)), (.int (0 : Int32)), (.int (0 : Int32)), (.int (0 : Int32)), (.int x19)] (.int 0) := A9
  show Go p e below _ (T7.setTop (mkF m 108 #[.val (.ref p0), .val (.int (20 : Int32)), .val (.ref a2)] []))
  refine G.aloadN H7 dc_method_3_code_108 (pc' := 109) rfl rfl rfl ?_
  refine G.bipush H7 dc_method_3_code_109 (pc' := 111) rfl (v := (18 : Int32)) rfl ?_
  refine G.aloadN H7 dc_method_3_code_111 (pc' := 112) rfl rfl rfl ?_
  refine G.bipush H7 dc_method_3_code_112 (pc' := 114) rfl (v := (18 : Int32)) rfl ?_
  have N10 : p0 ≠ a2 := (Nat.ne_of_lt (Nat.lt_of_lt_of_le f0.lt (Nat.le_of_eq ga2.symm)))
  have F11 : Arv Z h7_ p0 c0 .char (20 : Int32) [(.int x0), (.int x1), (.int x2), (.int x3), (.int x4), (.int x5), (.int x6), (.int x7), (.int x8), (.int x9), (.int x10), (.int x11), (.int x12), (.int x13), (.int x14), (.int x15), (.int x16), (.int x17), (.int x18), (.int x19)] (.int 0) := (Arv.other F6 W8 N10)
  refine G.caloadG H7 F11 (j := (18 : Int32)) (v := (.int x18)) (by decide) rfl dc_method_3_code_114 (pc' := 115) rfl ?_
  refine G.stC H7 A9 (by decide) (i := 18) rfl (Nat.le_of_ble_eq_true rfl) na2 (y := x18) (own_narC r2) dc_method_3_code_115 (pc' := 116) rfl ?_
  intro T12 h12_ H12 W13 A14
  replace A14 : Arv Z h12_ a2 k5 .char (20 : Int32) [(.int (0 : Int32)), (.int (0 : Int32)), (.int (0 : Int32)), (.int (0 : Int32)), (.int (0 : Int32)), (.int (0 : Int32)), (.int (0 : Int32)), (.int (0 : Int32)), (.int (0 : Int32)), (.int (0 : Int32)), (.int (0 : Int32)), (.int (0 : Int32)), (.int (0 : Int32)), (.int (0 : Int32)), (.int (0 : Int32)), (.int (0 : Int32)), (.int (0 : Int32)), (.int (0 : Int32)), (.int x18), (.int x19)] (.int 0) := A14
  show Go p e below _ (T12.setTop (mkF m 116 #[.val (.ref p0), .val (.int (20 : Int32)), .val (.ref a2)] []))
  refine G.aloadN H12 dc_method_3_code_116 (pc' := 117) rfl rfl rfl ?_
  refine G.bipush H12 dc_method_3_code_117 (pc' := 119) rfl (v := (17 : Int32)) rfl ?_
  refine G.aloadN H12 dc_method_3_code_119 (pc' := 120) rfl rfl rfl ?_
  refine G.bipush H12 dc_method_3_code_120 (pc' := 122) rfl (v := (17 : Int32)) rfl ?_
  have F15 : Arv Z h12_ p0 c0 .char (20 : Int32) [(.int x0), (.int x1), (.int x2), (.int x3), (.int x4), (.int x5), (.int x6), (.int x7), (.int x8), (.int x9), (.int x10), (.int x11), (.int x12), (.int x13), (.int x14), (.int x15), (.int x16), (.int x17), (.int x18), (.int x19)] (.int 0) := (Arv.other F11 W13 N10)
  refine G.caloadG H12 F15 (j := (17 : Int32)) (v := (.int x17)) (by decide) rfl dc_method_3_code_122 (pc' := 123) rfl ?_
  refine G.stC H12 A14 (by decide) (i := 17) rfl (Nat.le_of_ble_eq_true rfl) na2 (y := x17) (own_narC r3) dc_method_3_code_123 (pc' := 124) rfl ?_
  intro T16 h16_ H16 W17 A18
  replace A18 : Arv Z h16_ a2 k5 .char (20 : Int32) [(.int (0 : Int32)), (.int (0 : Int32)), (.int (0 : Int32)), (.int (0 : Int32)), (.int (0 : Int32)), (.int (0 : Int32)), (.int (0 : Int32)), (.int (0 : Int32)), (.int (0 : Int32)), (.int (0 : Int32)), (.int (0 : Int32)), (.int (0 : Int32)), (.int (0 : Int32)), (.int (0 : Int32)), (.int (0 : Int32)), (.int (0 : Int32)), (.int (0 : Int32)), (.int x17), (.int x18), (.int x19)] (.int 0) := A18
  show Go p e below _ (T16.setTop (mkF m 124 #[.val (.ref p0), .val (.int (20 : Int32)), .val (.ref a2)] []))
  refine G.aloadN H16 dc_method_3_code_124 (pc' := 125) rfl rfl rfl ?_
  refine G.bipush H16 dc_method_3_code_125 (pc' := 127) rfl (v := (16 : Int32)) rfl ?_
  refine G.aloadN H16 dc_method_3_code_127 (pc' := 128) rfl rfl rfl ?_
  refine G.bipush H16 dc_method_3_code_128 (pc' := 130) rfl (v := (16 : Int32)) rfl ?_
  have F19 : Arv Z h16_ p0 c0 .char (20 : Int32) [(.int x0), (.int x1), (.int x2), (.int x3), (.int x4), (.int x5), (.int x6), (.int x7), (.int x8), (.int x9), (.int x10), (.int x11), (.int x12), (.int x13), (.int x14), (.int x15), (.int x16), (.int x17), (.int x18), (.int x19)] (.int 0) := (Arv.other F15 W17 N10)
  refine G.caloadG H16 F19 (j := (16 : Int32)) (v := (.int x16)) (by decide) rfl dc_method_3_code_130 (pc' := 131) rfl ?_
  refine G.stC H16 A18 (by decide) (i := 16) rfl (Nat.le_of_ble_eq_true rfl) na2 (y := x16) (own_narC r4) dc_method_3_code_131 (pc' := 132) rfl ?_
  intro T20 h20_ H20 W21 A22
  replace A22 : Arv Z h20_ a2 k5 .char (20 : Int32) [(.int (0 : Int32)), (.int (0 : Int32)), (.int (0 : Int32)), (.int (0 : Int32)), (.int (0 : Int32)), (.int (0 : Int32)), (.int (0 : Int32)), (.int (0 : Int32)), (.int (0 : Int32)), (.int (0 : Int32)), (.int (0 : Int32)), (.int (0 : Int32)), (.int (0 : Int32)), (.int (0 : Int32)), (.int (0 : Int32)), (.int (0 : Int32)), (.int x16), (.int x17), (.int x18), (.int x19)] (.int 0) := A22
  show Go p e below _ (T20.setTop (mkF m 132 #[.val (.ref p0), .val (.int (20 : Int32)), .val (.ref a2)] []))
  refine G.aloadN H20 dc_method_3_code_132 (pc' := 133) rfl rfl rfl ?_
  refine G.bipush H20 dc_method_3_code_133 (pc' := 135) rfl (v := (15 : Int32)) rfl ?_
  refine G.aloadN H20 dc_method_3_code_135 (pc' := 136) rfl rfl rfl ?_
  refine G.bipush H20 dc_method_3_code_136 (pc' := 138) rfl (v := (15 : Int32)) rfl ?_
  have F23 : Arv Z h20_ p0 c0 .char (20 : Int32) [(.int x0), (.int x1), (.int x2), (.int x3), (.int x4), (.int x5), (.int x6), (.int x7), (.int x8), (.int x9), (.int x10), (.int x11), (.int x12), (.int x13), (.int x14), (.int x15), (.int x16), (.int x17), (.int x18), (.int x19)] (.int 0) := (Arv.other F19 W21 N10)
  refine G.caloadG H20 F23 (j := (15 : Int32)) (v := (.int x15)) (by decide) rfl dc_method_3_code_138 (pc' := 139) rfl ?_
  refine G.stC H20 A22 (by decide) (i := 15) rfl (Nat.le_of_ble_eq_true rfl) na2 (y := x15) (own_narC r5) dc_method_3_code_139 (pc' := 140) rfl ?_
  intro T24 h24_ H24 W25 A26
  replace A26 : Arv Z h24_ a2 k5 .char (20 : Int32) [(.int (0 : Int32)), (.int (0 : Int32)), (.int (0 : Int32)), (.int (0 : Int32)), (.int (0 : Int32)), (.int (0 : Int32)), (.int (0 : Int32)), (.int (0 : Int32)), (.int (0 : Int32)), (.int (0 : Int32)), (.int (0 : Int32)), (.int (0 : Int32)), (.int (0 : Int32)), (.int (0 : Int32)), (.int (0 : Int32)), (.int x15), (.int x16), (.int x17), (.int x18), (.int x19)] (.int 0) := A26
  show Go p e below _ (T24.setTop (mkF m 140 #[.val (.ref p0), .val (.int (20 : Int32)), .val (.ref a2)] []))
  refine G.aloadN H24 dc_method_3_code_140 (pc' := 141) rfl rfl rfl ?_
  refine G.bipush H24 dc_method_3_code_141 (pc' := 143) rfl (v := (14 : Int32)) rfl ?_
  refine G.aloadN H24 dc_method_3_code_143 (pc' := 144) rfl rfl rfl ?_
  refine G.bipush H24 dc_method_3_code_144 (pc' := 146) rfl (v := (14 : Int32)) rfl ?_
  have F27 : Arv Z h24_ p0 c0 .char (20 : Int32) [(.int x0), (.int x1), (.int x2), (.int x3), (.int x4), (.int x5), (.int x6), (.int x7), (.int x8), (.int x9), (.int x10), (.int x11), (.int x12), (.int x13), (.int x14), (.int x15), (.int x16), (.int x17), (.int x18), (.int x19)] (.int 0) := (Arv.other F23 W25 N10)
  refine G.caloadG H24 F27 (j := (14 : Int32)) (v := (.int x14)) (by decide) rfl dc_method_3_code_146 (pc' := 147) rfl ?_
  refine G.stC H24 A26 (by decide) (i := 14) rfl (Nat.le_of_ble_eq_true rfl) na2 (y := x14) (own_narC r6) dc_method_3_code_147 (pc' := 148) rfl ?_
  intro T28 h28_ H28 W29 A30
  replace A30 : Arv Z h28_ a2 k5 .char (20 : Int32) [(.int (0 : Int32)), (.int (0 : Int32)), (.int (0 : Int32)), (.int (0 : Int32)), (.int (0 : Int32)), (.int (0 : Int32)), (.int (0 : Int32)), (.int (0 : Int32)), (.int (0 : Int32)), (.int (0 : Int32)), (.int (0 : Int32)), (.int (0 : Int32)), (.int (0 : Int32)), (.int (0 : Int32)), (.int x14), (.int x15), (.int x16), (.int x17), (.int x18), (.int x19)] (.int 0) := A30
  show Go p e below _ (T28.setTop (mkF m 148 #[.val (.ref p0), .val (.int (20 : Int32)), .val (.ref a2)] []))
  refine G.aloadN H28 dc_method_3_code_148 (pc' := 149) rfl rfl rfl ?_
  refine G.bipush H28 dc_method_3_code_149 (pc' := 151) rfl (v := (13 : Int32)) rfl ?_
  refine G.aloadN H28 dc_method_3_code_151 (pc' := 152) rfl rfl rfl ?_
  refine G.bipush H28 dc_method_3_code_152 (pc' := 154) rfl (v := (13 : Int32)) rfl ?_
  have F31 : Arv Z h28_ p0 c0 .char (20 : Int32) [(.int x0), (.int x1), (.int x2), (.int x3), (.int x4), (.int x5), (.int x6), (.int x7), (.int x8), (.int x9), (.int x10), (.int x11), (.int x12), (.int x13), (.int x14), (.int x15), (.int x16), (.int x17), (.int x18), (.int x19)] (.int 0) := (Arv.other F27 W29 N10)
  refine G.caloadG H28 F31 (j := (13 : Int32)) (v := (.int x13)) (by decide) rfl dc_method_3_code_154 (pc' := 155) rfl ?_
  refine G.stC H28 A30 (by decide) (i := 13) rfl (Nat.le_of_ble_eq_true rfl) na2 (y := x13) (own_narC r7) dc_method_3_code_155 (pc' := 156) rfl ?_
  intro T32 h32_ H32 W33 A34
  replace A34 : Arv Z h32_ a2 k5 .char (20 : Int32) [(.int (0 : Int32)), (.int (0 : Int32)), (.int (0 : Int32)), (.int (0 : Int32)), (.int (0 : Int32)), (.int (0 : Int32)), (.int (0 : Int32)), (.int (0 : Int32)), (.int (0 : Int32)), (.int (0 : Int32)), (.int (0 : Int32)), (.int (0 : Int32)), (.int (0 : Int32)), (.int x13), (.int x14), (.int x15), (.int x16), (.int x17), (.int x18), (.int x19)] (.int 0) := A34
  show Go p e below _ (T32.setTop (mkF m 156 #[.val (.ref p0), .val (.int (20 : Int32)), .val (.ref a2)] []))
  refine G.aloadN H32 dc_method_3_code_156 (pc' := 157) rfl rfl rfl ?_
  refine G.bipush H32 dc_method_3_code_157 (pc' := 159) rfl (v := (12 : Int32)) rfl ?_
  refine G.aloadN H32 dc_method_3_code_159 (pc' := 160) rfl rfl rfl ?_
  refine G.bipush H32 dc_method_3_code_160 (pc' := 162) rfl (v := (12 : Int32)) rfl ?_
  have F35 : Arv Z h32_ p0 c0 .char (20 : Int32) [(.int x0), (.int x1), (.int x2), (.int x3), (.int x4), (.int x5), (.int x6), (.int x7), (.int x8), (.int x9), (.int x10), (.int x11), (.int x12), (.int x13), (.int x14), (.int x15), (.int x16), (.int x17), (.int x18), (.int x19)] (.int 0) := (Arv.other F31 W33 N10)
  refine G.caloadG H32 F35 (j := (12 : Int32)) (v := (.int x12)) (by decide) rfl dc_method_3_code_162 (pc' := 163) rfl ?_
  refine G.stC H32 A34 (by decide) (i := 12) rfl (Nat.le_of_ble_eq_true rfl) na2 (y := x12) (own_narC r8) dc_method_3_code_163 (pc' := 164) rfl ?_
  intro T36 h36_ H36 W37 A38
  replace A38 : Arv Z h36_ a2 k5 .char (20 : Int32) [(.int (0 : Int32)), (.int (0 : Int32)), (.int (0 : Int32)), (.int (0 : Int32)), (.int (0 : Int32)), (.int (0 : Int32)), (.int (0 : Int32)), (.int (0 : Int32)), (.int (0 : Int32)), (.int (0 : Int32)), (.int (0 : Int32)), (.int (0 : Int32)), (.int x12), (.int x13), (.int x14), (.int x15), (.int x16), (.int x17), (.int x18), (.int x19)] (.int 0) := A38
  show Go p e below _ (T36.setTop (mkF m 164 #[.val (.ref p0), .val (.int (20 : Int32)), .val (.ref a2)] []))
  refine G.aloadN H36 dc_method_3_code_164 (pc' := 165) rfl rfl rfl ?_
  refine G.bipush H36 dc_method_3_code_165 (pc' := 167) rfl (v := (11 : Int32)) rfl ?_
  refine G.aloadN H36 dc_method_3_code_167 (pc' := 168) rfl rfl rfl ?_
  refine G.bipush H36 dc_method_3_code_168 (pc' := 170) rfl (v := (11 : Int32)) rfl ?_
  have F39 : Arv Z h36_ p0 c0 .char (20 : Int32) [(.int x0), (.int x1), (.int x2), (.int x3), (.int x4), (.int x5), (.int x6), (.int x7), (.int x8), (.int x9), (.int x10), (.int x11), (.int x12), (.int x13), (.int x14), (.int x15), (.int x16), (.int x17), (.int x18), (.int x19)] (.int 0) := (Arv.other F35 W37 N10)
  refine G.caloadG H36 F39 (j := (11 : Int32)) (v := (.int x11)) (by decide) rfl dc_method_3_code_170 (pc' := 171) rfl ?_
  refine G.stC H36 A38 (by decide) (i := 11) rfl (Nat.le_of_ble_eq_true rfl) na2 (y := x11) (own_narC r9) dc_method_3_code_171 (pc' := 172) rfl ?_
  intro T40 h40_ H40 W41 A42
  replace A42 : Arv Z h40_ a2 k5 .char (20 : Int32) [(.int (0 : Int32)), (.int (0 : Int32)), (.int (0 : Int32)), (.int (0 : Int32)), (.int (0 : Int32)), (.int (0 : Int32)), (.int (0 : Int32)), (.int (0 : Int32)), (.int (0 : Int32)), (.int (0 : Int32)), (.int (0 : Int32)), (.int x11), (.int x12), (.int x13), (.int x14), (.int x15), (.int x16), (.int x17), (.int x18), (.int x19)] (.int 0) := A42
  show Go p e below _ (T40.setTop (mkF m 172 #[.val (.ref p0), .val (.int (20 : Int32)), .val (.ref a2)] []))
  refine G.aloadN H40 dc_method_3_code_172 (pc' := 173) rfl rfl rfl ?_
  refine G.bipush H40 dc_method_3_code_173 (pc' := 175) rfl (v := (10 : Int32)) rfl ?_
  refine G.aloadN H40 dc_method_3_code_175 (pc' := 176) rfl rfl rfl ?_
  refine G.bipush H40 dc_method_3_code_176 (pc' := 178) rfl (v := (10 : Int32)) rfl ?_
  have F43 : Arv Z h40_ p0 c0 .char (20 : Int32) [(.int x0), (.int x1), (.int x2), (.int x3), (.int x4), (.int x5), (.int x6), (.int x7), (.int x8), (.int x9), (.int x10), (.int x11), (.int x12), (.int x13), (.int x14), (.int x15), (.int x16), (.int x17), (.int x18), (.int x19)] (.int 0) := (Arv.other F39 W41 N10)
  refine G.caloadG H40 F43 (j := (10 : Int32)) (v := (.int x10)) (by decide) rfl dc_method_3_code_178 (pc' := 179) rfl ?_
  refine G.stC H40 A42 (by decide) (i := 10) rfl (Nat.le_of_ble_eq_true rfl) na2 (y := x10) (own_narC r10) dc_method_3_code_179 (pc' := 180) rfl ?_
  intro T44 h44_ H44 W45 A46
  replace A46 : Arv Z h44_ a2 k5 .char (20 : Int32) [(.int (0 : Int32)), (.int (0 : Int32)), (.int (0 : Int32)), (.int (0 : Int32)), (.int (0 : Int32)), (.int (0 : Int32)), (.int (0 : Int32)), (.int (0 : Int32)), (.int (0 : Int32)), (.int (0 : Int32)), (.int x10), (.int x11), (.int x12), (.int x13), (.int x14), (.int x15), (.int x16), (.int x17), (.int x18), (.int x19)] (.int 0) := A46
  show Go p e below _ (T44.setTop (mkF m 180 #[.val (.ref p0), .val (.int (20 : Int32)), .val (.ref a2)] []))
  refine G.aloadN H44 dc_method_3_code_180 (pc' := 181) rfl rfl rfl ?_
  refine G.bipush H44 dc_method_3_code_181 (pc' := 183) rfl (v := (9 : Int32)) rfl ?_
  refine G.aloadN H44 dc_method_3_code_183 (pc' := 184) rfl rfl rfl ?_
  refine G.bipush H44 dc_method_3_code_184 (pc' := 186) rfl (v := (9 : Int32)) rfl ?_
  have F47 : Arv Z h44_ p0 c0 .char (20 : Int32) [(.int x0), (.int x1), (.int x2), (.int x3), (.int x4), (.int x5), (.int x6), (.int x7), (.int x8), (.int x9), (.int x10), (.int x11), (.int x12), (.int x13), (.int x14), (.int x15), (.int x16), (.int x17), (.int x18), (.int x19)] (.int 0) := (Arv.other F43 W45 N10)
  refine G.caloadG H44 F47 (j := (9 : Int32)) (v := (.int x9)) (by decide) rfl dc_method_3_code_186 (pc' := 187) rfl ?_
  refine G.stC H44 A46 (by decide) (i := 9) rfl (Nat.le_of_ble_eq_true rfl) na2 (y := x9) (own_narC r11) dc_method_3_code_187 (pc' := 188) rfl ?_
  intro T48 h48_ H48 W49 A50
  replace A50 : Arv Z h48_ a2 k5 .char (20 : Int32) [(.int (0 : Int32)), (.int (0 : Int32)), (.int (0 : Int32)), (.int (0 : Int32)), (.int (0 : Int32)), (.int (0 : Int32)), (.int (0 : Int32)), (.int (0 : Int32)), (.int (0 : Int32)), (.int x9), (.int x10), (.int x11), (.int x12), (.int x13), (.int x14), (.int x15), (.int x16), (.int x17), (.int x18), (.int x19)] (.int 0) := A50
  show Go p e below _ (T48.setTop (mkF m 188 #[.val (.ref p0), .val (.int (20 : Int32)), .val (.ref a2)] []))
  refine G.aloadN H48 dc_method_3_code_188 (pc' := 189) rfl rfl rfl ?_
  refine G.bipush H48 dc_method_3_code_189 (pc' := 191) rfl (v := (8 : Int32)) rfl ?_
  refine G.aloadN H48 dc_method_3_code_191 (pc' := 192) rfl rfl rfl ?_
  refine G.bipush H48 dc_method_3_code_192 (pc' := 194) rfl (v := (8 : Int32)) rfl ?_
  have F51 : Arv Z h48_ p0 c0 .char (20 : Int32) [(.int x0), (.int x1), (.int x2), (.int x3), (.int x4), (.int x5), (.int x6), (.int x7), (.int x8), (.int x9), (.int x10), (.int x11), (.int x12), (.int x13), (.int x14), (.int x15), (.int x16), (.int x17), (.int x18), (.int x19)] (.int 0) := (Arv.other F47 W49 N10)
  refine G.caloadG H48 F51 (j := (8 : Int32)) (v := (.int x8)) (by decide) rfl dc_method_3_code_194 (pc' := 195) rfl ?_
  refine G.stC H48 A50 (by decide) (i := 8) rfl (Nat.le_of_ble_eq_true rfl) na2 (y := x8) (own_narC r12) dc_method_3_code_195 (pc' := 196) rfl ?_
  intro T52 h52_ H52 W53 A54
  replace A54 : Arv Z h52_ a2 k5 .char (20 : Int32) [(.int (0 : Int32)), (.int (0 : Int32)), (.int (0 : Int32)), (.int (0 : Int32)), (.int (0 : Int32)), (.int (0 : Int32)), (.int (0 : Int32)), (.int (0 : Int32)), (.int x8), (.int x9), (.int x10), (.int x11), (.int x12), (.int x13), (.int x14), (.int x15), (.int x16), (.int x17), (.int x18), (.int x19)] (.int 0) := A54
  show Go p e below _ (T52.setTop (mkF m 196 #[.val (.ref p0), .val (.int (20 : Int32)), .val (.ref a2)] []))
  refine G.aloadN H52 dc_method_3_code_196 (pc' := 197) rfl rfl rfl ?_
  refine G.bipush H52 dc_method_3_code_197 (pc' := 199) rfl (v := (7 : Int32)) rfl ?_
  refine G.aloadN H52 dc_method_3_code_199 (pc' := 200) rfl rfl rfl ?_
  refine G.bipush H52 dc_method_3_code_200 (pc' := 202) rfl (v := (7 : Int32)) rfl ?_
  have F55 : Arv Z h52_ p0 c0 .char (20 : Int32) [(.int x0), (.int x1), (.int x2), (.int x3), (.int x4), (.int x5), (.int x6), (.int x7), (.int x8), (.int x9), (.int x10), (.int x11), (.int x12), (.int x13), (.int x14), (.int x15), (.int x16), (.int x17), (.int x18), (.int x19)] (.int 0) := (Arv.other F51 W53 N10)
  refine G.caloadG H52 F55 (j := (7 : Int32)) (v := (.int x7)) (by decide) rfl dc_method_3_code_202 (pc' := 203) rfl ?_
  refine G.stC H52 A54 (by decide) (i := 7) rfl (Nat.le_of_ble_eq_true rfl) na2 (y := x7) (own_narC r13) dc_method_3_code_203 (pc' := 204) rfl ?_
  intro T56 h56_ H56 W57 A58
  replace A58 : Arv Z h56_ a2 k5 .char (20 : Int32) [(.int (0 : Int32)), (.int (0 : Int32)), (.int (0 : Int32)), (.int (0 : Int32)), (.int (0 : Int32)), (.int (0 : Int32)), (.int (0 : Int32)), (.int x7), (.int x8), (.int x9), (.int x10), (.int x11), (.int x12), (.int x13), (.int x14), (.int x15), (.int x16), (.int x17), (.int x18), (.int x19)] (.int 0) := A58
  show Go p e below _ (T56.setTop (mkF m 204 #[.val (.ref p0), .val (.int (20 : Int32)), .val (.ref a2)] []))
  refine G.aloadN H56 dc_method_3_code_204 (pc' := 205) rfl rfl rfl ?_
  refine G.bipush H56 dc_method_3_code_205 (pc' := 207) rfl (v := (6 : Int32)) rfl ?_
  refine G.aloadN H56 dc_method_3_code_207 (pc' := 208) rfl rfl rfl ?_
  refine G.bipush H56 dc_method_3_code_208 (pc' := 210) rfl (v := (6 : Int32)) rfl ?_
  have F59 : Arv Z h56_ p0 c0 .char (20 : Int32) [(.int x0), (.int x1), (.int x2), (.int x3), (.int x4), (.int x5), (.int x6), (.int x7), (.int x8), (.int x9), (.int x10), (.int x11), (.int x12), (.int x13), (.int x14), (.int x15), (.int x16), (.int x17), (.int x18), (.int x19)] (.int 0) := (Arv.other F55 W57 N10)
  refine G.caloadG H56 F59 (j := (6 : Int32)) (v := (.int x6)) (by decide) rfl dc_method_3_code_210 (pc' := 211) rfl ?_
  refine G.stC H56 A58 (by decide) (i := 6) rfl (Nat.le_of_ble_eq_true rfl) na2 (y := x6) (own_narC r14) dc_method_3_code_211 (pc' := 212) rfl ?_
  intro T60 h60_ H60 W61 A62
  replace A62 : Arv Z h60_ a2 k5 .char (20 : Int32) [(.int (0 : Int32)), (.int (0 : Int32)), (.int (0 : Int32)), (.int (0 : Int32)), (.int (0 : Int32)), (.int (0 : Int32)), (.int x6), (.int x7), (.int x8), (.int x9), (.int x10), (.int x11), (.int x12), (.int x13), (.int x14), (.int x15), (.int x16), (.int x17), (.int x18), (.int x19)] (.int 0) := A62
  show Go p e below _ (T60.setTop (mkF m 212 #[.val (.ref p0), .val (.int (20 : Int32)), .val (.ref a2)] []))
  refine G.aloadN H60 dc_method_3_code_212 (pc' := 213) rfl rfl rfl ?_
  refine G.iconst H60 dc_method_3_code_213 (pc' := 214) rfl (v := (5 : Int32)) rfl ?_
  refine G.aloadN H60 dc_method_3_code_214 (pc' := 215) rfl rfl rfl ?_
  refine G.iconst H60 dc_method_3_code_215 (pc' := 216) rfl (v := (5 : Int32)) rfl ?_
  have F63 : Arv Z h60_ p0 c0 .char (20 : Int32) [(.int x0), (.int x1), (.int x2), (.int x3), (.int x4), (.int x5), (.int x6), (.int x7), (.int x8), (.int x9), (.int x10), (.int x11), (.int x12), (.int x13), (.int x14), (.int x15), (.int x16), (.int x17), (.int x18), (.int x19)] (.int 0) := (Arv.other F59 W61 N10)
  refine G.caloadG H60 F63 (j := (5 : Int32)) (v := (.int x5)) (by decide) rfl dc_method_3_code_216 (pc' := 217) rfl ?_
  refine G.stC H60 A62 (by decide) (i := 5) rfl (Nat.le_of_ble_eq_true rfl) na2 (y := x5) (own_narC r15) dc_method_3_code_217 (pc' := 218) rfl ?_
  intro T64 h64_ H64 W65 A66
  replace A66 : Arv Z h64_ a2 k5 .char (20 : Int32) [(.int (0 : Int32)), (.int (0 : Int32)), (.int (0 : Int32)), (.int (0 : Int32)), (.int (0 : Int32)), (.int x5), (.int x6), (.int x7), (.int x8), (.int x9), (.int x10), (.int x11), (.int x12), (.int x13), (.int x14), (.int x15), (.int x16), (.int x17), (.int x18), (.int x19)] (.int 0) := A66
  show Go p e below _ (T64.setTop (mkF m 218 #[.val (.ref p0), .val (.int (20 : Int32)), .val (.ref a2)] []))
  refine G.aloadN H64 dc_method_3_code_218 (pc' := 219) rfl rfl rfl ?_
  refine G.iconst H64 dc_method_3_code_219 (pc' := 220) rfl (v := (4 : Int32)) rfl ?_
  refine G.aloadN H64 dc_method_3_code_220 (pc' := 221) rfl rfl rfl ?_
  refine G.iconst H64 dc_method_3_code_221 (pc' := 222) rfl (v := (4 : Int32)) rfl ?_
  have F67 : Arv Z h64_ p0 c0 .char (20 : Int32) [(.int x0), (.int x1), (.int x2), (.int x3), (.int x4), (.int x5), (.int x6), (.int x7), (.int x8), (.int x9), (.int x10), (.int x11), (.int x12), (.int x13), (.int x14), (.int x15), (.int x16), (.int x17), (.int x18), (.int x19)] (.int 0) := (Arv.other F63 W65 N10)
  refine G.caloadG H64 F67 (j := (4 : Int32)) (v := (.int x4)) (by decide) rfl dc_method_3_code_222 (pc' := 223) rfl ?_
  refine G.stC H64 A66 (by decide) (i := 4) rfl (Nat.le_of_ble_eq_true rfl) na2 (y := x4) (own_narC r16) dc_method_3_code_223 (pc' := 224) rfl ?_
  intro T68 h68_ H68 W69 A70
  replace A70 : Arv Z h68_ a2 k5 .char (20 : Int32) [(.int (0 : Int32)), (.int (0 : Int32)), (.int (0 : Int32)), (.int (0 : Int32)), (.int x4), (.int x5), (.int x6), (.int x7), (.int x8), (.int x9), (.int x10), (.int x11), (.int x12), (.int x13), (.int x14), (.int x15), (.int x16), (.int x17), (.int x18), (.int x19)] (.int 0) := A70
  show Go p e below _ (T68.setTop (mkF m 224 #[.val (.ref p0), .val (.int (20 : Int32)), .val (.ref a2)] []))
  refine G.aloadN H68 dc_method_3_code_224 (pc' := 225) rfl rfl rfl ?_
  refine G.iconst H68 dc_method_3_code_225 (pc' := 226) rfl (v := (3 : Int32)) rfl ?_
  refine G.aloadN H68 dc_method_3_code_226 (pc' := 227) rfl rfl rfl ?_
  refine G.iconst H68 dc_method_3_code_227 (pc' := 228) rfl (v := (3 : Int32)) rfl ?_
  have F71 : Arv Z h68_ p0 c0 .char (20 : Int32) [(.int x0), (.int x1), (.int x2), (.int x3), (.int x4), (.int x5), (.int x6), (.int x7), (.int x8), (.int x9), (.int x10), (.int x11), (.int x12), (.int x13), (.int x14), (.int x15), (.int x16), (.int x17), (.int x18), (.int x19)] (.int 0) := (Arv.other F67 W69 N10)
  refine G.caloadG H68 F71 (j := (3 : Int32)) (v := (.int x3)) (by decide) rfl dc_method_3_code_228 (pc' := 229) rfl ?_
  refine G.stC H68 A70 (by decide) (i := 3) rfl (Nat.le_of_ble_eq_true rfl) na2 (y := x3) (own_narC r17) dc_method_3_code_229 (pc' := 230) rfl ?_
  intro T72 h72_ H72 W73 A74
  replace A74 : Arv Z h72_ a2 k5 .char (20 : Int32) [(.int (0 : Int32)), (.int (0 : Int32)), (.int (0 : Int32)), (.int x3), (.int x4), (.int x5), (.int x6), (.int x7), (.int x8), (.int x9), (.int x10), (.int x11), (.int x12), (.int x13), (.int x14), (.int x15), (.int x16), (.int x17), (.int x18), (.int x19)] (.int 0) := A74
  show Go p e below _ (T72.setTop (mkF m 230 #[.val (.ref p0), .val (.int (20 : Int32)), .val (.ref a2)] []))
  refine G.aloadN H72 dc_method_3_code_230 (pc' := 231) rfl rfl rfl ?_
  refine G.iconst H72 dc_method_3_code_231 (pc' := 232) rfl (v := (2 : Int32)) rfl ?_
  refine G.aloadN H72 dc_method_3_code_232 (pc' := 233) rfl rfl rfl ?_
  refine G.iconst H72 dc_method_3_code_233 (pc' := 234) rfl (v := (2 : Int32)) rfl ?_
  have F75 : Arv Z h72_ p0 c0 .char (20 : Int32) [(.int x0), (.int x1), (.int x2), (.int x3), (.int x4), (.int x5), (.int x6), (.int x7), (.int x8), (.int x9), (.int x10), (.int x11), (.int x12), (.int x13), (.int x14), (.int x15), (.int x16), (.int x17), (.int x18), (.int x19)] (.int 0) := (Arv.other F71 W73 N10)
  refine G.caloadG H72 F75 (j := (2 : Int32)) (v := (.int x2)) (by decide) rfl dc_method_3_code_234 (pc' := 235) rfl ?_
  refine G.stC H72 A74 (by decide) (i := 2) rfl (Nat.le_of_ble_eq_true rfl) na2 (y := x2) (own_narC r18) dc_method_3_code_235 (pc' := 236) rfl ?_
  intro T76 h76_ H76 W77 A78
  replace A78 : Arv Z h76_ a2 k5 .char (20 : Int32) [(.int (0 : Int32)), (.int (0 : Int32)), (.int x2), (.int x3), (.int x4), (.int x5), (.int x6), (.int x7), (.int x8), (.int x9), (.int x10), (.int x11), (.int x12), (.int x13), (.int x14), (.int x15), (.int x16), (.int x17), (.int x18), (.int x19)] (.int 0) := A78
  show Go p e below _ (T76.setTop (mkF m 236 #[.val (.ref p0), .val (.int (20 : Int32)), .val (.ref a2)] []))
  refine G.aloadN H76 dc_method_3_code_236 (pc' := 237) rfl rfl rfl ?_
  refine G.iconst H76 dc_method_3_code_237 (pc' := 238) rfl (v := (1 : Int32)) rfl ?_
  refine G.aloadN H76 dc_method_3_code_238 (pc' := 239) rfl rfl rfl ?_
  refine G.iconst H76 dc_method_3_code_239 (pc' := 240) rfl (v := (1 : Int32)) rfl ?_
  have F79 : Arv Z h76_ p0 c0 .char (20 : Int32) [(.int x0), (.int x1), (.int x2), (.int x3), (.int x4), (.int x5), (.int x6), (.int x7), (.int x8), (.int x9), (.int x10), (.int x11), (.int x12), (.int x13), (.int x14), (.int x15), (.int x16), (.int x17), (.int x18), (.int x19)] (.int 0) := (Arv.other F75 W77 N10)
  refine G.caloadG H76 F79 (j := (1 : Int32)) (v := (.int x1)) (by decide) rfl dc_method_3_code_240 (pc' := 241) rfl ?_
  refine G.stC H76 A78 (by decide) (i := 1) rfl (Nat.le_of_ble_eq_true rfl) na2 (y := x1) (own_narC r19) dc_method_3_code_241 (pc' := 242) rfl ?_
  intro T80 h80_ H80 W81 A82
  replace A82 : Arv Z h80_ a2 k5 .char (20 : Int32) [(.int (0 : Int32)), (.int x1), (.int x2), (.int x3), (.int x4), (.int x5), (.int x6), (.int x7), (.int x8), (.int x9), (.int x10), (.int x11), (.int x12), (.int x13), (.int x14), (.int x15), (.int x16), (.int x17), (.int x18), (.int x19)] (.int 0) := A82
  show Go p e below _ (T80.setTop (mkF m 242 #[.val (.ref p0), .val (.int (20 : Int32)), .val (.ref a2)] []))
  refine G.aloadN H80 dc_method_3_code_242 (pc' := 243) rfl rfl rfl ?_
  refine G.iconst H80 dc_method_3_code_243 (pc' := 244) rfl (v := (0 : Int32)) rfl ?_
  refine G.aloadN H80 dc_method_3_code_244 (pc' := 245) rfl rfl rfl ?_
  refine G.iconst H80 dc_method_3_code_245 (pc' := 246) rfl (v := (0 : Int32)) rfl ?_
  have F83 : Arv Z h80_ p0 c0 .char (20 : Int32) [(.int x0), (.int x1), (.int x2), (.int x3), (.int x4), (.int x5), (.int x6), (.int x7), (.int x8), (.int x9), (.int x10), (.int x11), (.int x12), (.int x13), (.int x14), (.int x15), (.int x16), (.int x17), (.int x18), (.int x19)] (.int 0) := (Arv.other F79 W81 N10)
  refine G.caloadG H80 F83 (j := (0 : Int32)) (v := (.int x0)) (by decide) rfl dc_method_3_code_246 (pc' := 247) rfl ?_
  refine G.stC H80 A82 (by decide) (i := 0) rfl (Nat.le_of_ble_eq_true rfl) na2 (y := x0) (own_narC r20) dc_method_3_code_247 (pc' := 248) rfl ?_
  intro T84 h84_ H84 W85 A86
  replace A86 : Arv Z h84_ a2 k5 .char (20 : Int32) [(.int x0), (.int x1), (.int x2), (.int x3), (.int x4), (.int x5), (.int x6), (.int x7), (.int x8), (.int x9), (.int x10), (.int x11), (.int x12), (.int x13), (.int x14), (.int x15), (.int x16), (.int x17), (.int x18), (.int x19)] (.int 0) := A86
  show Go p e below _ (T84.setTop (mkF m 248 #[.val (.ref p0), .val (.int (20 : Int32)), .val (.ref a2)] []))
  refine G.aloadN H84 dc_method_3_code_248 (pc' := 249) rfl rfl rfl ?_
  have K87 : Keep h0 h84_ [] := (Keep.wr (Keep.wr (Keep.wr (Keep.wr (Keep.wr (Keep.wr (Keep.wr (Keep.wr (Keep.wr (Keep.wr (Keep.wr (Keep.wr (Keep.wr (Keep.wr (Keep.wr (Keep.wr (Keep.wr (Keep.wr (Keep.wr (Keep.wr (Keep.ext (Keep.refl h0 []) E3) W8 (Or.inr (Nat.le_of_eq ga2.symm))) W13 (Or.inr (Nat.le_of_eq ga2.symm))) W17 (Or.inr (Nat.le_of_eq ga2.symm))) W21 (Or.inr (Nat.le_of_eq ga2.symm))) W25 (Or.inr (Nat.le_of_eq ga2.symm))) W29 (Or.inr (Nat.le_of_eq ga2.symm))) W33 (Or.inr (Nat.le_of_eq ga2.symm))) W37 (Or.inr (Nat.le_of_eq ga2.symm))) W41 (Or.inr (Nat.le_of_eq ga2.symm))) W45 (Or.inr (Nat.le_of_eq ga2.symm))) W49 (Or.inr (Nat.le_of_eq ga2.symm))) W53 (Or.inr (Nat.le_of_eq ga2.symm))) W57 (Or.inr (Nat.le_of_eq ga2.symm))) W61 (Or.inr (Nat.le_of_eq ga2.symm))) W65 (Or.inr (Nat.le_of_eq ga2.symm))) W69 (Or.inr (Nat.le_of_eq ga2.symm))) W73 (Or.inr (Nat.le_of_eq ga2.symm))) W77 (Or.inr (Nat.le_of_eq ga2.symm))) W81 (Or.inr (Nat.le_of_eq ga2.symm))) W85 (Or.inr (Nat.le_of_eq ga2.symm)))
  exact G.retA H84 (t := (.array .char)) rfl rfl rfl dc_method_3_code_249 (so := []) all0 (by decide) (by decide) ⟨a2, k5, rfl, rfl, K87, (Nat.le_of_eq ga2.symm), A86⟩
set_option maxRecDepth 65536 in
set_option maxHeartbeats 40000000 in
theorem m66_length {l : Launch} {Z : State} {a0 : Array Value} {n0 : Nat} {z_COMPACT_STRINGS : Int32} {z_SIOOBE_FORMATTER : Value} (V : Env1 Z a0 n0 z_COMPACT_STRINGS z_SIOOBE_FORMATTER) (p0 : Addr) (p1 : Addr) (c0 : ClassId) (x0 : Int32) (x1 : Int32) (x2 : Int32) (x3 : Int32) (x4 : Int32) (x5 : Int32) (x6 : Int32) (x7 : Int32) (x8 : Int32) (x9 : Int32) (x10 : Int32) (x11 : Int32) (x12 : Int32) (x13 : Int32) (x14 : Int32) (x15 : Int32) (x16 : Int32) (x17 : Int32) (x18 : Int32) (x19 : Int32) (h0 : Heap) (hO : Old Z n0 h0) (f0 : Fld Z h0 p0 "java/lang/String" "value" "[B" (.ref p1)) (f1 : Arv Z h0 p1 c0 .byte (20 : Int32) [(.int x0), (.int x1), (.int x2), (.int x3), (.int x4), (.int x5), (.int x6), (.int x7), (.int x8), (.int x9), (.int x10), (.int x11), (.int x12), (.int x13), (.int x14), (.int x15), (.int x16), (.int x17), (.int x18), (.int x19)] (.int 0)) (f2 : Exa Z h0 p0 "java/lang/String") (f3 : Fld Z h0 p0 "java/lang/String" "coder" "B" (.int (0 : Int32))) :
    Met Z a0 ELs True n0 l (⟨"java/lang/String", "length", "()I"⟩ : MethodName) jdk_42_method_54_code 1 (Option.some FieldType.int) ({ frames := 1, cells := 0, slots := 0, locals := 13 } : Room) #[(.ref p0)] h0 [] (fun v h so => (v = some (.int (20 : Int32)) ∧ so = [] ∧ h0 = h)) := by
  refine Met.of (EWl V) (by first | decide +kernel | rfl) hO (L0 := #[.val (.ref p0)]) rfl ?_
  intro p e s m below meth c T H
  show Go p e below _ (T.setTop (mkF m 0 #[.val (.ref p0)] []))
  refine G.aloadN H dc_jdk_42_method_54_code_0 (pc' := 1) rfl rfl rfl ?_
  refine G.getF H (wd34 V) Via.refl f0 dc_jdk_42_method_54_code_1 (pc' := 4) rfl ?_
  intro T1 H2
  refine G.arrlen H2 f1 dc_jdk_42_method_54_code_4 (pc' := 5) rfl ?_
  refine G.aloadN H2 dc_jdk_42_method_54_code_5 (pc' := 6) rfl rfl rfl ?_
  refine G.callV H2 (m4_coder V p0 h0 H2.old f3) (wd45 V) (wd46 V) (nf_sel (wd48 V)) (wd48 V) (wd47 V) (wd5 V) (wd49 V) (by decide) f2 (argsL := []) (rest := [(.int (20 : Int32))]) (W := 1) rfl rfl (lenOf (pd_3) rfl) rfl rfl dc_jdk_42_method_54_code_6 (pc' := 9) rfl (by decide) (by decide) (by decide) (by decide) all0 ?_
  intro T3 h3_ v4 s5 H3 Q6
  obtain ⟨rfl, rfl, rfl⟩ := Q6
  show Go p e below _ (T3.setTop (mkF m 9 #[.val (.ref p0)] [(.int (0 : Int32)), (.int (20 : Int32))]))
  refine G.ishr H3 dc_jdk_42_method_54_code_9 (pc' := 10) rfl ?_
  show Go p e below _ (T3.setTop (mkF m 10 #[.val (.ref p0)] [(.int (20 : Int32))]))
  exact G.retI H3 rfl dc_jdk_42_method_54_code_10 (so := []) all0 (by decide) (by decide) ⟨rfl, rfl, rfl⟩
set_option maxRecDepth 65536 in
set_option maxHeartbeats 40000000 in
theorem m67_untimed {l : Launch} {Z : State} {a0 : Array Value} {n0 : Nat} {z_COMPACT_STRINGS : Int32} {z_SIOOBE_FORMATTER : Value} (V : Env1 Z a0 n0 z_COMPACT_STRINGS z_SIOOBE_FORMATTER) (p0 : Addr) (p1 : Addr) (c0 : ClassId) (x0 : Int32) (x1 : Int32) (x2 : Int32) (x3 : Int32) (x4 : Int32) (x5 : Int32) (x6 : Int32) (x7 : Int32) (x8 : Int32) (x9 : Int32) (x10 : Int32) (x11 : Int32) (x12 : Int32) (x13 : Int32) (x14 : Int32) (x15 : Int32) (x16 : Int32) (x17 : Int32) (x18 : Int32) (x19 : Int32) (h0 : Heap) (hO : Old Z n0 h0) (f0 : Exa Z h0 p0 "java/lang/String") (f1 : Fld Z h0 p0 "java/lang/String" "value" "[B" (.ref p1)) (f2 : Arv Z h0 p1 c0 .byte (20 : Int32) [(.int x0), (.int x1), (.int x2), (.int x3), (.int x4), (.int x5), (.int x6), (.int x7), (.int x8), (.int x9), (.int x10), (.int x11), (.int x12), (.int x13), (.int x14), (.int x15), (.int x16), (.int x17), (.int x18), (.int x19)] (.int 0)) (f3 : Fld Z h0 p0 "java/lang/String" "coder" "B" (.int (0 : Int32))) :
    Met Z a0 ELs True n0 l (⟨"com/example/tenure/tenure/Days", "untimed", "(Ljava/lang/String;)Z"⟩ : MethodName) prog_14_method_4_code 1 (Option.some FieldType.boolean) ({ frames := 2, cells := 2, slots := 44, locals := 26 } : Room) #[(.ref p0)] h0 [p0, p1] (fun v h so => (v = some (.int (0 : Int32)) ∧ so = [] ∧ Keep h0 h [])) := by
  refine Met.of (EWl V) (by first | decide +kernel | rfl) hO (L0 := #[.val (.ref p0)]) rfl ?_
  intro p e s m below meth c T H
  show Go p e below _ (T.setTop (mkF m 0 #[.val (.ref p0)] []))
  refine G.aloadN H dc_prog_14_method_4_code_0 (pc' := 1) rfl rfl rfl ?_
  refine G.callV H (m66_length V p0 p1 c0 x0 x1 x2 x3 x4 x5 x6 x7 x8 x9 x10 x11 x12 x13 x14 x15 x16 x17 x18 x19 h0 H.old f1 f2 f0 f3) (wd40 V) (wd41 V) (nf_sel (wd43 V)) (wd43 V) (wd42 V) (wd5 V) (wd44 V) (by decide) f0 (argsL := []) (rest := []) (W := 0) rfl rfl (lenOf (pd_4) rfl) rfl rfl dc_prog_14_method_4_code_1 (pc' := 4) rfl (by decide) (by decide) (by decide) (by decide) all0 ?_
  intro T1 h1_ v2 s3 H1 Q4
  obtain ⟨rfl, rfl, rfl⟩ := Q4
  show Go p e below _ (T1.setTop (mkF m 4 #[.val (.ref p0)] [(.int (20 : Int32))]))
  refine G.ldcS H1 trivial (wS V) (wd50 V) (by decide) (vs := [(.int (48 : Int32)), (.int (48 : Int32)), (.int (48 : Int32)), (.int (48 : Int32)), (.int (45 : Int32)), (.int (48 : Int32)), (.int (48 : Int32)), (.int (45 : Int32)), (.int (48 : Int32)), (.int (48 : Int32))]) (z := (10 : Int32)) (by decide) (by decide) rfl (n := 40) (by decide) (by decide) (by decide) (by decide) dc_prog_14_method_4_code_4 (pc' := 6) rfl ?_
  intro T5 h5_ a6 b8 k9 H5 E7 X10 F11 F12 A13 Q14
  have S15 : Str Z h5_ a6 b8 k9 [(48 : Int32), (48 : Int32), (48 : Int32), (48 : Int32), (45 : Int32), (48 : Int32), (48 : Int32), (45 : Int32), (48 : Int32), (48 : Int32)] := ⟨X10, F11, F12, A13, by decide, by decide⟩
  show Go p e below _ (T5.setTop (mkF m 6 #[.val (.ref p0)] [(.ref a6), (.int (20 : Int32))]))
  refine G.callV H5 (m6_length V a6 b8 k9 h5_ H5.old F12 A13 X10 F11) (wd40 V) (wd41 V) (nf_sel (wd43 V)) (wd43 V) (wd42 V) (wd5 V) (wd44 V) (by decide) X10 (argsL := []) (rest := [(.int (20 : Int32))]) (W := 1) rfl rfl (lenOf (pd_4) rfl) rfl rfl dc_prog_14_method_4_code_6 (pc' := 9) rfl (by decide) (by decide) (by decide) (by decide) all0 ?_
  intro T16 h16_ v17 s18 H16 Q19
  obtain ⟨rfl, rfl, rfl⟩ := Q19
  show Go p e below _ (T16.setTop (mkF m 9 #[.val (.ref p0)] [(.int (10 : Int32)), (.int (20 : Int32))]))
  refine G.icmpYes H16 dc_prog_14_method_4_code_9 (by decide) (by decide) (pc' := 16) rfl ?_
  refine G.iconst H16 dc_prog_14_method_4_code_16 (pc' := 17) rfl (v := (0 : Int32)) rfl ?_
  have K20 : Keep h0 h5_ [] := (Keep.ext (Keep.refl h0 []) E7)
  exact G.retN H16 (t := .boolean) rfl (by decide) dc_prog_14_method_4_code_17 (so := []) all0 (by decide) (by decide) ⟨rfl, rfl, K20⟩
set_option maxRecDepth 65536 in
set_option maxHeartbeats 40000000 in
theorem cut68_305 {l : Launch} {Z : State} {a0 : Array Value} {n0 : Nat} {z_COMPACT_STRINGS : Int32} {z_SIOOBE_FORMATTER : Value} (V : Env1 Z a0 n0 z_COMPACT_STRINGS z_SIOOBE_FORMATTER) (y0 : Int64) (y1 : Int64) (y2 : Int64) (x0 : Int32) (p0 : Addr) (x1 : Int32) (c0 : ClassId) (x2 : Int32) (x3 : Int32) (x4 : Int32) (x5 : Int32) (x6 : Int32) (x7 : Int32) (x8 : Int32) (x9 : Int32) (x10 : Int32) (x11 : Int32) (x12 : Int32) (x13 : Int32) (x14 : Int32) (x15 : Int32) (x16 : Int32) (x17 : Int32) (x18 : Int32) (x19 : Int32) (x20 : Int32) (x21 : Int32) {p : Program} {e : Env} {s : State} {m : MethodId} {as' : Array Value} {below : List Frame} {meth : Method} {c : Code} {T : State} {h0 : Heap} (H : Hs p l e room_1 s m as' below meth c Z a0 ELs True x.cls n0 code maxLocals ret x.name T h0 1 20 []) (sp : x1 = (0 : Int32) ∨ x1 = (1 : Int32) ∨ x1 = (2 : Int32) ∨ x1 = (3 : Int32) ∨ x1 = (4 : Int32) ∨ x1 = (5 : Int32) ∨ x1 = (6 : Int32) ∨ x1 = (7 : Int32) ∨ x1 = (8 : Int32) ∨ x1 = (9 : Int32) ∨ x1 = (10 : Int32) ∨ x1 = (11 : Int32) ∨ x1 = (12 : Int32) ∨ x1 = (13 : Int32) ∨ x1 = (14 : Int32) ∨ x1 = (15 : Int32) ∨ x1 = (16 : Int32) ∨ x1 = (17 : Int32) ∨ x1 = (18 : Int32) ∨ x1 = (19 : Int32) ∨ x1 = (20 : Int32)) (f1 : Arv Z h0 p0 c0 .char (20 : Int32) [(.int x2), (.int x3), (.int x4), (.int x5), (.int x6), (.int x7), (.int x8), (.int x9), (.int x10), (.int x11), (.int x12), (.int x13), (.int x14), (.int x15), (.int x16), (.int x17), (.int x18), (.int x19), (.int x20), (.int x21)] (.int 0)) (r2 : ¬ x2 < 0 ∧ ¬ (65535 : Int32) < x2) (r3 : ¬ x2 < 0 ∧ ¬ (255 : Int32) < x2) (r4 : ¬ x3 < 0 ∧ ¬ (65535 : Int32) < x3) (r5 : ¬ x3 < 0 ∧ ¬ (255 : Int32) < x3) (r6 : ¬ x4 < 0 ∧ ¬ (65535 : Int32) < x4) (r7 : ¬ x4 < 0 ∧ ¬ (255 : Int32) < x4) (r8 : ¬ x5 < 0 ∧ ¬ (65535 : Int32) < x5) (r9 : ¬ x5 < 0 ∧ ¬ (255 : Int32) < x5) (r10 : ¬ x6 < 0 ∧ ¬ (65535 : Int32) < x6) (r11 : ¬ x6 < 0 ∧ ¬ (255 : Int32) < x6) (r12 : ¬ x7 < 0 ∧ ¬ (65535 : Int32) < x7) (r13 : ¬ x7 < 0 ∧ ¬ (255 : Int32) < x7) (r14 : ¬ x8 < 0 ∧ ¬ (65535 : Int32) < x8) (r15 : ¬ x8 < 0 ∧ ¬ (255 : Int32) < x8) (r16 : ¬ x9 < 0 ∧ ¬ (65535 : Int32) < x9) (r17 : ¬ x9 < 0 ∧ ¬ (255 : Int32) < x9) (r18 : ¬ x10 < 0 ∧ ¬ (65535 : Int32) < x10) (r19 : ¬ x10 < 0 ∧ ¬ (255 : Int32) < x10) (r20 : ¬ x11 < 0 ∧ ¬ (65535 : Int32) < x11) (r21 : ¬ x11 < 0 ∧ ¬ (255 : Int32) < x11) (r22 : ¬ x12 < 0 ∧ ¬ (65535 : Int32) < x12) (r23 : ¬ x12 < 0 ∧ ¬ (255 : Int32) < x12) (r24 : ¬ x13 < 0 ∧ ¬ (65535 : Int32) < x13) (r25 : ¬ x13 < 0 ∧ ¬ (255 : Int32) < x13) (r26 : ¬ x14 < 0 ∧ ¬ (65535 : Int32) < x14) (r27 : ¬ x14 < 0 ∧ ¬ (255 : Int32) < x14) (r28 : ¬ x15 < 0 ∧ ¬ (65535 : Int32) < x15) (r29 : ¬ x15 < 0 ∧ ¬ (255 : Int32) < x15) (r30 : ¬ x16 < 0 ∧ ¬ (65535 : Int32) < x16) (r31 : ¬ x16 < 0 ∧ ¬ (255 : Int32) < x16) (r32 : ¬ x17 < 0 ∧ ¬ (65535 : Int32) < x17) (r33 : ¬ x17 < 0 ∧ ¬ (255 : Int32) < x17) (r34 : ¬ x18 < 0 ∧ ¬ (65535 : Int32) < x18) (r35 : ¬ x18 < 0 ∧ ¬ (255 : Int32) < x18) (r36 : ¬ x19 < 0 ∧ ¬ (65535 : Int32) < x19) (r37 : ¬ x19 < 0 ∧ ¬ (255 : Int32) < x19) (r38 : ¬ x20 < 0 ∧ ¬ (65535 : Int32) < x20) (r39 : ¬ x20 < 0 ∧ ¬ (255 : Int32) < x20) (r40 : ¬ x21 < 0 ∧ ¬ (65535 : Int32) < x21) (r41 : ¬ x21 < 0 ∧ ¬ (255 : Int32) < x21) :
    Go p e below (FinP s below Z ELs True n0 room_1.cells room_1.slots (fun v h so => v = some (.int 1))) (T.setTop (mkF m 305 #[.val (.long y0), .second, .val (.long y1), .second, .val (.long y2), .second, .val (.int x0), .val (.ref p0), .val (.int x1), .unset] [])) := by
  rcases sp with rfl | rfl | rfl | rfl | rfl | rfl | rfl | rfl | rfl | rfl | rfl | rfl | rfl | rfl | rfl | rfl | rfl | rfl | rfl | rfl | rfl
  ·
    refine G.new H (wd3 V) (wd4 V) (wd5 V) at_305 (pc' := 308) rfl (by decide) (by decide) ?_
    intro T1 h1_ a2 ga2 H1 E3 A4 D5
    have na2 : n0 ≤ a2 := Nat.le_trans H.le (Nat.le_of_eq ga2.symm)
    show Go p e below _ (T1.setTop (mkF m 308 #[.val (.long y0), .second, .val (.long y1), .second, .val (.long y2), .second, .val (.int x0), .val (.ref p0), .val (.int (0 : Int32)), .unset] [(.ref a2)]))
    refine G.dup H1 at_308 (pc' := 309) rfl rfl ?_
    refine G.aload H1 at_309 (pc' := 311) rfl rfl rfl ?_
    refine G.iload H1 at_311 (pc' := 313) rfl rfl ?_
    refine G.callS H1 (m1_prefix V p0 h1_ H1.old) (wd6 V) (wd7 V) (wd8 V) (wd9 V) (by decide) (argsL := [(.ref p0), (.int (0 : Int32))]) (rest := [(.ref a2), (.ref a2)]) (W := 2) rfl rfl (lenOf (pd_0) rfl) rfl rfl at_313 (pc' := 316) rfl (by decide) (by decide) (by decide) (by decide) all0 ?_
    intro T6 h6_ v7 s8 H6 Q9
    obtain ⟨a10, k11, rfl, rfl, K12, g13, F14⟩ := Q9
    have na10 : n0 ≤ a10 := Nat.le_trans H1.le g13
    show Go p e below _ (T6.setTop (mkF m 316 #[.val (.long y0), .second, .val (.long y1), .second, .val (.long y2), .second, .val (.int x0), .val (.ref p0), .val (.int (0 : Int32)), .unset] [(.ref a10), (.ref a2), (.ref a2)]))
    have F15 : Exa Z h6_ a2 "java/lang/String" := (Exa.keep A4 K12)
    have F16 : Fld Z h1_ a2 "java/lang/String" "value" "[B" .null := D5 (Or.inr (wd35 V)) (ty := (.array .byte)) (by decide)
    have F17 : Fld Z h6_ a2 "java/lang/String" "value" "[B" .null := (Fld.keep F16 K12 nin0)
    have F18 : Fld Z h1_ a2 "java/lang/String" "coder" "B" (.int (0 : Int32)) := D5 (Or.inr (wd33 V)) (ty := .byte) (by decide)
    have F19 : Fld Z h6_ a2 "java/lang/String" "coder" "B" (.int (0 : Int32)) := (Fld.keep F18 K12 nin0)
    refine G.callI H6 (m3_init V a2 a10 k11 h6_ H6.old F14 F15 F17 na2 F19) rfl (wd10 V) (wd11 V) (wd5 V) (wd12 V) (by decide) (a := a2) (argsL := [(.ref a10)]) (rest := [(.ref a2)]) (W := 1) rfl rfl (lenOf (pd_2) rfl) rfl rfl at_316 (pc' := 319) rfl (by decide) (by decide) (by decide) (by decide) (allS (List.mem_of_getElem? (i := 0) rfl) all0) ?_
    intro T20 h20_ v21 s22 H20 Q23
    obtain ⟨a24, k25, rfl, rfl, K26, F27, F28, F29, F30⟩ := Q23
    show Go p e below _ (T20.setTop (mkF m 319 #[.val (.long y0), .second, .val (.long y1), .second, .val (.long y2), .second, .val (.int x0), .val (.ref p0), .val (.int (0 : Int32)), .unset] [(.ref a2)]))
    refine G.astore H20 (L' := #[.val (.long y0), .second, .val (.long y1), .second, .val (.long y2), .second, .val (.int x0), .val (.ref p0), .val (.int (0 : Int32)), .val (.ref a2)]) at_319 (pc' := 321) rfl rfl rfl ?_
    refine G.aload H20 at_321 (pc' := 323) rfl rfl rfl ?_
    refine G.callS H20 (m7_untimed V a2 a24 k25 h20_ H20.old F27 F28 F30 F29) (wd36 V) (wd37 V) (wd38 V) (wd39 V) (by decide) (argsL := [(.ref a2)]) (rest := []) (W := 0) rfl rfl (lenOf (pd_5) rfl) rfl rfl at_323 (pc' := 326) rfl (by decide) (by decide) (by decide) (by decide) (allS (List.mem_of_getElem? (i := 0) rfl) all0) ?_
    intro T31 h31_ v32 s33 H31 Q34
    obtain ⟨rfl, rfl, K35⟩ := Q34
    show Go p e below _ (T31.setTop (mkF m 326 #[.val (.long y0), .second, .val (.long y1), .second, .val (.long y2), .second, .val (.int x0), .val (.ref p0), .val (.int (0 : Int32)), .val (.ref a2)] [(.int (0 : Int32))]))
    refine G.iload H31 at_326 (pc' := 328) rfl rfl ?_
    refine G.bipush H31 at_328 (pc' := 330) rfl (v := (10 : Int32)) rfl ?_
    refine G.icmpYes H31 at_330 (by decide) (by decide) (pc' := 337) rfl ?_
    refine G.iconst H31 at_337 (pc' := 338) rfl (v := (0 : Int32)) rfl ?_
    refine G.icmpNo H31 at_338 (pc' := 341) rfl (by decide) ?_
    refine G.iconst H31 at_341 (pc' := 342) rfl (v := (1 : Int32)) rfl ?_
    refine G.goto H31 at_342 (by decide) (pc' := 346) rfl ?_
    exact G.retN H31 (t := .boolean) rfl (by decide) at_346 (so := []) all0 (by decide) (by decide) rfl
  ·
    refine G.new H (wd3 V) (wd4 V) (wd5 V) at_305 (pc' := 308) rfl (by decide) (by decide) ?_
    intro T36 h36_ a37 ga37 H36 E38 A39 D40
    have na37 : n0 ≤ a37 := Nat.le_trans H.le (Nat.le_of_eq ga37.symm)
    show Go p e below _ (T36.setTop (mkF m 308 #[.val (.long y0), .second, .val (.long y1), .second, .val (.long y2), .second, .val (.int x0), .val (.ref p0), .val (.int (1 : Int32)), .unset] [(.ref a37)]))
    refine G.dup H36 at_308 (pc' := 309) rfl rfl ?_
    refine G.aload H36 at_309 (pc' := 311) rfl rfl rfl ?_
    refine G.iload H36 at_311 (pc' := 313) rfl rfl ?_
    have F41 : Arv Z h36_ p0 c0 .char (20 : Int32) [(.int x2), (.int x3), (.int x4), (.int x5), (.int x6), (.int x7), (.int x8), (.int x9), (.int x10), (.int x11), (.int x12), (.int x13), (.int x14), (.int x15), (.int x16), (.int x17), (.int x18), (.int x19), (.int x20), (.int x21)] (.int 0) := (Arv.ext f1 E38)
    refine G.callS H36 (m8_prefix V p0 c0 x2 x3 x4 x5 x6 x7 x8 x9 x10 x11 x12 x13 x14 x15 x16 x17 x18 x19 x20 x21 h36_ H36.old F41 r2) (wd6 V) (wd7 V) (wd8 V) (wd9 V) (by decide) (argsL := [(.ref p0), (.int (1 : Int32))]) (rest := [(.ref a37), (.ref a37)]) (W := 2) rfl rfl (lenOf (pd_0) rfl) rfl rfl at_313 (pc' := 316) rfl (by decide) (by decide) (by decide) (by decide) all0 ?_
    intro T42 h42_ v43 s44 H42 Q45
    obtain ⟨a46, k47, rfl, rfl, K48, g49, F50⟩ := Q45
    have na46 : n0 ≤ a46 := Nat.le_trans H36.le g49
    show Go p e below _ (T42.setTop (mkF m 316 #[.val (.long y0), .second, .val (.long y1), .second, .val (.long y2), .second, .val (.int x0), .val (.ref p0), .val (.int (1 : Int32)), .unset] [(.ref a46), (.ref a37), (.ref a37)]))
    have F51 : Exa Z h42_ a37 "java/lang/String" := (Exa.keep A39 K48)
    have F52 : Fld Z h36_ a37 "java/lang/String" "value" "[B" .null := D40 (Or.inr (wd35 V)) (ty := (.array .byte)) (by decide)
    have F53 : Fld Z h42_ a37 "java/lang/String" "value" "[B" .null := (Fld.keep F52 K48 nin0)
    have F54 : Fld Z h36_ a37 "java/lang/String" "coder" "B" (.int (0 : Int32)) := D40 (Or.inr (wd33 V)) (ty := .byte) (by decide)
    have F55 : Fld Z h42_ a37 "java/lang/String" "coder" "B" (.int (0 : Int32)) := (Fld.keep F54 K48 nin0)
    refine G.newStr H42 (strw V) (wd4 V) (wd10 V) (wd11 V) (cs := [x2]) (n := 1) na37 F51 F53 F55 F50 (s_COMPACT_STRINGS V) (cz V) rfl rfl (by decide) (by decide) (cbS r3 cb0) (Sf.mem (List.mem_of_getElem? (i := 0) rfl)) (rest := [(.ref a37)]) (W := 1) rfl rfl at_316 (pc' := 319) rfl (by decide) (by decide) (by decide) (by decide) ?_
    intro T56 h56_ t57 k58 g61 H56 K59 S60
    have nt57 : n0 ≤ t57 := Nat.le_trans H42.le g61
    refine G.astore H56 (L' := #[.val (.long y0), .second, .val (.long y1), .second, .val (.long y2), .second, .val (.int x0), .val (.ref p0), .val (.int (1 : Int32)), .val (.ref a37)]) at_319 (pc' := 321) rfl rfl rfl ?_
    refine G.aload H56 at_321 (pc' := 323) rfl rfl rfl ?_
    refine G.callS H56 (m10_untimed V a37 t57 k58 (x2.toInt8.toInt32) h56_ H56.old S60.1 S60.2.2.1 S60.2.2.2.1 S60.2.1) (wd36 V) (wd37 V) (wd38 V) (wd39 V) (by decide) (argsL := [(.ref a37)]) (rest := []) (W := 0) rfl rfl (lenOf (pd_5) rfl) rfl rfl at_323 (pc' := 326) rfl (by decide) (by decide) (by decide) (by decide) (allS (List.mem_of_getElem? (i := 1) rfl) (allS (List.mem_of_getElem? (i := 0) rfl) all0)) ?_
    intro T62 h62_ v63 s64 H62 Q65
    obtain ⟨rfl, rfl, K66⟩ := Q65
    show Go p e below _ (T62.setTop (mkF m 326 #[.val (.long y0), .second, .val (.long y1), .second, .val (.long y2), .second, .val (.int x0), .val (.ref p0), .val (.int (1 : Int32)), .val (.ref a37)] [(.int (0 : Int32))]))
    refine G.iload H62 at_326 (pc' := 328) rfl rfl ?_
    refine G.bipush H62 at_328 (pc' := 330) rfl (v := (10 : Int32)) rfl ?_
    refine G.icmpYes H62 at_330 (by decide) (by decide) (pc' := 337) rfl ?_
    refine G.iconst H62 at_337 (pc' := 338) rfl (v := (0 : Int32)) rfl ?_
    refine G.icmpNo H62 at_338 (pc' := 341) rfl (by decide) ?_
    refine G.iconst H62 at_341 (pc' := 342) rfl (v := (1 : Int32)) rfl ?_
    refine G.goto H62 at_342 (by decide) (pc' := 346) rfl ?_
    exact G.retN H62 (t := .boolean) rfl (by decide) at_346 (so := []) all0 (by decide) (by decide) rfl
  ·
    refine G.new H (wd3 V) (wd4 V) (wd5 V) at_305 (pc' := 308) rfl (by decide) (by decide) ?_
    intro T67 h67_ a68 ga68 H67 E69 A70 D71
    have na68 : n0 ≤ a68 := Nat.le_trans H.le (Nat.le_of_eq ga68.symm)
    show Go p e below _ (T67.setTop (mkF m 308 #[.val (.long y0), .second, .val (.long y1), .second, .val (.long y2), .second, .val (.int x0), .val (.ref p0), .val (.int (2 : Int32)), .unset] [(.ref a68)]))
    refine G.dup H67 at_308 (pc' := 309) rfl rfl ?_
    refine G.aload H67 at_309 (pc' := 311) rfl rfl rfl ?_
    refine G.iload H67 at_311 (pc' := 313) rfl rfl ?_
    have F72 : Arv Z h67_ p0 c0 .char (20 : Int32) [(.int x2), (.int x3), (.int x4), (.int x5), (.int x6), (.int x7), (.int x8), (.int x9), (.int x10), (.int x11), (.int x12), (.int x13), (.int x14), (.int x15), (.int x16), (.int x17), (.int x18), (.int x19), (.int x20), (.int x21)] (.int 0) := (Arv.ext f1 E69)
    refine G.callS H67 (m11_prefix V p0 c0 x2 x3 x4 x5 x6 x7 x8 x9 x10 x11 x12 x13 x14 x15 x16 x17 x18 x19 x20 x21 h67_ H67.old F72 r4 r2) (wd6 V) (wd7 V) (wd8 V) (wd9 V) (by decide) (argsL := [(.ref p0), (.int (2 : Int32))]) (rest := [(.ref a68), (.ref a68)]) (W := 2) rfl rfl (lenOf (pd_0) rfl) rfl rfl at_313 (pc' := 316) rfl (by decide) (by decide) (by decide) (by decide) all0 ?_
    intro T73 h73_ v74 s75 H73 Q76
    obtain ⟨a77, k78, rfl, rfl, K79, g80, F81⟩ := Q76
    have na77 : n0 ≤ a77 := Nat.le_trans H67.le g80
    show Go p e below _ (T73.setTop (mkF m 316 #[.val (.long y0), .second, .val (.long y1), .second, .val (.long y2), .second, .val (.int x0), .val (.ref p0), .val (.int (2 : Int32)), .unset] [(.ref a77), (.ref a68), (.ref a68)]))
    have F82 : Exa Z h73_ a68 "java/lang/String" := (Exa.keep A70 K79)
    have F83 : Fld Z h67_ a68 "java/lang/String" "value" "[B" .null := D71 (Or.inr (wd35 V)) (ty := (.array .byte)) (by decide)
    have F84 : Fld Z h73_ a68 "java/lang/String" "value" "[B" .null := (Fld.keep F83 K79 nin0)
    have F85 : Fld Z h67_ a68 "java/lang/String" "coder" "B" (.int (0 : Int32)) := D71 (Or.inr (wd33 V)) (ty := .byte) (by decide)
    have F86 : Fld Z h73_ a68 "java/lang/String" "coder" "B" (.int (0 : Int32)) := (Fld.keep F85 K79 nin0)
    refine G.newStr H73 (strw V) (wd4 V) (wd10 V) (wd11 V) (cs := [x2, x3]) (n := 2) na68 F82 F84 F86 F81 (s_COMPACT_STRINGS V) (cz V) rfl rfl (by decide) (by decide) (cbS r3 (cbS r5 cb0)) (Sf.mem (List.mem_of_getElem? (i := 0) rfl)) (rest := [(.ref a68)]) (W := 1) rfl rfl at_316 (pc' := 319) rfl (by decide) (by decide) (by decide) (by decide) ?_
    intro T87 h87_ t88 k89 g92 H87 K90 S91
    have nt88 : n0 ≤ t88 := Nat.le_trans H73.le g92
    refine G.astore H87 (L' := #[.val (.long y0), .second, .val (.long y1), .second, .val (.long y2), .second, .val (.int x0), .val (.ref p0), .val (.int (2 : Int32)), .val (.ref a68)]) at_319 (pc' := 321) rfl rfl rfl ?_
    refine G.aload H87 at_321 (pc' := 323) rfl rfl rfl ?_
    refine G.callS H87 (m13_untimed V a68 t88 k89 (x2.toInt8.toInt32) (x3.toInt8.toInt32) h87_ H87.old S91.1 S91.2.2.1 S91.2.2.2.1 S91.2.1) (wd36 V) (wd37 V) (wd38 V) (wd39 V) (by decide) (argsL := [(.ref a68)]) (rest := []) (W := 0) rfl rfl (lenOf (pd_5) rfl) rfl rfl at_323 (pc' := 326) rfl (by decide) (by decide) (by decide) (by decide) (allS (List.mem_of_getElem? (i := 1) rfl) (allS (List.mem_of_getElem? (i := 0) rfl) all0)) ?_
    intro T93 h93_ v94 s95 H93 Q96
    obtain ⟨rfl, rfl, K97⟩ := Q96
    show Go p e below _ (T93.setTop (mkF m 326 #[.val (.long y0), .second, .val (.long y1), .second, .val (.long y2), .second, .val (.int x0), .val (.ref p0), .val (.int (2 : Int32)), .val (.ref a68)] [(.int (0 : Int32))]))
    refine G.iload H93 at_326 (pc' := 328) rfl rfl ?_
    refine G.bipush H93 at_328 (pc' := 330) rfl (v := (10 : Int32)) rfl ?_
    refine G.icmpYes H93 at_330 (by decide) (by decide) (pc' := 337) rfl ?_
    refine G.iconst H93 at_337 (pc' := 338) rfl (v := (0 : Int32)) rfl ?_
    refine G.icmpNo H93 at_338 (pc' := 341) rfl (by decide) ?_
    refine G.iconst H93 at_341 (pc' := 342) rfl (v := (1 : Int32)) rfl ?_
    refine G.goto H93 at_342 (by decide) (pc' := 346) rfl ?_
    exact G.retN H93 (t := .boolean) rfl (by decide) at_346 (so := []) all0 (by decide) (by decide) rfl
  ·
    refine G.new H (wd3 V) (wd4 V) (wd5 V) at_305 (pc' := 308) rfl (by decide) (by decide) ?_
    intro T98 h98_ a99 ga99 H98 E100 A101 D102
    have na99 : n0 ≤ a99 := Nat.le_trans H.le (Nat.le_of_eq ga99.symm)
    show Go p e below _ (T98.setTop (mkF m 308 #[.val (.long y0), .second, .val (.long y1), .second, .val (.long y2), .second, .val (.int x0), .val (.ref p0), .val (.int (3 : Int32)), .unset] [(.ref a99)]))
    refine G.dup H98 at_308 (pc' := 309) rfl rfl ?_
    refine G.aload H98 at_309 (pc' := 311) rfl rfl rfl ?_
    refine G.iload H98 at_311 (pc' := 313) rfl rfl ?_
    have F103 : Arv Z h98_ p0 c0 .char (20 : Int32) [(.int x2), (.int x3), (.int x4), (.int x5), (.int x6), (.int x7), (.int x8), (.int x9), (.int x10), (.int x11), (.int x12), (.int x13), (.int x14), (.int x15), (.int x16), (.int x17), (.int x18), (.int x19), (.int x20), (.int x21)] (.int 0) := (Arv.ext f1 E100)
    refine G.callS H98 (m14_prefix V p0 c0 x2 x3 x4 x5 x6 x7 x8 x9 x10 x11 x12 x13 x14 x15 x16 x17 x18 x19 x20 x21 h98_ H98.old F103 r6 r4 r2) (wd6 V) (wd7 V) (wd8 V) (wd9 V) (by decide) (argsL := [(.ref p0), (.int (3 : Int32))]) (rest := [(.ref a99), (.ref a99)]) (W := 2) rfl rfl (lenOf (pd_0) rfl) rfl rfl at_313 (pc' := 316) rfl (by decide) (by decide) (by decide) (by decide) all0 ?_
    intro T104 h104_ v105 s106 H104 Q107
    obtain ⟨a108, k109, rfl, rfl, K110, g111, F112⟩ := Q107
    have na108 : n0 ≤ a108 := Nat.le_trans H98.le g111
    show Go p e below _ (T104.setTop (mkF m 316 #[.val (.long y0), .second, .val (.long y1), .second, .val (.long y2), .second, .val (.int x0), .val (.ref p0), .val (.int (3 : Int32)), .unset] [(.ref a108), (.ref a99), (.ref a99)]))
    have F113 : Exa Z h104_ a99 "java/lang/String" := (Exa.keep A101 K110)
    have F114 : Fld Z h98_ a99 "java/lang/String" "value" "[B" .null := D102 (Or.inr (wd35 V)) (ty := (.array .byte)) (by decide)
    have F115 : Fld Z h104_ a99 "java/lang/String" "value" "[B" .null := (Fld.keep F114 K110 nin0)
    have F116 : Fld Z h98_ a99 "java/lang/String" "coder" "B" (.int (0 : Int32)) := D102 (Or.inr (wd33 V)) (ty := .byte) (by decide)
    have F117 : Fld Z h104_ a99 "java/lang/String" "coder" "B" (.int (0 : Int32)) := (Fld.keep F116 K110 nin0)
    refine G.newStr H104 (strw V) (wd4 V) (wd10 V) (wd11 V) (cs := [x2, x3, x4]) (n := 3) na99 F113 F115 F117 F112 (s_COMPACT_STRINGS V) (cz V) rfl rfl (by decide) (by decide) (cbS r3 (cbS r5 (cbS r7 cb0))) (Sf.mem (List.mem_of_getElem? (i := 0) rfl)) (rest := [(.ref a99)]) (W := 1) rfl rfl at_316 (pc' := 319) rfl (by decide) (by decide) (by decide) (by decide) ?_
    intro T118 h118_ t119 k120 g123 H118 K121 S122
    have nt119 : n0 ≤ t119 := Nat.le_trans H104.le g123
    refine G.astore H118 (L' := #[.val (.long y0), .second, .val (.long y1), .second, .val (.long y2), .second, .val (.int x0), .val (.ref p0), .val (.int (3 : Int32)), .val (.ref a99)]) at_319 (pc' := 321) rfl rfl rfl ?_
    refine G.aload H118 at_321 (pc' := 323) rfl rfl rfl ?_
    refine G.callS H118 (m16_untimed V a99 t119 k120 (x2.toInt8.toInt32) (x3.toInt8.toInt32) (x4.toInt8.toInt32) h118_ H118.old S122.1 S122.2.2.1 S122.2.2.2.1 S122.2.1) (wd36 V) (wd37 V) (wd38 V) (wd39 V) (by decide) (argsL := [(.ref a99)]) (rest := []) (W := 0) rfl rfl (lenOf (pd_5) rfl) rfl rfl at_323 (pc' := 326) rfl (by decide) (by decide) (by decide) (by decide) (allS (List.mem_of_getElem? (i := 1) rfl) (allS (List.mem_of_getElem? (i := 0) rfl) all0)) ?_
    intro T124 h124_ v125 s126 H124 Q127
    obtain ⟨rfl, rfl, K128⟩ := Q127
    show Go p e below _ (T124.setTop (mkF m 326 #[.val (.long y0), .second, .val (.long y1), .second, .val (.long y2), .second, .val (.int x0), .val (.ref p0), .val (.int (3 : Int32)), .val (.ref a99)] [(.int (0 : Int32))]))
    refine G.iload H124 at_326 (pc' := 328) rfl rfl ?_
    refine G.bipush H124 at_328 (pc' := 330) rfl (v := (10 : Int32)) rfl ?_
    refine G.icmpYes H124 at_330 (by decide) (by decide) (pc' := 337) rfl ?_
    refine G.iconst H124 at_337 (pc' := 338) rfl (v := (0 : Int32)) rfl ?_
    refine G.icmpNo H124 at_338 (pc' := 341) rfl (by decide) ?_
    refine G.iconst H124 at_341 (pc' := 342) rfl (v := (1 : Int32)) rfl ?_
    refine G.goto H124 at_342 (by decide) (pc' := 346) rfl ?_
    exact G.retN H124 (t := .boolean) rfl (by decide) at_346 (so := []) all0 (by decide) (by decide) rfl
  ·
    refine G.new H (wd3 V) (wd4 V) (wd5 V) at_305 (pc' := 308) rfl (by decide) (by decide) ?_
    intro T129 h129_ a130 ga130 H129 E131 A132 D133
    have na130 : n0 ≤ a130 := Nat.le_trans H.le (Nat.le_of_eq ga130.symm)
    show Go p e below _ (T129.setTop (mkF m 308 #[.val (.long y0), .second, .val (.long y1), .second, .val (.long y2), .second, .val (.int x0), .val (.ref p0), .val (.int (4 : Int32)), .unset] [(.ref a130)]))
    refine G.dup H129 at_308 (pc' := 309) rfl rfl ?_
    refine G.aload H129 at_309 (pc' := 311) rfl rfl rfl ?_
    refine G.iload H129 at_311 (pc' := 313) rfl rfl ?_
    have F134 : Arv Z h129_ p0 c0 .char (20 : Int32) [(.int x2), (.int x3), (.int x4), (.int x5), (.int x6), (.int x7), (.int x8), (.int x9), (.int x10), (.int x11), (.int x12), (.int x13), (.int x14), (.int x15), (.int x16), (.int x17), (.int x18), (.int x19), (.int x20), (.int x21)] (.int 0) := (Arv.ext f1 E131)
    refine G.callS H129 (m17_prefix V p0 c0 x2 x3 x4 x5 x6 x7 x8 x9 x10 x11 x12 x13 x14 x15 x16 x17 x18 x19 x20 x21 h129_ H129.old F134 r8 r6 r4 r2) (wd6 V) (wd7 V) (wd8 V) (wd9 V) (by decide) (argsL := [(.ref p0), (.int (4 : Int32))]) (rest := [(.ref a130), (.ref a130)]) (W := 2) rfl rfl (lenOf (pd_0) rfl) rfl rfl at_313 (pc' := 316) rfl (by decide) (by decide) (by decide) (by decide) all0 ?_
    intro T135 h135_ v136 s137 H135 Q138
    obtain ⟨a139, k140, rfl, rfl, K141, g142, F143⟩ := Q138
    have na139 : n0 ≤ a139 := Nat.le_trans H129.le g142
    show Go p e below _ (T135.setTop (mkF m 316 #[.val (.long y0), .second, .val (.long y1), .second, .val (.long y2), .second, .val (.int x0), .val (.ref p0), .val (.int (4 : Int32)), .unset] [(.ref a139), (.ref a130), (.ref a130)]))
    have F144 : Exa Z h135_ a130 "java/lang/String" := (Exa.keep A132 K141)
    have F145 : Fld Z h129_ a130 "java/lang/String" "value" "[B" .null := D133 (Or.inr (wd35 V)) (ty := (.array .byte)) (by decide)
    have F146 : Fld Z h135_ a130 "java/lang/String" "value" "[B" .null := (Fld.keep F145 K141 nin0)
    have F147 : Fld Z h129_ a130 "java/lang/String" "coder" "B" (.int (0 : Int32)) := D133 (Or.inr (wd33 V)) (ty := .byte) (by decide)
    have F148 : Fld Z h135_ a130 "java/lang/String" "coder" "B" (.int (0 : Int32)) := (Fld.keep F147 K141 nin0)
    refine G.newStr H135 (strw V) (wd4 V) (wd10 V) (wd11 V) (cs := [x2, x3, x4, x5]) (n := 4) na130 F144 F146 F148 F143 (s_COMPACT_STRINGS V) (cz V) rfl rfl (by decide) (by decide) (cbS r3 (cbS r5 (cbS r7 (cbS r9 cb0)))) (Sf.mem (List.mem_of_getElem? (i := 0) rfl)) (rest := [(.ref a130)]) (W := 1) rfl rfl at_316 (pc' := 319) rfl (by decide) (by decide) (by decide) (by decide) ?_
    intro T149 h149_ t150 k151 g154 H149 K152 S153
    have nt150 : n0 ≤ t150 := Nat.le_trans H135.le g154
    refine G.astore H149 (L' := #[.val (.long y0), .second, .val (.long y1), .second, .val (.long y2), .second, .val (.int x0), .val (.ref p0), .val (.int (4 : Int32)), .val (.ref a130)]) at_319 (pc' := 321) rfl rfl rfl ?_
    refine G.aload H149 at_321 (pc' := 323) rfl rfl rfl ?_
    refine G.callS H149 (m19_untimed V a130 t150 k151 (x2.toInt8.toInt32) (x3.toInt8.toInt32) (x4.toInt8.toInt32) (x5.toInt8.toInt32) h149_ H149.old S153.1 S153.2.2.1 S153.2.2.2.1 S153.2.1) (wd36 V) (wd37 V) (wd38 V) (wd39 V) (by decide) (argsL := [(.ref a130)]) (rest := []) (W := 0) rfl rfl (lenOf (pd_5) rfl) rfl rfl at_323 (pc' := 326) rfl (by decide) (by decide) (by decide) (by decide) (allS (List.mem_of_getElem? (i := 1) rfl) (allS (List.mem_of_getElem? (i := 0) rfl) all0)) ?_
    intro T155 h155_ v156 s157 H155 Q158
    obtain ⟨rfl, rfl, K159⟩ := Q158
    show Go p e below _ (T155.setTop (mkF m 326 #[.val (.long y0), .second, .val (.long y1), .second, .val (.long y2), .second, .val (.int x0), .val (.ref p0), .val (.int (4 : Int32)), .val (.ref a130)] [(.int (0 : Int32))]))
    refine G.iload H155 at_326 (pc' := 328) rfl rfl ?_
    refine G.bipush H155 at_328 (pc' := 330) rfl (v := (10 : Int32)) rfl ?_
    refine G.icmpYes H155 at_330 (by decide) (by decide) (pc' := 337) rfl ?_
    refine G.iconst H155 at_337 (pc' := 338) rfl (v := (0 : Int32)) rfl ?_
    refine G.icmpNo H155 at_338 (pc' := 341) rfl (by decide) ?_
    refine G.iconst H155 at_341 (pc' := 342) rfl (v := (1 : Int32)) rfl ?_
    refine G.goto H155 at_342 (by decide) (pc' := 346) rfl ?_
    exact G.retN H155 (t := .boolean) rfl (by decide) at_346 (so := []) all0 (by decide) (by decide) rfl
  ·
    refine G.new H (wd3 V) (wd4 V) (wd5 V) at_305 (pc' := 308) rfl (by decide) (by decide) ?_
    intro T160 h160_ a161 ga161 H160 E162 A163 D164
    have na161 : n0 ≤ a161 := Nat.le_trans H.le (Nat.le_of_eq ga161.symm)
    show Go p e below _ (T160.setTop (mkF m 308 #[.val (.long y0), .second, .val (.long y1), .second, .val (.long y2), .second, .val (.int x0), .val (.ref p0), .val (.int (5 : Int32)), .unset] [(.ref a161)]))
    refine G.dup H160 at_308 (pc' := 309) rfl rfl ?_
    refine G.aload H160 at_309 (pc' := 311) rfl rfl rfl ?_
    refine G.iload H160 at_311 (pc' := 313) rfl rfl ?_
    have F165 : Arv Z h160_ p0 c0 .char (20 : Int32) [(.int x2), (.int x3), (.int x4), (.int x5), (.int x6), (.int x7), (.int x8), (.int x9), (.int x10), (.int x11), (.int x12), (.int x13), (.int x14), (.int x15), (.int x16), (.int x17), (.int x18), (.int x19), (.int x20), (.int x21)] (.int 0) := (Arv.ext f1 E162)
    refine G.callS H160 (m20_prefix V p0 c0 x2 x3 x4 x5 x6 x7 x8 x9 x10 x11 x12 x13 x14 x15 x16 x17 x18 x19 x20 x21 h160_ H160.old F165 r10 r8 r6 r4 r2) (wd6 V) (wd7 V) (wd8 V) (wd9 V) (by decide) (argsL := [(.ref p0), (.int (5 : Int32))]) (rest := [(.ref a161), (.ref a161)]) (W := 2) rfl rfl (lenOf (pd_0) rfl) rfl rfl at_313 (pc' := 316) rfl (by decide) (by decide) (by decide) (by decide) all0 ?_
    intro T166 h166_ v167 s168 H166 Q169
    obtain ⟨a170, k171, rfl, rfl, K172, g173, F174⟩ := Q169
    have na170 : n0 ≤ a170 := Nat.le_trans H160.le g173
    show Go p e below _ (T166.setTop (mkF m 316 #[.val (.long y0), .second, .val (.long y1), .second, .val (.long y2), .second, .val (.int x0), .val (.ref p0), .val (.int (5 : Int32)), .unset] [(.ref a170), (.ref a161), (.ref a161)]))
    have F175 : Exa Z h166_ a161 "java/lang/String" := (Exa.keep A163 K172)
    have F176 : Fld Z h160_ a161 "java/lang/String" "value" "[B" .null := D164 (Or.inr (wd35 V)) (ty := (.array .byte)) (by decide)
    have F177 : Fld Z h166_ a161 "java/lang/String" "value" "[B" .null := (Fld.keep F176 K172 nin0)
    have F178 : Fld Z h160_ a161 "java/lang/String" "coder" "B" (.int (0 : Int32)) := D164 (Or.inr (wd33 V)) (ty := .byte) (by decide)
    have F179 : Fld Z h166_ a161 "java/lang/String" "coder" "B" (.int (0 : Int32)) := (Fld.keep F178 K172 nin0)
    refine G.newStr H166 (strw V) (wd4 V) (wd10 V) (wd11 V) (cs := [x2, x3, x4, x5, x6]) (n := 5) na161 F175 F177 F179 F174 (s_COMPACT_STRINGS V) (cz V) rfl rfl (by decide) (by decide) (cbS r3 (cbS r5 (cbS r7 (cbS r9 (cbS r11 cb0))))) (Sf.mem (List.mem_of_getElem? (i := 0) rfl)) (rest := [(.ref a161)]) (W := 1) rfl rfl at_316 (pc' := 319) rfl (by decide) (by decide) (by decide) (by decide) ?_
    intro T180 h180_ t181 k182 g185 H180 K183 S184
    have nt181 : n0 ≤ t181 := Nat.le_trans H166.le g185
    refine G.astore H180 (L' := #[.val (.long y0), .second, .val (.long y1), .second, .val (.long y2), .second, .val (.int x0), .val (.ref p0), .val (.int (5 : Int32)), .val (.ref a161)]) at_319 (pc' := 321) rfl rfl rfl ?_
    refine G.aload H180 at_321 (pc' := 323) rfl rfl rfl ?_
    refine G.callS H180 (m22_untimed V a161 t181 k182 (x2.toInt8.toInt32) (x3.toInt8.toInt32) (x4.toInt8.toInt32) (x5.toInt8.toInt32) (x6.toInt8.toInt32) h180_ H180.old S184.1 S184.2.2.1 S184.2.2.2.1 S184.2.1) (wd36 V) (wd37 V) (wd38 V) (wd39 V) (by decide) (argsL := [(.ref a161)]) (rest := []) (W := 0) rfl rfl (lenOf (pd_5) rfl) rfl rfl at_323 (pc' := 326) rfl (by decide) (by decide) (by decide) (by decide) (allS (List.mem_of_getElem? (i := 1) rfl) (allS (List.mem_of_getElem? (i := 0) rfl) all0)) ?_
    intro T186 h186_ v187 s188 H186 Q189
    obtain ⟨rfl, rfl, K190⟩ := Q189
    show Go p e below _ (T186.setTop (mkF m 326 #[.val (.long y0), .second, .val (.long y1), .second, .val (.long y2), .second, .val (.int x0), .val (.ref p0), .val (.int (5 : Int32)), .val (.ref a161)] [(.int (0 : Int32))]))
    refine G.iload H186 at_326 (pc' := 328) rfl rfl ?_
    refine G.bipush H186 at_328 (pc' := 330) rfl (v := (10 : Int32)) rfl ?_
    refine G.icmpYes H186 at_330 (by decide) (by decide) (pc' := 337) rfl ?_
    refine G.iconst H186 at_337 (pc' := 338) rfl (v := (0 : Int32)) rfl ?_
    refine G.icmpNo H186 at_338 (pc' := 341) rfl (by decide) ?_
    refine G.iconst H186 at_341 (pc' := 342) rfl (v := (1 : Int32)) rfl ?_
    refine G.goto H186 at_342 (by decide) (pc' := 346) rfl ?_
    exact G.retN H186 (t := .boolean) rfl (by decide) at_346 (so := []) all0 (by decide) (by decide) rfl
  ·
    refine G.new H (wd3 V) (wd4 V) (wd5 V) at_305 (pc' := 308) rfl (by decide) (by decide) ?_
    intro T191 h191_ a192 ga192 H191 E193 A194 D195
    have na192 : n0 ≤ a192 := Nat.le_trans H.le (Nat.le_of_eq ga192.symm)
    show Go p e below _ (T191.setTop (mkF m 308 #[.val (.long y0), .second, .val (.long y1), .second, .val (.long y2), .second, .val (.int x0), .val (.ref p0), .val (.int (6 : Int32)), .unset] [(.ref a192)]))
    refine G.dup H191 at_308 (pc' := 309) rfl rfl ?_
    refine G.aload H191 at_309 (pc' := 311) rfl rfl rfl ?_
    refine G.iload H191 at_311 (pc' := 313) rfl rfl ?_
    have F196 : Arv Z h191_ p0 c0 .char (20 : Int32) [(.int x2), (.int x3), (.int x4), (.int x5), (.int x6), (.int x7), (.int x8), (.int x9), (.int x10), (.int x11), (.int x12), (.int x13), (.int x14), (.int x15), (.int x16), (.int x17), (.int x18), (.int x19), (.int x20), (.int x21)] (.int 0) := (Arv.ext f1 E193)
    refine G.callS H191 (m23_prefix V p0 c0 x2 x3 x4 x5 x6 x7 x8 x9 x10 x11 x12 x13 x14 x15 x16 x17 x18 x19 x20 x21 h191_ H191.old F196 r12 r10 r8 r6 r4 r2) (wd6 V) (wd7 V) (wd8 V) (wd9 V) (by decide) (argsL := [(.ref p0), (.int (6 : Int32))]) (rest := [(.ref a192), (.ref a192)]) (W := 2) rfl rfl (lenOf (pd_0) rfl) rfl rfl at_313 (pc' := 316) rfl (by decide) (by decide) (by decide) (by decide) all0 ?_
    intro T197 h197_ v198 s199 H197 Q200
    obtain ⟨a201, k202, rfl, rfl, K203, g204, F205⟩ := Q200
    have na201 : n0 ≤ a201 := Nat.le_trans H191.le g204
    show Go p e below _ (T197.setTop (mkF m 316 #[.val (.long y0), .second, .val (.long y1), .second, .val (.long y2), .second, .val (.int x0), .val (.ref p0), .val (.int (6 : Int32)), .unset] [(.ref a201), (.ref a192), (.ref a192)]))
    have F206 : Exa Z h197_ a192 "java/lang/String" := (Exa.keep A194 K203)
    have F207 : Fld Z h191_ a192 "java/lang/String" "value" "[B" .null := D195 (Or.inr (wd35 V)) (ty := (.array .byte)) (by decide)
    have F208 : Fld Z h197_ a192 "java/lang/String" "value" "[B" .null := (Fld.keep F207 K203 nin0)
    have F209 : Fld Z h191_ a192 "java/lang/String" "coder" "B" (.int (0 : Int32)) := D195 (Or.inr (wd33 V)) (ty := .byte) (by decide)
    have F210 : Fld Z h197_ a192 "java/lang/String" "coder" "B" (.int (0 : Int32)) := (Fld.keep F209 K203 nin0)
    refine G.newStr H197 (strw V) (wd4 V) (wd10 V) (wd11 V) (cs := [x2, x3, x4, x5, x6, x7]) (n := 6) na192 F206 F208 F210 F205 (s_COMPACT_STRINGS V) (cz V) rfl rfl (by decide) (by decide) (cbS r3 (cbS r5 (cbS r7 (cbS r9 (cbS r11 (cbS r13 cb0)))))) (Sf.mem (List.mem_of_getElem? (i := 0) rfl)) (rest := [(.ref a192)]) (W := 1) rfl rfl at_316 (pc' := 319) rfl (by decide) (by decide) (by decide) (by decide) ?_
    intro T211 h211_ t212 k213 g216 H211 K214 S215
    have nt212 : n0 ≤ t212 := Nat.le_trans H197.le g216
    refine G.astore H211 (L' := #[.val (.long y0), .second, .val (.long y1), .second, .val (.long y2), .second, .val (.int x0), .val (.ref p0), .val (.int (6 : Int32)), .val (.ref a192)]) at_319 (pc' := 321) rfl rfl rfl ?_
    refine G.aload H211 at_321 (pc' := 323) rfl rfl rfl ?_
    refine G.callS H211 (m25_untimed V a192 t212 k213 (x2.toInt8.toInt32) (x3.toInt8.toInt32) (x4.toInt8.toInt32) (x5.toInt8.toInt32) (x6.toInt8.toInt32) (x7.toInt8.toInt32) h211_ H211.old S215.1 S215.2.2.1 S215.2.2.2.1 S215.2.1) (wd36 V) (wd37 V) (wd38 V) (wd39 V) (by decide) (argsL := [(.ref a192)]) (rest := []) (W := 0) rfl rfl (lenOf (pd_5) rfl) rfl rfl at_323 (pc' := 326) rfl (by decide) (by decide) (by decide) (by decide) (allS (List.mem_of_getElem? (i := 1) rfl) (allS (List.mem_of_getElem? (i := 0) rfl) all0)) ?_
    intro T217 h217_ v218 s219 H217 Q220
    obtain ⟨rfl, rfl, K221⟩ := Q220
    show Go p e below _ (T217.setTop (mkF m 326 #[.val (.long y0), .second, .val (.long y1), .second, .val (.long y2), .second, .val (.int x0), .val (.ref p0), .val (.int (6 : Int32)), .val (.ref a192)] [(.int (0 : Int32))]))
    refine G.iload H217 at_326 (pc' := 328) rfl rfl ?_
    refine G.bipush H217 at_328 (pc' := 330) rfl (v := (10 : Int32)) rfl ?_
    refine G.icmpYes H217 at_330 (by decide) (by decide) (pc' := 337) rfl ?_
    refine G.iconst H217 at_337 (pc' := 338) rfl (v := (0 : Int32)) rfl ?_
    refine G.icmpNo H217 at_338 (pc' := 341) rfl (by decide) ?_
    refine G.iconst H217 at_341 (pc' := 342) rfl (v := (1 : Int32)) rfl ?_
    refine G.goto H217 at_342 (by decide) (pc' := 346) rfl ?_
    exact G.retN H217 (t := .boolean) rfl (by decide) at_346 (so := []) all0 (by decide) (by decide) rfl
  ·
    refine G.new H (wd3 V) (wd4 V) (wd5 V) at_305 (pc' := 308) rfl (by decide) (by decide) ?_
    intro T222 h222_ a223 ga223 H222 E224 A225 D226
    have na223 : n0 ≤ a223 := Nat.le_trans H.le (Nat.le_of_eq ga223.symm)
    show Go p e below _ (T222.setTop (mkF m 308 #[.val (.long y0), .second, .val (.long y1), .second, .val (.long y2), .second, .val (.int x0), .val (.ref p0), .val (.int (7 : Int32)), .unset] [(.ref a223)]))
    refine G.dup H222 at_308 (pc' := 309) rfl rfl ?_
    refine G.aload H222 at_309 (pc' := 311) rfl rfl rfl ?_
    refine G.iload H222 at_311 (pc' := 313) rfl rfl ?_
    have F227 : Arv Z h222_ p0 c0 .char (20 : Int32) [(.int x2), (.int x3), (.int x4), (.int x5), (.int x6), (.int x7), (.int x8), (.int x9), (.int x10), (.int x11), (.int x12), (.int x13), (.int x14), (.int x15), (.int x16), (.int x17), (.int x18), (.int x19), (.int x20), (.int x21)] (.int 0) := (Arv.ext f1 E224)
    refine G.callS H222 (m26_prefix V p0 c0 x2 x3 x4 x5 x6 x7 x8 x9 x10 x11 x12 x13 x14 x15 x16 x17 x18 x19 x20 x21 h222_ H222.old F227 r14 r12 r10 r8 r6 r4 r2) (wd6 V) (wd7 V) (wd8 V) (wd9 V) (by decide) (argsL := [(.ref p0), (.int (7 : Int32))]) (rest := [(.ref a223), (.ref a223)]) (W := 2) rfl rfl (lenOf (pd_0) rfl) rfl rfl at_313 (pc' := 316) rfl (by decide) (by decide) (by decide) (by decide) all0 ?_
    intro T228 h228_ v229 s230 H228 Q231
    obtain ⟨a232, k233, rfl, rfl, K234, g235, F236⟩ := Q231
    have na232 : n0 ≤ a232 := Nat.le_trans H222.le g235
    show Go p e below _ (T228.setTop (mkF m 316 #[.val (.long y0), .second, .val (.long y1), .second, .val (.long y2), .second, .val (.int x0), .val (.ref p0), .val (.int (7 : Int32)), .unset] [(.ref a232), (.ref a223), (.ref a223)]))
    have F237 : Exa Z h228_ a223 "java/lang/String" := (Exa.keep A225 K234)
    have F238 : Fld Z h222_ a223 "java/lang/String" "value" "[B" .null := D226 (Or.inr (wd35 V)) (ty := (.array .byte)) (by decide)
    have F239 : Fld Z h228_ a223 "java/lang/String" "value" "[B" .null := (Fld.keep F238 K234 nin0)
    have F240 : Fld Z h222_ a223 "java/lang/String" "coder" "B" (.int (0 : Int32)) := D226 (Or.inr (wd33 V)) (ty := .byte) (by decide)
    have F241 : Fld Z h228_ a223 "java/lang/String" "coder" "B" (.int (0 : Int32)) := (Fld.keep F240 K234 nin0)
    refine G.newStr H228 (strw V) (wd4 V) (wd10 V) (wd11 V) (cs := [x2, x3, x4, x5, x6, x7, x8]) (n := 7) na223 F237 F239 F241 F236 (s_COMPACT_STRINGS V) (cz V) rfl rfl (by decide) (by decide) (cbS r3 (cbS r5 (cbS r7 (cbS r9 (cbS r11 (cbS r13 (cbS r15 cb0))))))) (Sf.mem (List.mem_of_getElem? (i := 0) rfl)) (rest := [(.ref a223)]) (W := 1) rfl rfl at_316 (pc' := 319) rfl (by decide) (by decide) (by decide) (by decide) ?_
    intro T242 h242_ t243 k244 g247 H242 K245 S246
    have nt243 : n0 ≤ t243 := Nat.le_trans H228.le g247
    refine G.astore H242 (L' := #[.val (.long y0), .second, .val (.long y1), .second, .val (.long y2), .second, .val (.int x0), .val (.ref p0), .val (.int (7 : Int32)), .val (.ref a223)]) at_319 (pc' := 321) rfl rfl rfl ?_
    refine G.aload H242 at_321 (pc' := 323) rfl rfl rfl ?_
    refine G.callS H242 (m28_untimed V a223 t243 k244 (x2.toInt8.toInt32) (x3.toInt8.toInt32) (x4.toInt8.toInt32) (x5.toInt8.toInt32) (x6.toInt8.toInt32) (x7.toInt8.toInt32) (x8.toInt8.toInt32) h242_ H242.old S246.1 S246.2.2.1 S246.2.2.2.1 S246.2.1) (wd36 V) (wd37 V) (wd38 V) (wd39 V) (by decide) (argsL := [(.ref a223)]) (rest := []) (W := 0) rfl rfl (lenOf (pd_5) rfl) rfl rfl at_323 (pc' := 326) rfl (by decide) (by decide) (by decide) (by decide) (allS (List.mem_of_getElem? (i := 1) rfl) (allS (List.mem_of_getElem? (i := 0) rfl) all0)) ?_
    intro T248 h248_ v249 s250 H248 Q251
    obtain ⟨rfl, rfl, K252⟩ := Q251
    show Go p e below _ (T248.setTop (mkF m 326 #[.val (.long y0), .second, .val (.long y1), .second, .val (.long y2), .second, .val (.int x0), .val (.ref p0), .val (.int (7 : Int32)), .val (.ref a223)] [(.int (0 : Int32))]))
    refine G.iload H248 at_326 (pc' := 328) rfl rfl ?_
    refine G.bipush H248 at_328 (pc' := 330) rfl (v := (10 : Int32)) rfl ?_
    refine G.icmpYes H248 at_330 (by decide) (by decide) (pc' := 337) rfl ?_
    refine G.iconst H248 at_337 (pc' := 338) rfl (v := (0 : Int32)) rfl ?_
    refine G.icmpNo H248 at_338 (pc' := 341) rfl (by decide) ?_
    refine G.iconst H248 at_341 (pc' := 342) rfl (v := (1 : Int32)) rfl ?_
    refine G.goto H248 at_342 (by decide) (pc' := 346) rfl ?_
    exact G.retN H248 (t := .boolean) rfl (by decide) at_346 (so := []) all0 (by decide) (by decide) rfl
  ·
    refine G.new H (wd3 V) (wd4 V) (wd5 V) at_305 (pc' := 308) rfl (by decide) (by decide) ?_
    intro T253 h253_ a254 ga254 H253 E255 A256 D257
    have na254 : n0 ≤ a254 := Nat.le_trans H.le (Nat.le_of_eq ga254.symm)
    show Go p e below _ (T253.setTop (mkF m 308 #[.val (.long y0), .second, .val (.long y1), .second, .val (.long y2), .second, .val (.int x0), .val (.ref p0), .val (.int (8 : Int32)), .unset] [(.ref a254)]))
    refine G.dup H253 at_308 (pc' := 309) rfl rfl ?_
    refine G.aload H253 at_309 (pc' := 311) rfl rfl rfl ?_
    refine G.iload H253 at_311 (pc' := 313) rfl rfl ?_
    have F258 : Arv Z h253_ p0 c0 .char (20 : Int32) [(.int x2), (.int x3), (.int x4), (.int x5), (.int x6), (.int x7), (.int x8), (.int x9), (.int x10), (.int x11), (.int x12), (.int x13), (.int x14), (.int x15), (.int x16), (.int x17), (.int x18), (.int x19), (.int x20), (.int x21)] (.int 0) := (Arv.ext f1 E255)
    refine G.callS H253 (m29_prefix V p0 c0 x2 x3 x4 x5 x6 x7 x8 x9 x10 x11 x12 x13 x14 x15 x16 x17 x18 x19 x20 x21 h253_ H253.old F258 r16 r14 r12 r10 r8 r6 r4 r2) (wd6 V) (wd7 V) (wd8 V) (wd9 V) (by decide) (argsL := [(.ref p0), (.int (8 : Int32))]) (rest := [(.ref a254), (.ref a254)]) (W := 2) rfl rfl (lenOf (pd_0) rfl) rfl rfl at_313 (pc' := 316) rfl (by decide) (by decide) (by decide) (by decide) all0 ?_
    intro T259 h259_ v260 s261 H259 Q262
    obtain ⟨a263, k264, rfl, rfl, K265, g266, F267⟩ := Q262
    have na263 : n0 ≤ a263 := Nat.le_trans H253.le g266
    show Go p e below _ (T259.setTop (mkF m 316 #[.val (.long y0), .second, .val (.long y1), .second, .val (.long y2), .second, .val (.int x0), .val (.ref p0), .val (.int (8 : Int32)), .unset] [(.ref a263), (.ref a254), (.ref a254)]))
    have F268 : Exa Z h259_ a254 "java/lang/String" := (Exa.keep A256 K265)
    have F269 : Fld Z h253_ a254 "java/lang/String" "value" "[B" .null := D257 (Or.inr (wd35 V)) (ty := (.array .byte)) (by decide)
    have F270 : Fld Z h259_ a254 "java/lang/String" "value" "[B" .null := (Fld.keep F269 K265 nin0)
    have F271 : Fld Z h253_ a254 "java/lang/String" "coder" "B" (.int (0 : Int32)) := D257 (Or.inr (wd33 V)) (ty := .byte) (by decide)
    have F272 : Fld Z h259_ a254 "java/lang/String" "coder" "B" (.int (0 : Int32)) := (Fld.keep F271 K265 nin0)
    refine G.newStr H259 (strw V) (wd4 V) (wd10 V) (wd11 V) (cs := [x2, x3, x4, x5, x6, x7, x8, x9]) (n := 8) na254 F268 F270 F272 F267 (s_COMPACT_STRINGS V) (cz V) rfl rfl (by decide) (by decide) (cbS r3 (cbS r5 (cbS r7 (cbS r9 (cbS r11 (cbS r13 (cbS r15 (cbS r17 cb0)))))))) (Sf.mem (List.mem_of_getElem? (i := 0) rfl)) (rest := [(.ref a254)]) (W := 1) rfl rfl at_316 (pc' := 319) rfl (by decide) (by decide) (by decide) (by decide) ?_
    intro T273 h273_ t274 k275 g278 H273 K276 S277
    have nt274 : n0 ≤ t274 := Nat.le_trans H259.le g278
    refine G.astore H273 (L' := #[.val (.long y0), .second, .val (.long y1), .second, .val (.long y2), .second, .val (.int x0), .val (.ref p0), .val (.int (8 : Int32)), .val (.ref a254)]) at_319 (pc' := 321) rfl rfl rfl ?_
    refine G.aload H273 at_321 (pc' := 323) rfl rfl rfl ?_
    refine G.callS H273 (m31_untimed V a254 t274 k275 (x2.toInt8.toInt32) (x3.toInt8.toInt32) (x4.toInt8.toInt32) (x5.toInt8.toInt32) (x6.toInt8.toInt32) (x7.toInt8.toInt32) (x8.toInt8.toInt32) (x9.toInt8.toInt32) h273_ H273.old S277.1 S277.2.2.1 S277.2.2.2.1 S277.2.1) (wd36 V) (wd37 V) (wd38 V) (wd39 V) (by decide) (argsL := [(.ref a254)]) (rest := []) (W := 0) rfl rfl (lenOf (pd_5) rfl) rfl rfl at_323 (pc' := 326) rfl (by decide) (by decide) (by decide) (by decide) (allS (List.mem_of_getElem? (i := 1) rfl) (allS (List.mem_of_getElem? (i := 0) rfl) all0)) ?_
    intro T279 h279_ v280 s281 H279 Q282
    obtain ⟨rfl, rfl, K283⟩ := Q282
    show Go p e below _ (T279.setTop (mkF m 326 #[.val (.long y0), .second, .val (.long y1), .second, .val (.long y2), .second, .val (.int x0), .val (.ref p0), .val (.int (8 : Int32)), .val (.ref a254)] [(.int (0 : Int32))]))
    refine G.iload H279 at_326 (pc' := 328) rfl rfl ?_
    refine G.bipush H279 at_328 (pc' := 330) rfl (v := (10 : Int32)) rfl ?_
    refine G.icmpYes H279 at_330 (by decide) (by decide) (pc' := 337) rfl ?_
    refine G.iconst H279 at_337 (pc' := 338) rfl (v := (0 : Int32)) rfl ?_
    refine G.icmpNo H279 at_338 (pc' := 341) rfl (by decide) ?_
    refine G.iconst H279 at_341 (pc' := 342) rfl (v := (1 : Int32)) rfl ?_
    refine G.goto H279 at_342 (by decide) (pc' := 346) rfl ?_
    exact G.retN H279 (t := .boolean) rfl (by decide) at_346 (so := []) all0 (by decide) (by decide) rfl
  ·
    refine G.new H (wd3 V) (wd4 V) (wd5 V) at_305 (pc' := 308) rfl (by decide) (by decide) ?_
    intro T284 h284_ a285 ga285 H284 E286 A287 D288
    have na285 : n0 ≤ a285 := Nat.le_trans H.le (Nat.le_of_eq ga285.symm)
    show Go p e below _ (T284.setTop (mkF m 308 #[.val (.long y0), .second, .val (.long y1), .second, .val (.long y2), .second, .val (.int x0), .val (.ref p0), .val (.int (9 : Int32)), .unset] [(.ref a285)]))
    refine G.dup H284 at_308 (pc' := 309) rfl rfl ?_
    refine G.aload H284 at_309 (pc' := 311) rfl rfl rfl ?_
    refine G.iload H284 at_311 (pc' := 313) rfl rfl ?_
    have F289 : Arv Z h284_ p0 c0 .char (20 : Int32) [(.int x2), (.int x3), (.int x4), (.int x5), (.int x6), (.int x7), (.int x8), (.int x9), (.int x10), (.int x11), (.int x12), (.int x13), (.int x14), (.int x15), (.int x16), (.int x17), (.int x18), (.int x19), (.int x20), (.int x21)] (.int 0) := (Arv.ext f1 E286)
    refine G.callS H284 (m32_prefix V p0 c0 x2 x3 x4 x5 x6 x7 x8 x9 x10 x11 x12 x13 x14 x15 x16 x17 x18 x19 x20 x21 h284_ H284.old F289 r18 r16 r14 r12 r10 r8 r6 r4 r2) (wd6 V) (wd7 V) (wd8 V) (wd9 V) (by decide) (argsL := [(.ref p0), (.int (9 : Int32))]) (rest := [(.ref a285), (.ref a285)]) (W := 2) rfl rfl (lenOf (pd_0) rfl) rfl rfl at_313 (pc' := 316) rfl (by decide) (by decide) (by decide) (by decide) all0 ?_
    intro T290 h290_ v291 s292 H290 Q293
    obtain ⟨a294, k295, rfl, rfl, K296, g297, F298⟩ := Q293
    have na294 : n0 ≤ a294 := Nat.le_trans H284.le g297
    show Go p e below _ (T290.setTop (mkF m 316 #[.val (.long y0), .second, .val (.long y1), .second, .val (.long y2), .second, .val (.int x0), .val (.ref p0), .val (.int (9 : Int32)), .unset] [(.ref a294), (.ref a285), (.ref a285)]))
    have F299 : Exa Z h290_ a285 "java/lang/String" := (Exa.keep A287 K296)
    have F300 : Fld Z h284_ a285 "java/lang/String" "value" "[B" .null := D288 (Or.inr (wd35 V)) (ty := (.array .byte)) (by decide)
    have F301 : Fld Z h290_ a285 "java/lang/String" "value" "[B" .null := (Fld.keep F300 K296 nin0)
    have F302 : Fld Z h284_ a285 "java/lang/String" "coder" "B" (.int (0 : Int32)) := D288 (Or.inr (wd33 V)) (ty := .byte) (by decide)
    have F303 : Fld Z h290_ a285 "java/lang/String" "coder" "B" (.int (0 : Int32)) := (Fld.keep F302 K296 nin0)
    refine G.newStr H290 (strw V) (wd4 V) (wd10 V) (wd11 V) (cs := [x2, x3, x4, x5, x6, x7, x8, x9, x10]) (n := 9) na285 F299 F301 F303 F298 (s_COMPACT_STRINGS V) (cz V) rfl rfl (by decide) (by decide) (cbS r3 (cbS r5 (cbS r7 (cbS r9 (cbS r11 (cbS r13 (cbS r15 (cbS r17 (cbS r19 cb0))))))))) (Sf.mem (List.mem_of_getElem? (i := 0) rfl)) (rest := [(.ref a285)]) (W := 1) rfl rfl at_316 (pc' := 319) rfl (by decide) (by decide) (by decide) (by decide) ?_
    intro T304 h304_ t305 k306 g309 H304 K307 S308
    have nt305 : n0 ≤ t305 := Nat.le_trans H290.le g309
    refine G.astore H304 (L' := #[.val (.long y0), .second, .val (.long y1), .second, .val (.long y2), .second, .val (.int x0), .val (.ref p0), .val (.int (9 : Int32)), .val (.ref a285)]) at_319 (pc' := 321) rfl rfl rfl ?_
    refine G.aload H304 at_321 (pc' := 323) rfl rfl rfl ?_
    refine G.callS H304 (m34_untimed V a285 t305 k306 (x2.toInt8.toInt32) (x3.toInt8.toInt32) (x4.toInt8.toInt32) (x5.toInt8.toInt32) (x6.toInt8.toInt32) (x7.toInt8.toInt32) (x8.toInt8.toInt32) (x9.toInt8.toInt32) (x10.toInt8.toInt32) h304_ H304.old S308.1 S308.2.2.1 S308.2.2.2.1 S308.2.1) (wd36 V) (wd37 V) (wd38 V) (wd39 V) (by decide) (argsL := [(.ref a285)]) (rest := []) (W := 0) rfl rfl (lenOf (pd_5) rfl) rfl rfl at_323 (pc' := 326) rfl (by decide) (by decide) (by decide) (by decide) (allS (List.mem_of_getElem? (i := 1) rfl) (allS (List.mem_of_getElem? (i := 0) rfl) all0)) ?_
    intro T310 h310_ v311 s312 H310 Q313
    obtain ⟨rfl, rfl, K314⟩ := Q313
    show Go p e below _ (T310.setTop (mkF m 326 #[.val (.long y0), .second, .val (.long y1), .second, .val (.long y2), .second, .val (.int x0), .val (.ref p0), .val (.int (9 : Int32)), .val (.ref a285)] [(.int (0 : Int32))]))
    refine G.iload H310 at_326 (pc' := 328) rfl rfl ?_
    refine G.bipush H310 at_328 (pc' := 330) rfl (v := (10 : Int32)) rfl ?_
    refine G.icmpYes H310 at_330 (by decide) (by decide) (pc' := 337) rfl ?_
    refine G.iconst H310 at_337 (pc' := 338) rfl (v := (0 : Int32)) rfl ?_
    refine G.icmpNo H310 at_338 (pc' := 341) rfl (by decide) ?_
    refine G.iconst H310 at_341 (pc' := 342) rfl (v := (1 : Int32)) rfl ?_
    refine G.goto H310 at_342 (by decide) (pc' := 346) rfl ?_
    exact G.retN H310 (t := .boolean) rfl (by decide) at_346 (so := []) all0 (by decide) (by decide) rfl
  ·
    refine G.new H (wd3 V) (wd4 V) (wd5 V) at_305 (pc' := 308) rfl (by decide) (by decide) ?_
    intro T315 h315_ a316 ga316 H315 E317 A318 D319
    have na316 : n0 ≤ a316 := Nat.le_trans H.le (Nat.le_of_eq ga316.symm)
    show Go p e below _ (T315.setTop (mkF m 308 #[.val (.long y0), .second, .val (.long y1), .second, .val (.long y2), .second, .val (.int x0), .val (.ref p0), .val (.int (10 : Int32)), .unset] [(.ref a316)]))
    refine G.dup H315 at_308 (pc' := 309) rfl rfl ?_
    refine G.aload H315 at_309 (pc' := 311) rfl rfl rfl ?_
    refine G.iload H315 at_311 (pc' := 313) rfl rfl ?_
    have F320 : Arv Z h315_ p0 c0 .char (20 : Int32) [(.int x2), (.int x3), (.int x4), (.int x5), (.int x6), (.int x7), (.int x8), (.int x9), (.int x10), (.int x11), (.int x12), (.int x13), (.int x14), (.int x15), (.int x16), (.int x17), (.int x18), (.int x19), (.int x20), (.int x21)] (.int 0) := (Arv.ext f1 E317)
    refine G.callS H315 (m35_prefix V p0 c0 x2 x3 x4 x5 x6 x7 x8 x9 x10 x11 x12 x13 x14 x15 x16 x17 x18 x19 x20 x21 h315_ H315.old F320 r20 r18 r16 r14 r12 r10 r8 r6 r4 r2) (wd6 V) (wd7 V) (wd8 V) (wd9 V) (by decide) (argsL := [(.ref p0), (.int (10 : Int32))]) (rest := [(.ref a316), (.ref a316)]) (W := 2) rfl rfl (lenOf (pd_0) rfl) rfl rfl at_313 (pc' := 316) rfl (by decide) (by decide) (by decide) (by decide) all0 ?_
    intro T321 h321_ v322 s323 H321 Q324
    obtain ⟨a325, k326, rfl, rfl, K327, g328, F329⟩ := Q324
    have na325 : n0 ≤ a325 := Nat.le_trans H315.le g328
    show Go p e below _ (T321.setTop (mkF m 316 #[.val (.long y0), .second, .val (.long y1), .second, .val (.long y2), .second, .val (.int x0), .val (.ref p0), .val (.int (10 : Int32)), .unset] [(.ref a325), (.ref a316), (.ref a316)]))
    have F330 : Exa Z h321_ a316 "java/lang/String" := (Exa.keep A318 K327)
    have F331 : Fld Z h315_ a316 "java/lang/String" "value" "[B" .null := D319 (Or.inr (wd35 V)) (ty := (.array .byte)) (by decide)
    have F332 : Fld Z h321_ a316 "java/lang/String" "value" "[B" .null := (Fld.keep F331 K327 nin0)
    have F333 : Fld Z h315_ a316 "java/lang/String" "coder" "B" (.int (0 : Int32)) := D319 (Or.inr (wd33 V)) (ty := .byte) (by decide)
    have F334 : Fld Z h321_ a316 "java/lang/String" "coder" "B" (.int (0 : Int32)) := (Fld.keep F333 K327 nin0)
    refine G.newStr H321 (strw V) (wd4 V) (wd10 V) (wd11 V) (cs := [x2, x3, x4, x5, x6, x7, x8, x9, x10, x11]) (n := 10) na316 F330 F332 F334 F329 (s_COMPACT_STRINGS V) (cz V) rfl rfl (by decide) (by decide) (cbS r3 (cbS r5 (cbS r7 (cbS r9 (cbS r11 (cbS r13 (cbS r15 (cbS r17 (cbS r19 (cbS r21 cb0)))))))))) (Sf.mem (List.mem_of_getElem? (i := 0) rfl)) (rest := [(.ref a316)]) (W := 1) rfl rfl at_316 (pc' := 319) rfl (by decide) (by decide) (by decide) (by decide) ?_
    intro T335 h335_ t336 k337 g340 H335 K338 S339
    have nt336 : n0 ≤ t336 := Nat.le_trans H321.le g340
    refine G.astore H335 (L' := #[.val (.long y0), .second, .val (.long y1), .second, .val (.long y2), .second, .val (.int x0), .val (.ref p0), .val (.int (10 : Int32)), .val (.ref a316)]) at_319 (pc' := 321) rfl rfl rfl ?_
    refine G.aload H335 at_321 (pc' := 323) rfl rfl rfl ?_
    refine G.callS H335 (m37_untimed V a316 t336 k337 (x2.toInt8.toInt32) (x3.toInt8.toInt32) (x4.toInt8.toInt32) (x5.toInt8.toInt32) (x6.toInt8.toInt32) (x7.toInt8.toInt32) (x8.toInt8.toInt32) (x9.toInt8.toInt32) (x10.toInt8.toInt32) (x11.toInt8.toInt32) h335_ H335.old S339.1 S339.2.2.1 S339.2.2.2.1 S339.2.1) (wd36 V) (wd37 V) (wd38 V) (wd39 V) (by decide) (argsL := [(.ref a316)]) (rest := []) (W := 0) rfl rfl (lenOf (pd_5) rfl) rfl rfl at_323 (pc' := 326) rfl (by decide) (by decide) (by decide) (by decide) (allS (List.mem_of_getElem? (i := 1) rfl) (allS (List.mem_of_getElem? (i := 0) rfl) all0)) ?_
    intro T341 h341_ v342 s343 H341 Q344
    obtain ⟨rfl, rfl, K345⟩ := Q344
    show Go p e below _ (T341.setTop (mkF m 326 #[.val (.long y0), .second, .val (.long y1), .second, .val (.long y2), .second, .val (.int x0), .val (.ref p0), .val (.int (10 : Int32)), .val (.ref a316)] [(.int (1 : Int32))]))
    refine G.iload H341 at_326 (pc' := 328) rfl rfl ?_
    refine G.bipush H341 at_328 (pc' := 330) rfl (v := (10 : Int32)) rfl ?_
    refine G.icmpNo H341 at_330 (pc' := 333) rfl (by decide) ?_
    refine G.iconst H341 at_333 (pc' := 334) rfl (v := (1 : Int32)) rfl ?_
    refine G.goto H341 at_334 (by decide) (pc' := 338) rfl ?_
    refine G.icmpNo H341 at_338 (pc' := 341) rfl (by decide) ?_
    refine G.iconst H341 at_341 (pc' := 342) rfl (v := (1 : Int32)) rfl ?_
    refine G.goto H341 at_342 (by decide) (pc' := 346) rfl ?_
    exact G.retN H341 (t := .boolean) rfl (by decide) at_346 (so := []) all0 (by decide) (by decide) rfl
  ·
    refine G.new H (wd3 V) (wd4 V) (wd5 V) at_305 (pc' := 308) rfl (by decide) (by decide) ?_
    intro T346 h346_ a347 ga347 H346 E348 A349 D350
    have na347 : n0 ≤ a347 := Nat.le_trans H.le (Nat.le_of_eq ga347.symm)
    show Go p e below _ (T346.setTop (mkF m 308 #[.val (.long y0), .second, .val (.long y1), .second, .val (.long y2), .second, .val (.int x0), .val (.ref p0), .val (.int (11 : Int32)), .unset] [(.ref a347)]))
    refine G.dup H346 at_308 (pc' := 309) rfl rfl ?_
    refine G.aload H346 at_309 (pc' := 311) rfl rfl rfl ?_
    refine G.iload H346 at_311 (pc' := 313) rfl rfl ?_
    have F351 : Arv Z h346_ p0 c0 .char (20 : Int32) [(.int x2), (.int x3), (.int x4), (.int x5), (.int x6), (.int x7), (.int x8), (.int x9), (.int x10), (.int x11), (.int x12), (.int x13), (.int x14), (.int x15), (.int x16), (.int x17), (.int x18), (.int x19), (.int x20), (.int x21)] (.int 0) := (Arv.ext f1 E348)
    refine G.callS H346 (m38_prefix V p0 c0 x2 x3 x4 x5 x6 x7 x8 x9 x10 x11 x12 x13 x14 x15 x16 x17 x18 x19 x20 x21 h346_ H346.old F351 r22 r20 r18 r16 r14 r12 r10 r8 r6 r4 r2) (wd6 V) (wd7 V) (wd8 V) (wd9 V) (by decide) (argsL := [(.ref p0), (.int (11 : Int32))]) (rest := [(.ref a347), (.ref a347)]) (W := 2) rfl rfl (lenOf (pd_0) rfl) rfl rfl at_313 (pc' := 316) rfl (by decide) (by decide) (by decide) (by decide) all0 ?_
    intro T352 h352_ v353 s354 H352 Q355
    obtain ⟨a356, k357, rfl, rfl, K358, g359, F360⟩ := Q355
    have na356 : n0 ≤ a356 := Nat.le_trans H346.le g359
    show Go p e below _ (T352.setTop (mkF m 316 #[.val (.long y0), .second, .val (.long y1), .second, .val (.long y2), .second, .val (.int x0), .val (.ref p0), .val (.int (11 : Int32)), .unset] [(.ref a356), (.ref a347), (.ref a347)]))
    have F361 : Exa Z h352_ a347 "java/lang/String" := (Exa.keep A349 K358)
    have F362 : Fld Z h346_ a347 "java/lang/String" "value" "[B" .null := D350 (Or.inr (wd35 V)) (ty := (.array .byte)) (by decide)
    have F363 : Fld Z h352_ a347 "java/lang/String" "value" "[B" .null := (Fld.keep F362 K358 nin0)
    have F364 : Fld Z h346_ a347 "java/lang/String" "coder" "B" (.int (0 : Int32)) := D350 (Or.inr (wd33 V)) (ty := .byte) (by decide)
    have F365 : Fld Z h352_ a347 "java/lang/String" "coder" "B" (.int (0 : Int32)) := (Fld.keep F364 K358 nin0)
    refine G.newStr H352 (strw V) (wd4 V) (wd10 V) (wd11 V) (cs := [x2, x3, x4, x5, x6, x7, x8, x9, x10, x11, x12]) (n := 11) na347 F361 F363 F365 F360 (s_COMPACT_STRINGS V) (cz V) rfl rfl (by decide) (by decide) (cbS r3 (cbS r5 (cbS r7 (cbS r9 (cbS r11 (cbS r13 (cbS r15 (cbS r17 (cbS r19 (cbS r21 (cbS r23 cb0))))))))))) (Sf.mem (List.mem_of_getElem? (i := 0) rfl)) (rest := [(.ref a347)]) (W := 1) rfl rfl at_316 (pc' := 319) rfl (by decide) (by decide) (by decide) (by decide) ?_
    intro T366 h366_ t367 k368 g371 H366 K369 S370
    have nt367 : n0 ≤ t367 := Nat.le_trans H352.le g371
    refine G.astore H366 (L' := #[.val (.long y0), .second, .val (.long y1), .second, .val (.long y2), .second, .val (.int x0), .val (.ref p0), .val (.int (11 : Int32)), .val (.ref a347)]) at_319 (pc' := 321) rfl rfl rfl ?_
    refine G.aload H366 at_321 (pc' := 323) rfl rfl rfl ?_
    refine G.callS H366 (m40_untimed V a347 t367 k368 (x2.toInt8.toInt32) (x3.toInt8.toInt32) (x4.toInt8.toInt32) (x5.toInt8.toInt32) (x6.toInt8.toInt32) (x7.toInt8.toInt32) (x8.toInt8.toInt32) (x9.toInt8.toInt32) (x10.toInt8.toInt32) (x11.toInt8.toInt32) (x12.toInt8.toInt32) h366_ H366.old S370.1 S370.2.2.1 S370.2.2.2.1 S370.2.1) (wd36 V) (wd37 V) (wd38 V) (wd39 V) (by decide) (argsL := [(.ref a347)]) (rest := []) (W := 0) rfl rfl (lenOf (pd_5) rfl) rfl rfl at_323 (pc' := 326) rfl (by decide) (by decide) (by decide) (by decide) (allS (List.mem_of_getElem? (i := 1) rfl) (allS (List.mem_of_getElem? (i := 0) rfl) all0)) ?_
    intro T372 h372_ v373 s374 H372 Q375
    obtain ⟨rfl, rfl, K376⟩ := Q375
    show Go p e below _ (T372.setTop (mkF m 326 #[.val (.long y0), .second, .val (.long y1), .second, .val (.long y2), .second, .val (.int x0), .val (.ref p0), .val (.int (11 : Int32)), .val (.ref a347)] [(.int (0 : Int32))]))
    refine G.iload H372 at_326 (pc' := 328) rfl rfl ?_
    refine G.bipush H372 at_328 (pc' := 330) rfl (v := (10 : Int32)) rfl ?_
    refine G.icmpYes H372 at_330 (by decide) (by decide) (pc' := 337) rfl ?_
    refine G.iconst H372 at_337 (pc' := 338) rfl (v := (0 : Int32)) rfl ?_
    refine G.icmpNo H372 at_338 (pc' := 341) rfl (by decide) ?_
    refine G.iconst H372 at_341 (pc' := 342) rfl (v := (1 : Int32)) rfl ?_
    refine G.goto H372 at_342 (by decide) (pc' := 346) rfl ?_
    exact G.retN H372 (t := .boolean) rfl (by decide) at_346 (so := []) all0 (by decide) (by decide) rfl
  ·
    refine G.new H (wd3 V) (wd4 V) (wd5 V) at_305 (pc' := 308) rfl (by decide) (by decide) ?_
    intro T377 h377_ a378 ga378 H377 E379 A380 D381
    have na378 : n0 ≤ a378 := Nat.le_trans H.le (Nat.le_of_eq ga378.symm)
    show Go p e below _ (T377.setTop (mkF m 308 #[.val (.long y0), .second, .val (.long y1), .second, .val (.long y2), .second, .val (.int x0), .val (.ref p0), .val (.int (12 : Int32)), .unset] [(.ref a378)]))
    refine G.dup H377 at_308 (pc' := 309) rfl rfl ?_
    refine G.aload H377 at_309 (pc' := 311) rfl rfl rfl ?_
    refine G.iload H377 at_311 (pc' := 313) rfl rfl ?_
    have F382 : Arv Z h377_ p0 c0 .char (20 : Int32) [(.int x2), (.int x3), (.int x4), (.int x5), (.int x6), (.int x7), (.int x8), (.int x9), (.int x10), (.int x11), (.int x12), (.int x13), (.int x14), (.int x15), (.int x16), (.int x17), (.int x18), (.int x19), (.int x20), (.int x21)] (.int 0) := (Arv.ext f1 E379)
    refine G.callS H377 (m41_prefix V p0 c0 x2 x3 x4 x5 x6 x7 x8 x9 x10 x11 x12 x13 x14 x15 x16 x17 x18 x19 x20 x21 h377_ H377.old F382 r24 r22 r20 r18 r16 r14 r12 r10 r8 r6 r4 r2) (wd6 V) (wd7 V) (wd8 V) (wd9 V) (by decide) (argsL := [(.ref p0), (.int (12 : Int32))]) (rest := [(.ref a378), (.ref a378)]) (W := 2) rfl rfl (lenOf (pd_0) rfl) rfl rfl at_313 (pc' := 316) rfl (by decide) (by decide) (by decide) (by decide) all0 ?_
    intro T383 h383_ v384 s385 H383 Q386
    obtain ⟨a387, k388, rfl, rfl, K389, g390, F391⟩ := Q386
    have na387 : n0 ≤ a387 := Nat.le_trans H377.le g390
    show Go p e below _ (T383.setTop (mkF m 316 #[.val (.long y0), .second, .val (.long y1), .second, .val (.long y2), .second, .val (.int x0), .val (.ref p0), .val (.int (12 : Int32)), .unset] [(.ref a387), (.ref a378), (.ref a378)]))
    have F392 : Exa Z h383_ a378 "java/lang/String" := (Exa.keep A380 K389)
    have F393 : Fld Z h377_ a378 "java/lang/String" "value" "[B" .null := D381 (Or.inr (wd35 V)) (ty := (.array .byte)) (by decide)
    have F394 : Fld Z h383_ a378 "java/lang/String" "value" "[B" .null := (Fld.keep F393 K389 nin0)
    have F395 : Fld Z h377_ a378 "java/lang/String" "coder" "B" (.int (0 : Int32)) := D381 (Or.inr (wd33 V)) (ty := .byte) (by decide)
    have F396 : Fld Z h383_ a378 "java/lang/String" "coder" "B" (.int (0 : Int32)) := (Fld.keep F395 K389 nin0)
    refine G.newStr H383 (strw V) (wd4 V) (wd10 V) (wd11 V) (cs := [x2, x3, x4, x5, x6, x7, x8, x9, x10, x11, x12, x13]) (n := 12) na378 F392 F394 F396 F391 (s_COMPACT_STRINGS V) (cz V) rfl rfl (by decide) (by decide) (cbS r3 (cbS r5 (cbS r7 (cbS r9 (cbS r11 (cbS r13 (cbS r15 (cbS r17 (cbS r19 (cbS r21 (cbS r23 (cbS r25 cb0)))))))))))) (Sf.mem (List.mem_of_getElem? (i := 0) rfl)) (rest := [(.ref a378)]) (W := 1) rfl rfl at_316 (pc' := 319) rfl (by decide) (by decide) (by decide) (by decide) ?_
    intro T397 h397_ t398 k399 g402 H397 K400 S401
    have nt398 : n0 ≤ t398 := Nat.le_trans H383.le g402
    refine G.astore H397 (L' := #[.val (.long y0), .second, .val (.long y1), .second, .val (.long y2), .second, .val (.int x0), .val (.ref p0), .val (.int (12 : Int32)), .val (.ref a378)]) at_319 (pc' := 321) rfl rfl rfl ?_
    refine G.aload H397 at_321 (pc' := 323) rfl rfl rfl ?_
    refine G.callS H397 (m43_untimed V a378 t398 k399 (x2.toInt8.toInt32) (x3.toInt8.toInt32) (x4.toInt8.toInt32) (x5.toInt8.toInt32) (x6.toInt8.toInt32) (x7.toInt8.toInt32) (x8.toInt8.toInt32) (x9.toInt8.toInt32) (x10.toInt8.toInt32) (x11.toInt8.toInt32) (x12.toInt8.toInt32) (x13.toInt8.toInt32) h397_ H397.old S401.1 S401.2.2.1 S401.2.2.2.1 S401.2.1) (wd36 V) (wd37 V) (wd38 V) (wd39 V) (by decide) (argsL := [(.ref a378)]) (rest := []) (W := 0) rfl rfl (lenOf (pd_5) rfl) rfl rfl at_323 (pc' := 326) rfl (by decide) (by decide) (by decide) (by decide) (allS (List.mem_of_getElem? (i := 1) rfl) (allS (List.mem_of_getElem? (i := 0) rfl) all0)) ?_
    intro T403 h403_ v404 s405 H403 Q406
    obtain ⟨rfl, rfl, K407⟩ := Q406
    show Go p e below _ (T403.setTop (mkF m 326 #[.val (.long y0), .second, .val (.long y1), .second, .val (.long y2), .second, .val (.int x0), .val (.ref p0), .val (.int (12 : Int32)), .val (.ref a378)] [(.int (0 : Int32))]))
    refine G.iload H403 at_326 (pc' := 328) rfl rfl ?_
    refine G.bipush H403 at_328 (pc' := 330) rfl (v := (10 : Int32)) rfl ?_
    refine G.icmpYes H403 at_330 (by decide) (by decide) (pc' := 337) rfl ?_
    refine G.iconst H403 at_337 (pc' := 338) rfl (v := (0 : Int32)) rfl ?_
    refine G.icmpNo H403 at_338 (pc' := 341) rfl (by decide) ?_
    refine G.iconst H403 at_341 (pc' := 342) rfl (v := (1 : Int32)) rfl ?_
    refine G.goto H403 at_342 (by decide) (pc' := 346) rfl ?_
    exact G.retN H403 (t := .boolean) rfl (by decide) at_346 (so := []) all0 (by decide) (by decide) rfl
  ·
    refine G.new H (wd3 V) (wd4 V) (wd5 V) at_305 (pc' := 308) rfl (by decide) (by decide) ?_
    intro T408 h408_ a409 ga409 H408 E410 A411 D412
    have na409 : n0 ≤ a409 := Nat.le_trans H.le (Nat.le_of_eq ga409.symm)
    show Go p e below _ (T408.setTop (mkF m 308 #[.val (.long y0), .second, .val (.long y1), .second, .val (.long y2), .second, .val (.int x0), .val (.ref p0), .val (.int (13 : Int32)), .unset] [(.ref a409)]))
    refine G.dup H408 at_308 (pc' := 309) rfl rfl ?_
    refine G.aload H408 at_309 (pc' := 311) rfl rfl rfl ?_
    refine G.iload H408 at_311 (pc' := 313) rfl rfl ?_
    have F413 : Arv Z h408_ p0 c0 .char (20 : Int32) [(.int x2), (.int x3), (.int x4), (.int x5), (.int x6), (.int x7), (.int x8), (.int x9), (.int x10), (.int x11), (.int x12), (.int x13), (.int x14), (.int x15), (.int x16), (.int x17), (.int x18), (.int x19), (.int x20), (.int x21)] (.int 0) := (Arv.ext f1 E410)
    refine G.callS H408 (m44_prefix V p0 c0 x2 x3 x4 x5 x6 x7 x8 x9 x10 x11 x12 x13 x14 x15 x16 x17 x18 x19 x20 x21 h408_ H408.old F413 r26 r24 r22 r20 r18 r16 r14 r12 r10 r8 r6 r4 r2) (wd6 V) (wd7 V) (wd8 V) (wd9 V) (by decide) (argsL := [(.ref p0), (.int (13 : Int32))]) (rest := [(.ref a409), (.ref a409)]) (W := 2) rfl rfl (lenOf (pd_0) rfl) rfl rfl at_313 (pc' := 316) rfl (by decide) (by decide) (by decide) (by decide) all0 ?_
    intro T414 h414_ v415 s416 H414 Q417
    obtain ⟨a418, k419, rfl, rfl, K420, g421, F422⟩ := Q417
    have na418 : n0 ≤ a418 := Nat.le_trans H408.le g421
    show Go p e below _ (T414.setTop (mkF m 316 #[.val (.long y0), .second, .val (.long y1), .second, .val (.long y2), .second, .val (.int x0), .val (.ref p0), .val (.int (13 : Int32)), .unset] [(.ref a418), (.ref a409), (.ref a409)]))
    have F423 : Exa Z h414_ a409 "java/lang/String" := (Exa.keep A411 K420)
    have F424 : Fld Z h408_ a409 "java/lang/String" "value" "[B" .null := D412 (Or.inr (wd35 V)) (ty := (.array .byte)) (by decide)
    have F425 : Fld Z h414_ a409 "java/lang/String" "value" "[B" .null := (Fld.keep F424 K420 nin0)
    have F426 : Fld Z h408_ a409 "java/lang/String" "coder" "B" (.int (0 : Int32)) := D412 (Or.inr (wd33 V)) (ty := .byte) (by decide)
    have F427 : Fld Z h414_ a409 "java/lang/String" "coder" "B" (.int (0 : Int32)) := (Fld.keep F426 K420 nin0)
    refine G.newStr H414 (strw V) (wd4 V) (wd10 V) (wd11 V) (cs := [x2, x3, x4, x5, x6, x7, x8, x9, x10, x11, x12, x13, x14]) (n := 13) na409 F423 F425 F427 F422 (s_COMPACT_STRINGS V) (cz V) rfl rfl (by decide) (by decide) (cbS r3 (cbS r5 (cbS r7 (cbS r9 (cbS r11 (cbS r13 (cbS r15 (cbS r17 (cbS r19 (cbS r21 (cbS r23 (cbS r25 (cbS r27 cb0))))))))))))) (Sf.mem (List.mem_of_getElem? (i := 0) rfl)) (rest := [(.ref a409)]) (W := 1) rfl rfl at_316 (pc' := 319) rfl (by decide) (by decide) (by decide) (by decide) ?_
    intro T428 h428_ t429 k430 g433 H428 K431 S432
    have nt429 : n0 ≤ t429 := Nat.le_trans H414.le g433
    refine G.astore H428 (L' := #[.val (.long y0), .second, .val (.long y1), .second, .val (.long y2), .second, .val (.int x0), .val (.ref p0), .val (.int (13 : Int32)), .val (.ref a409)]) at_319 (pc' := 321) rfl rfl rfl ?_
    refine G.aload H428 at_321 (pc' := 323) rfl rfl rfl ?_
    refine G.callS H428 (m46_untimed V a409 t429 k430 (x2.toInt8.toInt32) (x3.toInt8.toInt32) (x4.toInt8.toInt32) (x5.toInt8.toInt32) (x6.toInt8.toInt32) (x7.toInt8.toInt32) (x8.toInt8.toInt32) (x9.toInt8.toInt32) (x10.toInt8.toInt32) (x11.toInt8.toInt32) (x12.toInt8.toInt32) (x13.toInt8.toInt32) (x14.toInt8.toInt32) h428_ H428.old S432.1 S432.2.2.1 S432.2.2.2.1 S432.2.1) (wd36 V) (wd37 V) (wd38 V) (wd39 V) (by decide) (argsL := [(.ref a409)]) (rest := []) (W := 0) rfl rfl (lenOf (pd_5) rfl) rfl rfl at_323 (pc' := 326) rfl (by decide) (by decide) (by decide) (by decide) (allS (List.mem_of_getElem? (i := 1) rfl) (allS (List.mem_of_getElem? (i := 0) rfl) all0)) ?_
    intro T434 h434_ v435 s436 H434 Q437
    obtain ⟨rfl, rfl, K438⟩ := Q437
    show Go p e below _ (T434.setTop (mkF m 326 #[.val (.long y0), .second, .val (.long y1), .second, .val (.long y2), .second, .val (.int x0), .val (.ref p0), .val (.int (13 : Int32)), .val (.ref a409)] [(.int (0 : Int32))]))
    refine G.iload H434 at_326 (pc' := 328) rfl rfl ?_
    refine G.bipush H434 at_328 (pc' := 330) rfl (v := (10 : Int32)) rfl ?_
    refine G.icmpYes H434 at_330 (by decide) (by decide) (pc' := 337) rfl ?_
    refine G.iconst H434 at_337 (pc' := 338) rfl (v := (0 : Int32)) rfl ?_
    refine G.icmpNo H434 at_338 (pc' := 341) rfl (by decide) ?_
    refine G.iconst H434 at_341 (pc' := 342) rfl (v := (1 : Int32)) rfl ?_
    refine G.goto H434 at_342 (by decide) (pc' := 346) rfl ?_
    exact G.retN H434 (t := .boolean) rfl (by decide) at_346 (so := []) all0 (by decide) (by decide) rfl
  ·
    refine G.new H (wd3 V) (wd4 V) (wd5 V) at_305 (pc' := 308) rfl (by decide) (by decide) ?_
    intro T439 h439_ a440 ga440 H439 E441 A442 D443
    have na440 : n0 ≤ a440 := Nat.le_trans H.le (Nat.le_of_eq ga440.symm)
    show Go p e below _ (T439.setTop (mkF m 308 #[.val (.long y0), .second, .val (.long y1), .second, .val (.long y2), .second, .val (.int x0), .val (.ref p0), .val (.int (14 : Int32)), .unset] [(.ref a440)]))
    refine G.dup H439 at_308 (pc' := 309) rfl rfl ?_
    refine G.aload H439 at_309 (pc' := 311) rfl rfl rfl ?_
    refine G.iload H439 at_311 (pc' := 313) rfl rfl ?_
    have F444 : Arv Z h439_ p0 c0 .char (20 : Int32) [(.int x2), (.int x3), (.int x4), (.int x5), (.int x6), (.int x7), (.int x8), (.int x9), (.int x10), (.int x11), (.int x12), (.int x13), (.int x14), (.int x15), (.int x16), (.int x17), (.int x18), (.int x19), (.int x20), (.int x21)] (.int 0) := (Arv.ext f1 E441)
    refine G.callS H439 (m47_prefix V p0 c0 x2 x3 x4 x5 x6 x7 x8 x9 x10 x11 x12 x13 x14 x15 x16 x17 x18 x19 x20 x21 h439_ H439.old F444 r28 r26 r24 r22 r20 r18 r16 r14 r12 r10 r8 r6 r4 r2) (wd6 V) (wd7 V) (wd8 V) (wd9 V) (by decide) (argsL := [(.ref p0), (.int (14 : Int32))]) (rest := [(.ref a440), (.ref a440)]) (W := 2) rfl rfl (lenOf (pd_0) rfl) rfl rfl at_313 (pc' := 316) rfl (by decide) (by decide) (by decide) (by decide) all0 ?_
    intro T445 h445_ v446 s447 H445 Q448
    obtain ⟨a449, k450, rfl, rfl, K451, g452, F453⟩ := Q448
    have na449 : n0 ≤ a449 := Nat.le_trans H439.le g452
    show Go p e below _ (T445.setTop (mkF m 316 #[.val (.long y0), .second, .val (.long y1), .second, .val (.long y2), .second, .val (.int x0), .val (.ref p0), .val (.int (14 : Int32)), .unset] [(.ref a449), (.ref a440), (.ref a440)]))
    have F454 : Exa Z h445_ a440 "java/lang/String" := (Exa.keep A442 K451)
    have F455 : Fld Z h439_ a440 "java/lang/String" "value" "[B" .null := D443 (Or.inr (wd35 V)) (ty := (.array .byte)) (by decide)
    have F456 : Fld Z h445_ a440 "java/lang/String" "value" "[B" .null := (Fld.keep F455 K451 nin0)
    have F457 : Fld Z h439_ a440 "java/lang/String" "coder" "B" (.int (0 : Int32)) := D443 (Or.inr (wd33 V)) (ty := .byte) (by decide)
    have F458 : Fld Z h445_ a440 "java/lang/String" "coder" "B" (.int (0 : Int32)) := (Fld.keep F457 K451 nin0)
    refine G.newStr H445 (strw V) (wd4 V) (wd10 V) (wd11 V) (cs := [x2, x3, x4, x5, x6, x7, x8, x9, x10, x11, x12, x13, x14, x15]) (n := 14) na440 F454 F456 F458 F453 (s_COMPACT_STRINGS V) (cz V) rfl rfl (by decide) (by decide) (cbS r3 (cbS r5 (cbS r7 (cbS r9 (cbS r11 (cbS r13 (cbS r15 (cbS r17 (cbS r19 (cbS r21 (cbS r23 (cbS r25 (cbS r27 (cbS r29 cb0)))))))))))))) (Sf.mem (List.mem_of_getElem? (i := 0) rfl)) (rest := [(.ref a440)]) (W := 1) rfl rfl at_316 (pc' := 319) rfl (by decide) (by decide) (by decide) (by decide) ?_
    intro T459 h459_ t460 k461 g464 H459 K462 S463
    have nt460 : n0 ≤ t460 := Nat.le_trans H445.le g464
    refine G.astore H459 (L' := #[.val (.long y0), .second, .val (.long y1), .second, .val (.long y2), .second, .val (.int x0), .val (.ref p0), .val (.int (14 : Int32)), .val (.ref a440)]) at_319 (pc' := 321) rfl rfl rfl ?_
    refine G.aload H459 at_321 (pc' := 323) rfl rfl rfl ?_
    refine G.callS H459 (m49_untimed V a440 t460 k461 (x2.toInt8.toInt32) (x3.toInt8.toInt32) (x4.toInt8.toInt32) (x5.toInt8.toInt32) (x6.toInt8.toInt32) (x7.toInt8.toInt32) (x8.toInt8.toInt32) (x9.toInt8.toInt32) (x10.toInt8.toInt32) (x11.toInt8.toInt32) (x12.toInt8.toInt32) (x13.toInt8.toInt32) (x14.toInt8.toInt32) (x15.toInt8.toInt32) h459_ H459.old S463.1 S463.2.2.1 S463.2.2.2.1 S463.2.1) (wd36 V) (wd37 V) (wd38 V) (wd39 V) (by decide) (argsL := [(.ref a440)]) (rest := []) (W := 0) rfl rfl (lenOf (pd_5) rfl) rfl rfl at_323 (pc' := 326) rfl (by decide) (by decide) (by decide) (by decide) (allS (List.mem_of_getElem? (i := 1) rfl) (allS (List.mem_of_getElem? (i := 0) rfl) all0)) ?_
    intro T465 h465_ v466 s467 H465 Q468
    obtain ⟨rfl, rfl, K469⟩ := Q468
    show Go p e below _ (T465.setTop (mkF m 326 #[.val (.long y0), .second, .val (.long y1), .second, .val (.long y2), .second, .val (.int x0), .val (.ref p0), .val (.int (14 : Int32)), .val (.ref a440)] [(.int (0 : Int32))]))
    refine G.iload H465 at_326 (pc' := 328) rfl rfl ?_
    refine G.bipush H465 at_328 (pc' := 330) rfl (v := (10 : Int32)) rfl ?_
    refine G.icmpYes H465 at_330 (by decide) (by decide) (pc' := 337) rfl ?_
    refine G.iconst H465 at_337 (pc' := 338) rfl (v := (0 : Int32)) rfl ?_
    refine G.icmpNo H465 at_338 (pc' := 341) rfl (by decide) ?_
    refine G.iconst H465 at_341 (pc' := 342) rfl (v := (1 : Int32)) rfl ?_
    refine G.goto H465 at_342 (by decide) (pc' := 346) rfl ?_
    exact G.retN H465 (t := .boolean) rfl (by decide) at_346 (so := []) all0 (by decide) (by decide) rfl
  ·
    refine G.new H (wd3 V) (wd4 V) (wd5 V) at_305 (pc' := 308) rfl (by decide) (by decide) ?_
    intro T470 h470_ a471 ga471 H470 E472 A473 D474
    have na471 : n0 ≤ a471 := Nat.le_trans H.le (Nat.le_of_eq ga471.symm)
    show Go p e below _ (T470.setTop (mkF m 308 #[.val (.long y0), .second, .val (.long y1), .second, .val (.long y2), .second, .val (.int x0), .val (.ref p0), .val (.int (15 : Int32)), .unset] [(.ref a471)]))
    refine G.dup H470 at_308 (pc' := 309) rfl rfl ?_
    refine G.aload H470 at_309 (pc' := 311) rfl rfl rfl ?_
    refine G.iload H470 at_311 (pc' := 313) rfl rfl ?_
    have F475 : Arv Z h470_ p0 c0 .char (20 : Int32) [(.int x2), (.int x3), (.int x4), (.int x5), (.int x6), (.int x7), (.int x8), (.int x9), (.int x10), (.int x11), (.int x12), (.int x13), (.int x14), (.int x15), (.int x16), (.int x17), (.int x18), (.int x19), (.int x20), (.int x21)] (.int 0) := (Arv.ext f1 E472)
    refine G.callS H470 (m50_prefix V p0 c0 x2 x3 x4 x5 x6 x7 x8 x9 x10 x11 x12 x13 x14 x15 x16 x17 x18 x19 x20 x21 h470_ H470.old F475 r30 r28 r26 r24 r22 r20 r18 r16 r14 r12 r10 r8 r6 r4 r2) (wd6 V) (wd7 V) (wd8 V) (wd9 V) (by decide) (argsL := [(.ref p0), (.int (15 : Int32))]) (rest := [(.ref a471), (.ref a471)]) (W := 2) rfl rfl (lenOf (pd_0) rfl) rfl rfl at_313 (pc' := 316) rfl (by decide) (by decide) (by decide) (by decide) all0 ?_
    intro T476 h476_ v477 s478 H476 Q479
    obtain ⟨a480, k481, rfl, rfl, K482, g483, F484⟩ := Q479
    have na480 : n0 ≤ a480 := Nat.le_trans H470.le g483
    show Go p e below _ (T476.setTop (mkF m 316 #[.val (.long y0), .second, .val (.long y1), .second, .val (.long y2), .second, .val (.int x0), .val (.ref p0), .val (.int (15 : Int32)), .unset] [(.ref a480), (.ref a471), (.ref a471)]))
    have F485 : Exa Z h476_ a471 "java/lang/String" := (Exa.keep A473 K482)
    have F486 : Fld Z h470_ a471 "java/lang/String" "value" "[B" .null := D474 (Or.inr (wd35 V)) (ty := (.array .byte)) (by decide)
    have F487 : Fld Z h476_ a471 "java/lang/String" "value" "[B" .null := (Fld.keep F486 K482 nin0)
    have F488 : Fld Z h470_ a471 "java/lang/String" "coder" "B" (.int (0 : Int32)) := D474 (Or.inr (wd33 V)) (ty := .byte) (by decide)
    have F489 : Fld Z h476_ a471 "java/lang/String" "coder" "B" (.int (0 : Int32)) := (Fld.keep F488 K482 nin0)
    refine G.newStr H476 (strw V) (wd4 V) (wd10 V) (wd11 V) (cs := [x2, x3, x4, x5, x6, x7, x8, x9, x10, x11, x12, x13, x14, x15, x16]) (n := 15) na471 F485 F487 F489 F484 (s_COMPACT_STRINGS V) (cz V) rfl rfl (by decide) (by decide) (cbS r3 (cbS r5 (cbS r7 (cbS r9 (cbS r11 (cbS r13 (cbS r15 (cbS r17 (cbS r19 (cbS r21 (cbS r23 (cbS r25 (cbS r27 (cbS r29 (cbS r31 cb0))))))))))))))) (Sf.mem (List.mem_of_getElem? (i := 0) rfl)) (rest := [(.ref a471)]) (W := 1) rfl rfl at_316 (pc' := 319) rfl (by decide) (by decide) (by decide) (by decide) ?_
    intro T490 h490_ t491 k492 g495 H490 K493 S494
    have nt491 : n0 ≤ t491 := Nat.le_trans H476.le g495
    refine G.astore H490 (L' := #[.val (.long y0), .second, .val (.long y1), .second, .val (.long y2), .second, .val (.int x0), .val (.ref p0), .val (.int (15 : Int32)), .val (.ref a471)]) at_319 (pc' := 321) rfl rfl rfl ?_
    refine G.aload H490 at_321 (pc' := 323) rfl rfl rfl ?_
    refine G.callS H490 (m52_untimed V a471 t491 k492 (x2.toInt8.toInt32) (x3.toInt8.toInt32) (x4.toInt8.toInt32) (x5.toInt8.toInt32) (x6.toInt8.toInt32) (x7.toInt8.toInt32) (x8.toInt8.toInt32) (x9.toInt8.toInt32) (x10.toInt8.toInt32) (x11.toInt8.toInt32) (x12.toInt8.toInt32) (x13.toInt8.toInt32) (x14.toInt8.toInt32) (x15.toInt8.toInt32) (x16.toInt8.toInt32) h490_ H490.old S494.1 S494.2.2.1 S494.2.2.2.1 S494.2.1) (wd36 V) (wd37 V) (wd38 V) (wd39 V) (by decide) (argsL := [(.ref a471)]) (rest := []) (W := 0) rfl rfl (lenOf (pd_5) rfl) rfl rfl at_323 (pc' := 326) rfl (by decide) (by decide) (by decide) (by decide) (allS (List.mem_of_getElem? (i := 1) rfl) (allS (List.mem_of_getElem? (i := 0) rfl) all0)) ?_
    intro T496 h496_ v497 s498 H496 Q499
    obtain ⟨rfl, rfl, K500⟩ := Q499
    show Go p e below _ (T496.setTop (mkF m 326 #[.val (.long y0), .second, .val (.long y1), .second, .val (.long y2), .second, .val (.int x0), .val (.ref p0), .val (.int (15 : Int32)), .val (.ref a471)] [(.int (0 : Int32))]))
    refine G.iload H496 at_326 (pc' := 328) rfl rfl ?_
    refine G.bipush H496 at_328 (pc' := 330) rfl (v := (10 : Int32)) rfl ?_
    refine G.icmpYes H496 at_330 (by decide) (by decide) (pc' := 337) rfl ?_
    refine G.iconst H496 at_337 (pc' := 338) rfl (v := (0 : Int32)) rfl ?_
    refine G.icmpNo H496 at_338 (pc' := 341) rfl (by decide) ?_
    refine G.iconst H496 at_341 (pc' := 342) rfl (v := (1 : Int32)) rfl ?_
    refine G.goto H496 at_342 (by decide) (pc' := 346) rfl ?_
    exact G.retN H496 (t := .boolean) rfl (by decide) at_346 (so := []) all0 (by decide) (by decide) rfl
  ·
    refine G.new H (wd3 V) (wd4 V) (wd5 V) at_305 (pc' := 308) rfl (by decide) (by decide) ?_
    intro T501 h501_ a502 ga502 H501 E503 A504 D505
    have na502 : n0 ≤ a502 := Nat.le_trans H.le (Nat.le_of_eq ga502.symm)
    show Go p e below _ (T501.setTop (mkF m 308 #[.val (.long y0), .second, .val (.long y1), .second, .val (.long y2), .second, .val (.int x0), .val (.ref p0), .val (.int (16 : Int32)), .unset] [(.ref a502)]))
    refine G.dup H501 at_308 (pc' := 309) rfl rfl ?_
    refine G.aload H501 at_309 (pc' := 311) rfl rfl rfl ?_
    refine G.iload H501 at_311 (pc' := 313) rfl rfl ?_
    have F506 : Arv Z h501_ p0 c0 .char (20 : Int32) [(.int x2), (.int x3), (.int x4), (.int x5), (.int x6), (.int x7), (.int x8), (.int x9), (.int x10), (.int x11), (.int x12), (.int x13), (.int x14), (.int x15), (.int x16), (.int x17), (.int x18), (.int x19), (.int x20), (.int x21)] (.int 0) := (Arv.ext f1 E503)
    refine G.callS H501 (m53_prefix V p0 c0 x2 x3 x4 x5 x6 x7 x8 x9 x10 x11 x12 x13 x14 x15 x16 x17 x18 x19 x20 x21 h501_ H501.old F506 r32 r30 r28 r26 r24 r22 r20 r18 r16 r14 r12 r10 r8 r6 r4 r2) (wd6 V) (wd7 V) (wd8 V) (wd9 V) (by decide) (argsL := [(.ref p0), (.int (16 : Int32))]) (rest := [(.ref a502), (.ref a502)]) (W := 2) rfl rfl (lenOf (pd_0) rfl) rfl rfl at_313 (pc' := 316) rfl (by decide) (by decide) (by decide) (by decide) all0 ?_
    intro T507 h507_ v508 s509 H507 Q510
    obtain ⟨a511, k512, rfl, rfl, K513, g514, F515⟩ := Q510
    have na511 : n0 ≤ a511 := Nat.le_trans H501.le g514
    show Go p e below _ (T507.setTop (mkF m 316 #[.val (.long y0), .second, .val (.long y1), .second, .val (.long y2), .second, .val (.int x0), .val (.ref p0), .val (.int (16 : Int32)), .unset] [(.ref a511), (.ref a502), (.ref a502)]))
    have F516 : Exa Z h507_ a502 "java/lang/String" := (Exa.keep A504 K513)
    have F517 : Fld Z h501_ a502 "java/lang/String" "value" "[B" .null := D505 (Or.inr (wd35 V)) (ty := (.array .byte)) (by decide)
    have F518 : Fld Z h507_ a502 "java/lang/String" "value" "[B" .null := (Fld.keep F517 K513 nin0)
    have F519 : Fld Z h501_ a502 "java/lang/String" "coder" "B" (.int (0 : Int32)) := D505 (Or.inr (wd33 V)) (ty := .byte) (by decide)
    have F520 : Fld Z h507_ a502 "java/lang/String" "coder" "B" (.int (0 : Int32)) := (Fld.keep F519 K513 nin0)
    refine G.newStr H507 (strw V) (wd4 V) (wd10 V) (wd11 V) (cs := [x2, x3, x4, x5, x6, x7, x8, x9, x10, x11, x12, x13, x14, x15, x16, x17]) (n := 16) na502 F516 F518 F520 F515 (s_COMPACT_STRINGS V) (cz V) rfl rfl (by decide) (by decide) (cbS r3 (cbS r5 (cbS r7 (cbS r9 (cbS r11 (cbS r13 (cbS r15 (cbS r17 (cbS r19 (cbS r21 (cbS r23 (cbS r25 (cbS r27 (cbS r29 (cbS r31 (cbS r33 cb0)))))))))))))))) (Sf.mem (List.mem_of_getElem? (i := 0) rfl)) (rest := [(.ref a502)]) (W := 1) rfl rfl at_316 (pc' := 319) rfl (by decide) (by decide) (by decide) (by decide) ?_
    intro T521 h521_ t522 k523 g526 H521 K524 S525
    have nt522 : n0 ≤ t522 := Nat.le_trans H507.le g526
    refine G.astore H521 (L' := #[.val (.long y0), .second, .val (.long y1), .second, .val (.long y2), .second, .val (.int x0), .val (.ref p0), .val (.int (16 : Int32)), .val (.ref a502)]) at_319 (pc' := 321) rfl rfl rfl ?_
    refine G.aload H521 at_321 (pc' := 323) rfl rfl rfl ?_
    refine G.callS H521 (m55_untimed V a502 t522 k523 (x2.toInt8.toInt32) (x3.toInt8.toInt32) (x4.toInt8.toInt32) (x5.toInt8.toInt32) (x6.toInt8.toInt32) (x7.toInt8.toInt32) (x8.toInt8.toInt32) (x9.toInt8.toInt32) (x10.toInt8.toInt32) (x11.toInt8.toInt32) (x12.toInt8.toInt32) (x13.toInt8.toInt32) (x14.toInt8.toInt32) (x15.toInt8.toInt32) (x16.toInt8.toInt32) (x17.toInt8.toInt32) h521_ H521.old S525.1 S525.2.2.1 S525.2.2.2.1 S525.2.1) (wd36 V) (wd37 V) (wd38 V) (wd39 V) (by decide) (argsL := [(.ref a502)]) (rest := []) (W := 0) rfl rfl (lenOf (pd_5) rfl) rfl rfl at_323 (pc' := 326) rfl (by decide) (by decide) (by decide) (by decide) (allS (List.mem_of_getElem? (i := 1) rfl) (allS (List.mem_of_getElem? (i := 0) rfl) all0)) ?_
    intro T527 h527_ v528 s529 H527 Q530
    obtain ⟨rfl, rfl, K531⟩ := Q530
    show Go p e below _ (T527.setTop (mkF m 326 #[.val (.long y0), .second, .val (.long y1), .second, .val (.long y2), .second, .val (.int x0), .val (.ref p0), .val (.int (16 : Int32)), .val (.ref a502)] [(.int (0 : Int32))]))
    refine G.iload H527 at_326 (pc' := 328) rfl rfl ?_
    refine G.bipush H527 at_328 (pc' := 330) rfl (v := (10 : Int32)) rfl ?_
    refine G.icmpYes H527 at_330 (by decide) (by decide) (pc' := 337) rfl ?_
    refine G.iconst H527 at_337 (pc' := 338) rfl (v := (0 : Int32)) rfl ?_
    refine G.icmpNo H527 at_338 (pc' := 341) rfl (by decide) ?_
    refine G.iconst H527 at_341 (pc' := 342) rfl (v := (1 : Int32)) rfl ?_
    refine G.goto H527 at_342 (by decide) (pc' := 346) rfl ?_
    exact G.retN H527 (t := .boolean) rfl (by decide) at_346 (so := []) all0 (by decide) (by decide) rfl
  ·
    refine G.new H (wd3 V) (wd4 V) (wd5 V) at_305 (pc' := 308) rfl (by decide) (by decide) ?_
    intro T532 h532_ a533 ga533 H532 E534 A535 D536
    have na533 : n0 ≤ a533 := Nat.le_trans H.le (Nat.le_of_eq ga533.symm)
    show Go p e below _ (T532.setTop (mkF m 308 #[.val (.long y0), .second, .val (.long y1), .second, .val (.long y2), .second, .val (.int x0), .val (.ref p0), .val (.int (17 : Int32)), .unset] [(.ref a533)]))
    refine G.dup H532 at_308 (pc' := 309) rfl rfl ?_
    refine G.aload H532 at_309 (pc' := 311) rfl rfl rfl ?_
    refine G.iload H532 at_311 (pc' := 313) rfl rfl ?_
    have F537 : Arv Z h532_ p0 c0 .char (20 : Int32) [(.int x2), (.int x3), (.int x4), (.int x5), (.int x6), (.int x7), (.int x8), (.int x9), (.int x10), (.int x11), (.int x12), (.int x13), (.int x14), (.int x15), (.int x16), (.int x17), (.int x18), (.int x19), (.int x20), (.int x21)] (.int 0) := (Arv.ext f1 E534)
    refine G.callS H532 (m56_prefix V p0 c0 x2 x3 x4 x5 x6 x7 x8 x9 x10 x11 x12 x13 x14 x15 x16 x17 x18 x19 x20 x21 h532_ H532.old F537 r34 r32 r30 r28 r26 r24 r22 r20 r18 r16 r14 r12 r10 r8 r6 r4 r2) (wd6 V) (wd7 V) (wd8 V) (wd9 V) (by decide) (argsL := [(.ref p0), (.int (17 : Int32))]) (rest := [(.ref a533), (.ref a533)]) (W := 2) rfl rfl (lenOf (pd_0) rfl) rfl rfl at_313 (pc' := 316) rfl (by decide) (by decide) (by decide) (by decide) all0 ?_
    intro T538 h538_ v539 s540 H538 Q541
    obtain ⟨a542, k543, rfl, rfl, K544, g545, F546⟩ := Q541
    have na542 : n0 ≤ a542 := Nat.le_trans H532.le g545
    show Go p e below _ (T538.setTop (mkF m 316 #[.val (.long y0), .second, .val (.long y1), .second, .val (.long y2), .second, .val (.int x0), .val (.ref p0), .val (.int (17 : Int32)), .unset] [(.ref a542), (.ref a533), (.ref a533)]))
    have F547 : Exa Z h538_ a533 "java/lang/String" := (Exa.keep A535 K544)
    have F548 : Fld Z h532_ a533 "java/lang/String" "value" "[B" .null := D536 (Or.inr (wd35 V)) (ty := (.array .byte)) (by decide)
    have F549 : Fld Z h538_ a533 "java/lang/String" "value" "[B" .null := (Fld.keep F548 K544 nin0)
    have F550 : Fld Z h532_ a533 "java/lang/String" "coder" "B" (.int (0 : Int32)) := D536 (Or.inr (wd33 V)) (ty := .byte) (by decide)
    have F551 : Fld Z h538_ a533 "java/lang/String" "coder" "B" (.int (0 : Int32)) := (Fld.keep F550 K544 nin0)
    refine G.newStr H538 (strw V) (wd4 V) (wd10 V) (wd11 V) (cs := [x2, x3, x4, x5, x6, x7, x8, x9, x10, x11, x12, x13, x14, x15, x16, x17, x18]) (n := 17) na533 F547 F549 F551 F546 (s_COMPACT_STRINGS V) (cz V) rfl rfl (by decide) (by decide) (cbS r3 (cbS r5 (cbS r7 (cbS r9 (cbS r11 (cbS r13 (cbS r15 (cbS r17 (cbS r19 (cbS r21 (cbS r23 (cbS r25 (cbS r27 (cbS r29 (cbS r31 (cbS r33 (cbS r35 cb0))))))))))))))))) (Sf.mem (List.mem_of_getElem? (i := 0) rfl)) (rest := [(.ref a533)]) (W := 1) rfl rfl at_316 (pc' := 319) rfl (by decide) (by decide) (by decide) (by decide) ?_
    intro T552 h552_ t553 k554 g557 H552 K555 S556
    have nt553 : n0 ≤ t553 := Nat.le_trans H538.le g557
    refine G.astore H552 (L' := #[.val (.long y0), .second, .val (.long y1), .second, .val (.long y2), .second, .val (.int x0), .val (.ref p0), .val (.int (17 : Int32)), .val (.ref a533)]) at_319 (pc' := 321) rfl rfl rfl ?_
    refine G.aload H552 at_321 (pc' := 323) rfl rfl rfl ?_
    refine G.callS H552 (m58_untimed V a533 t553 k554 (x2.toInt8.toInt32) (x3.toInt8.toInt32) (x4.toInt8.toInt32) (x5.toInt8.toInt32) (x6.toInt8.toInt32) (x7.toInt8.toInt32) (x8.toInt8.toInt32) (x9.toInt8.toInt32) (x10.toInt8.toInt32) (x11.toInt8.toInt32) (x12.toInt8.toInt32) (x13.toInt8.toInt32) (x14.toInt8.toInt32) (x15.toInt8.toInt32) (x16.toInt8.toInt32) (x17.toInt8.toInt32) (x18.toInt8.toInt32) h552_ H552.old S556.1 S556.2.2.1 S556.2.2.2.1 S556.2.1) (wd36 V) (wd37 V) (wd38 V) (wd39 V) (by decide) (argsL := [(.ref a533)]) (rest := []) (W := 0) rfl rfl (lenOf (pd_5) rfl) rfl rfl at_323 (pc' := 326) rfl (by decide) (by decide) (by decide) (by decide) (allS (List.mem_of_getElem? (i := 1) rfl) (allS (List.mem_of_getElem? (i := 0) rfl) all0)) ?_
    intro T558 h558_ v559 s560 H558 Q561
    obtain ⟨rfl, rfl, K562⟩ := Q561
    show Go p e below _ (T558.setTop (mkF m 326 #[.val (.long y0), .second, .val (.long y1), .second, .val (.long y2), .second, .val (.int x0), .val (.ref p0), .val (.int (17 : Int32)), .val (.ref a533)] [(.int (0 : Int32))]))
    refine G.iload H558 at_326 (pc' := 328) rfl rfl ?_
    refine G.bipush H558 at_328 (pc' := 330) rfl (v := (10 : Int32)) rfl ?_
    refine G.icmpYes H558 at_330 (by decide) (by decide) (pc' := 337) rfl ?_
    refine G.iconst H558 at_337 (pc' := 338) rfl (v := (0 : Int32)) rfl ?_
    refine G.icmpNo H558 at_338 (pc' := 341) rfl (by decide) ?_
    refine G.iconst H558 at_341 (pc' := 342) rfl (v := (1 : Int32)) rfl ?_
    refine G.goto H558 at_342 (by decide) (pc' := 346) rfl ?_
    exact G.retN H558 (t := .boolean) rfl (by decide) at_346 (so := []) all0 (by decide) (by decide) rfl
  ·
    refine G.new H (wd3 V) (wd4 V) (wd5 V) at_305 (pc' := 308) rfl (by decide) (by decide) ?_
    intro T563 h563_ a564 ga564 H563 E565 A566 D567
    have na564 : n0 ≤ a564 := Nat.le_trans H.le (Nat.le_of_eq ga564.symm)
    show Go p e below _ (T563.setTop (mkF m 308 #[.val (.long y0), .second, .val (.long y1), .second, .val (.long y2), .second, .val (.int x0), .val (.ref p0), .val (.int (18 : Int32)), .unset] [(.ref a564)]))
    refine G.dup H563 at_308 (pc' := 309) rfl rfl ?_
    refine G.aload H563 at_309 (pc' := 311) rfl rfl rfl ?_
    refine G.iload H563 at_311 (pc' := 313) rfl rfl ?_
    have F568 : Arv Z h563_ p0 c0 .char (20 : Int32) [(.int x2), (.int x3), (.int x4), (.int x5), (.int x6), (.int x7), (.int x8), (.int x9), (.int x10), (.int x11), (.int x12), (.int x13), (.int x14), (.int x15), (.int x16), (.int x17), (.int x18), (.int x19), (.int x20), (.int x21)] (.int 0) := (Arv.ext f1 E565)
    refine G.callS H563 (m59_prefix V p0 c0 x2 x3 x4 x5 x6 x7 x8 x9 x10 x11 x12 x13 x14 x15 x16 x17 x18 x19 x20 x21 h563_ H563.old F568 r36 r34 r32 r30 r28 r26 r24 r22 r20 r18 r16 r14 r12 r10 r8 r6 r4 r2) (wd6 V) (wd7 V) (wd8 V) (wd9 V) (by decide) (argsL := [(.ref p0), (.int (18 : Int32))]) (rest := [(.ref a564), (.ref a564)]) (W := 2) rfl rfl (lenOf (pd_0) rfl) rfl rfl at_313 (pc' := 316) rfl (by decide) (by decide) (by decide) (by decide) all0 ?_
    intro T569 h569_ v570 s571 H569 Q572
    obtain ⟨a573, k574, rfl, rfl, K575, g576, F577⟩ := Q572
    have na573 : n0 ≤ a573 := Nat.le_trans H563.le g576
    show Go p e below _ (T569.setTop (mkF m 316 #[.val (.long y0), .second, .val (.long y1), .second, .val (.long y2), .second, .val (.int x0), .val (.ref p0), .val (.int (18 : Int32)), .unset] [(.ref a573), (.ref a564), (.ref a564)]))
    have F578 : Exa Z h569_ a564 "java/lang/String" := (Exa.keep A566 K575)
    have F579 : Fld Z h563_ a564 "java/lang/String" "value" "[B" .null := D567 (Or.inr (wd35 V)) (ty := (.array .byte)) (by decide)
    have F580 : Fld Z h569_ a564 "java/lang/String" "value" "[B" .null := (Fld.keep F579 K575 nin0)
    have F581 : Fld Z h563_ a564 "java/lang/String" "coder" "B" (.int (0 : Int32)) := D567 (Or.inr (wd33 V)) (ty := .byte) (by decide)
    have F582 : Fld Z h569_ a564 "java/lang/String" "coder" "B" (.int (0 : Int32)) := (Fld.keep F581 K575 nin0)
    refine G.newStr H569 (strw V) (wd4 V) (wd10 V) (wd11 V) (cs := [x2, x3, x4, x5, x6, x7, x8, x9, x10, x11, x12, x13, x14, x15, x16, x17, x18, x19]) (n := 18) na564 F578 F580 F582 F577 (s_COMPACT_STRINGS V) (cz V) rfl rfl (by decide) (by decide) (cbS r3 (cbS r5 (cbS r7 (cbS r9 (cbS r11 (cbS r13 (cbS r15 (cbS r17 (cbS r19 (cbS r21 (cbS r23 (cbS r25 (cbS r27 (cbS r29 (cbS r31 (cbS r33 (cbS r35 (cbS r37 cb0)))))))))))))))))) (Sf.mem (List.mem_of_getElem? (i := 0) rfl)) (rest := [(.ref a564)]) (W := 1) rfl rfl at_316 (pc' := 319) rfl (by decide) (by decide) (by decide) (by decide) ?_
    intro T583 h583_ t584 k585 g588 H583 K586 S587
    have nt584 : n0 ≤ t584 := Nat.le_trans H569.le g588
    refine G.astore H583 (L' := #[.val (.long y0), .second, .val (.long y1), .second, .val (.long y2), .second, .val (.int x0), .val (.ref p0), .val (.int (18 : Int32)), .val (.ref a564)]) at_319 (pc' := 321) rfl rfl rfl ?_
    refine G.aload H583 at_321 (pc' := 323) rfl rfl rfl ?_
    refine G.callS H583 (m61_untimed V a564 t584 k585 (x2.toInt8.toInt32) (x3.toInt8.toInt32) (x4.toInt8.toInt32) (x5.toInt8.toInt32) (x6.toInt8.toInt32) (x7.toInt8.toInt32) (x8.toInt8.toInt32) (x9.toInt8.toInt32) (x10.toInt8.toInt32) (x11.toInt8.toInt32) (x12.toInt8.toInt32) (x13.toInt8.toInt32) (x14.toInt8.toInt32) (x15.toInt8.toInt32) (x16.toInt8.toInt32) (x17.toInt8.toInt32) (x18.toInt8.toInt32) (x19.toInt8.toInt32) h583_ H583.old S587.1 S587.2.2.1 S587.2.2.2.1 S587.2.1) (wd36 V) (wd37 V) (wd38 V) (wd39 V) (by decide) (argsL := [(.ref a564)]) (rest := []) (W := 0) rfl rfl (lenOf (pd_5) rfl) rfl rfl at_323 (pc' := 326) rfl (by decide) (by decide) (by decide) (by decide) (allS (List.mem_of_getElem? (i := 1) rfl) (allS (List.mem_of_getElem? (i := 0) rfl) all0)) ?_
    intro T589 h589_ v590 s591 H589 Q592
    obtain ⟨rfl, rfl, K593⟩ := Q592
    show Go p e below _ (T589.setTop (mkF m 326 #[.val (.long y0), .second, .val (.long y1), .second, .val (.long y2), .second, .val (.int x0), .val (.ref p0), .val (.int (18 : Int32)), .val (.ref a564)] [(.int (0 : Int32))]))
    refine G.iload H589 at_326 (pc' := 328) rfl rfl ?_
    refine G.bipush H589 at_328 (pc' := 330) rfl (v := (10 : Int32)) rfl ?_
    refine G.icmpYes H589 at_330 (by decide) (by decide) (pc' := 337) rfl ?_
    refine G.iconst H589 at_337 (pc' := 338) rfl (v := (0 : Int32)) rfl ?_
    refine G.icmpNo H589 at_338 (pc' := 341) rfl (by decide) ?_
    refine G.iconst H589 at_341 (pc' := 342) rfl (v := (1 : Int32)) rfl ?_
    refine G.goto H589 at_342 (by decide) (pc' := 346) rfl ?_
    exact G.retN H589 (t := .boolean) rfl (by decide) at_346 (so := []) all0 (by decide) (by decide) rfl
  ·
    refine G.new H (wd3 V) (wd4 V) (wd5 V) at_305 (pc' := 308) rfl (by decide) (by decide) ?_
    intro T594 h594_ a595 ga595 H594 E596 A597 D598
    have na595 : n0 ≤ a595 := Nat.le_trans H.le (Nat.le_of_eq ga595.symm)
    show Go p e below _ (T594.setTop (mkF m 308 #[.val (.long y0), .second, .val (.long y1), .second, .val (.long y2), .second, .val (.int x0), .val (.ref p0), .val (.int (19 : Int32)), .unset] [(.ref a595)]))
    refine G.dup H594 at_308 (pc' := 309) rfl rfl ?_
    refine G.aload H594 at_309 (pc' := 311) rfl rfl rfl ?_
    refine G.iload H594 at_311 (pc' := 313) rfl rfl ?_
    have F599 : Arv Z h594_ p0 c0 .char (20 : Int32) [(.int x2), (.int x3), (.int x4), (.int x5), (.int x6), (.int x7), (.int x8), (.int x9), (.int x10), (.int x11), (.int x12), (.int x13), (.int x14), (.int x15), (.int x16), (.int x17), (.int x18), (.int x19), (.int x20), (.int x21)] (.int 0) := (Arv.ext f1 E596)
    refine G.callS H594 (m62_prefix V p0 c0 x2 x3 x4 x5 x6 x7 x8 x9 x10 x11 x12 x13 x14 x15 x16 x17 x18 x19 x20 x21 h594_ H594.old F599 r38 r36 r34 r32 r30 r28 r26 r24 r22 r20 r18 r16 r14 r12 r10 r8 r6 r4 r2) (wd6 V) (wd7 V) (wd8 V) (wd9 V) (by decide) (argsL := [(.ref p0), (.int (19 : Int32))]) (rest := [(.ref a595), (.ref a595)]) (W := 2) rfl rfl (lenOf (pd_0) rfl) rfl rfl at_313 (pc' := 316) rfl (by decide) (by decide) (by decide) (by decide) all0 ?_
    intro T600 h600_ v601 s602 H600 Q603
    obtain ⟨a604, k605, rfl, rfl, K606, g607, F608⟩ := Q603
    have na604 : n0 ≤ a604 := Nat.le_trans H594.le g607
    show Go p e below _ (T600.setTop (mkF m 316 #[.val (.long y0), .second, .val (.long y1), .second, .val (.long y2), .second, .val (.int x0), .val (.ref p0), .val (.int (19 : Int32)), .unset] [(.ref a604), (.ref a595), (.ref a595)]))
    have F609 : Exa Z h600_ a595 "java/lang/String" := (Exa.keep A597 K606)
    have F610 : Fld Z h594_ a595 "java/lang/String" "value" "[B" .null := D598 (Or.inr (wd35 V)) (ty := (.array .byte)) (by decide)
    have F611 : Fld Z h600_ a595 "java/lang/String" "value" "[B" .null := (Fld.keep F610 K606 nin0)
    have F612 : Fld Z h594_ a595 "java/lang/String" "coder" "B" (.int (0 : Int32)) := D598 (Or.inr (wd33 V)) (ty := .byte) (by decide)
    have F613 : Fld Z h600_ a595 "java/lang/String" "coder" "B" (.int (0 : Int32)) := (Fld.keep F612 K606 nin0)
    refine G.newStr H600 (strw V) (wd4 V) (wd10 V) (wd11 V) (cs := [x2, x3, x4, x5, x6, x7, x8, x9, x10, x11, x12, x13, x14, x15, x16, x17, x18, x19, x20]) (n := 19) na595 F609 F611 F613 F608 (s_COMPACT_STRINGS V) (cz V) rfl rfl (by decide) (by decide) (cbS r3 (cbS r5 (cbS r7 (cbS r9 (cbS r11 (cbS r13 (cbS r15 (cbS r17 (cbS r19 (cbS r21 (cbS r23 (cbS r25 (cbS r27 (cbS r29 (cbS r31 (cbS r33 (cbS r35 (cbS r37 (cbS r39 cb0))))))))))))))))))) (Sf.mem (List.mem_of_getElem? (i := 0) rfl)) (rest := [(.ref a595)]) (W := 1) rfl rfl at_316 (pc' := 319) rfl (by decide) (by decide) (by decide) (by decide) ?_
    intro T614 h614_ t615 k616 g619 H614 K617 S618
    have nt615 : n0 ≤ t615 := Nat.le_trans H600.le g619
    refine G.astore H614 (L' := #[.val (.long y0), .second, .val (.long y1), .second, .val (.long y2), .second, .val (.int x0), .val (.ref p0), .val (.int (19 : Int32)), .val (.ref a595)]) at_319 (pc' := 321) rfl rfl rfl ?_
    refine G.aload H614 at_321 (pc' := 323) rfl rfl rfl ?_
    refine G.callS H614 (m64_untimed V a595 t615 k616 (x2.toInt8.toInt32) (x3.toInt8.toInt32) (x4.toInt8.toInt32) (x5.toInt8.toInt32) (x6.toInt8.toInt32) (x7.toInt8.toInt32) (x8.toInt8.toInt32) (x9.toInt8.toInt32) (x10.toInt8.toInt32) (x11.toInt8.toInt32) (x12.toInt8.toInt32) (x13.toInt8.toInt32) (x14.toInt8.toInt32) (x15.toInt8.toInt32) (x16.toInt8.toInt32) (x17.toInt8.toInt32) (x18.toInt8.toInt32) (x19.toInt8.toInt32) (x20.toInt8.toInt32) h614_ H614.old S618.1 S618.2.2.1 S618.2.2.2.1 S618.2.1) (wd36 V) (wd37 V) (wd38 V) (wd39 V) (by decide) (argsL := [(.ref a595)]) (rest := []) (W := 0) rfl rfl (lenOf (pd_5) rfl) rfl rfl at_323 (pc' := 326) rfl (by decide) (by decide) (by decide) (by decide) (allS (List.mem_of_getElem? (i := 1) rfl) (allS (List.mem_of_getElem? (i := 0) rfl) all0)) ?_
    intro T620 h620_ v621 s622 H620 Q623
    obtain ⟨rfl, rfl, K624⟩ := Q623
    show Go p e below _ (T620.setTop (mkF m 326 #[.val (.long y0), .second, .val (.long y1), .second, .val (.long y2), .second, .val (.int x0), .val (.ref p0), .val (.int (19 : Int32)), .val (.ref a595)] [(.int (0 : Int32))]))
    refine G.iload H620 at_326 (pc' := 328) rfl rfl ?_
    refine G.bipush H620 at_328 (pc' := 330) rfl (v := (10 : Int32)) rfl ?_
    refine G.icmpYes H620 at_330 (by decide) (by decide) (pc' := 337) rfl ?_
    refine G.iconst H620 at_337 (pc' := 338) rfl (v := (0 : Int32)) rfl ?_
    refine G.icmpNo H620 at_338 (pc' := 341) rfl (by decide) ?_
    refine G.iconst H620 at_341 (pc' := 342) rfl (v := (1 : Int32)) rfl ?_
    refine G.goto H620 at_342 (by decide) (pc' := 346) rfl ?_
    exact G.retN H620 (t := .boolean) rfl (by decide) at_346 (so := []) all0 (by decide) (by decide) rfl
  ·
    refine G.new H (wd3 V) (wd4 V) (wd5 V) at_305 (pc' := 308) rfl (by decide) (by decide) ?_
    intro T625 h625_ a626 ga626 H625 E627 A628 D629
    have na626 : n0 ≤ a626 := Nat.le_trans H.le (Nat.le_of_eq ga626.symm)
    show Go p e below _ (T625.setTop (mkF m 308 #[.val (.long y0), .second, .val (.long y1), .second, .val (.long y2), .second, .val (.int x0), .val (.ref p0), .val (.int (20 : Int32)), .unset] [(.ref a626)]))
    refine G.dup H625 at_308 (pc' := 309) rfl rfl ?_
    refine G.aload H625 at_309 (pc' := 311) rfl rfl rfl ?_
    refine G.iload H625 at_311 (pc' := 313) rfl rfl ?_
    have F630 : Arv Z h625_ p0 c0 .char (20 : Int32) [(.int x2), (.int x3), (.int x4), (.int x5), (.int x6), (.int x7), (.int x8), (.int x9), (.int x10), (.int x11), (.int x12), (.int x13), (.int x14), (.int x15), (.int x16), (.int x17), (.int x18), (.int x19), (.int x20), (.int x21)] (.int 0) := (Arv.ext f1 E627)
    refine G.callS H625 (m65_prefix V p0 c0 x2 x3 x4 x5 x6 x7 x8 x9 x10 x11 x12 x13 x14 x15 x16 x17 x18 x19 x20 x21 h625_ H625.old F630 r40 r38 r36 r34 r32 r30 r28 r26 r24 r22 r20 r18 r16 r14 r12 r10 r8 r6 r4 r2) (wd6 V) (wd7 V) (wd8 V) (wd9 V) (by decide) (argsL := [(.ref p0), (.int (20 : Int32))]) (rest := [(.ref a626), (.ref a626)]) (W := 2) rfl rfl (lenOf (pd_0) rfl) rfl rfl at_313 (pc' := 316) rfl (by decide) (by decide) (by decide) (by decide) all0 ?_
    intro T631 h631_ v632 s633 H631 Q634
    obtain ⟨a635, k636, rfl, rfl, K637, g638, F639⟩ := Q634
    have na635 : n0 ≤ a635 := Nat.le_trans H625.le g638
    show Go p e below _ (T631.setTop (mkF m 316 #[.val (.long y0), .second, .val (.long y1), .second, .val (.long y2), .second, .val (.int x0), .val (.ref p0), .val (.int (20 : Int32)), .unset] [(.ref a635), (.ref a626), (.ref a626)]))
    have F640 : Exa Z h631_ a626 "java/lang/String" := (Exa.keep A628 K637)
    have F641 : Fld Z h625_ a626 "java/lang/String" "value" "[B" .null := D629 (Or.inr (wd35 V)) (ty := (.array .byte)) (by decide)
    have F642 : Fld Z h631_ a626 "java/lang/String" "value" "[B" .null := (Fld.keep F641 K637 nin0)
    have F643 : Fld Z h625_ a626 "java/lang/String" "coder" "B" (.int (0 : Int32)) := D629 (Or.inr (wd33 V)) (ty := .byte) (by decide)
    have F644 : Fld Z h631_ a626 "java/lang/String" "coder" "B" (.int (0 : Int32)) := (Fld.keep F643 K637 nin0)
    refine G.newStr H631 (strw V) (wd4 V) (wd10 V) (wd11 V) (cs := [x2, x3, x4, x5, x6, x7, x8, x9, x10, x11, x12, x13, x14, x15, x16, x17, x18, x19, x20, x21]) (n := 20) na626 F640 F642 F644 F639 (s_COMPACT_STRINGS V) (cz V) rfl rfl (by decide) (by decide) (cbS r3 (cbS r5 (cbS r7 (cbS r9 (cbS r11 (cbS r13 (cbS r15 (cbS r17 (cbS r19 (cbS r21 (cbS r23 (cbS r25 (cbS r27 (cbS r29 (cbS r31 (cbS r33 (cbS r35 (cbS r37 (cbS r39 (cbS r41 cb0)))))))))))))))))))) (Sf.mem (List.mem_of_getElem? (i := 0) rfl)) (rest := [(.ref a626)]) (W := 1) rfl rfl at_316 (pc' := 319) rfl (by decide) (by decide) (by decide) (by decide) ?_
    intro T645 h645_ t646 k647 g650 H645 K648 S649
    have nt646 : n0 ≤ t646 := Nat.le_trans H631.le g650
    refine G.astore H645 (L' := #[.val (.long y0), .second, .val (.long y1), .second, .val (.long y2), .second, .val (.int x0), .val (.ref p0), .val (.int (20 : Int32)), .val (.ref a626)]) at_319 (pc' := 321) rfl rfl rfl ?_
    refine G.aload H645 at_321 (pc' := 323) rfl rfl rfl ?_
    refine G.callS H645 (m67_untimed V a626 t646 k647 (x2.toInt8.toInt32) (x3.toInt8.toInt32) (x4.toInt8.toInt32) (x5.toInt8.toInt32) (x6.toInt8.toInt32) (x7.toInt8.toInt32) (x8.toInt8.toInt32) (x9.toInt8.toInt32) (x10.toInt8.toInt32) (x11.toInt8.toInt32) (x12.toInt8.toInt32) (x13.toInt8.toInt32) (x14.toInt8.toInt32) (x15.toInt8.toInt32) (x16.toInt8.toInt32) (x17.toInt8.toInt32) (x18.toInt8.toInt32) (x19.toInt8.toInt32) (x20.toInt8.toInt32) (x21.toInt8.toInt32) h645_ H645.old S649.1 S649.2.2.1 S649.2.2.2.1 S649.2.1) (wd36 V) (wd37 V) (wd38 V) (wd39 V) (by decide) (argsL := [(.ref a626)]) (rest := []) (W := 0) rfl rfl (lenOf (pd_5) rfl) rfl rfl at_323 (pc' := 326) rfl (by decide) (by decide) (by decide) (by decide) (allS (List.mem_of_getElem? (i := 1) rfl) (allS (List.mem_of_getElem? (i := 0) rfl) all0)) ?_
    intro T651 h651_ v652 s653 H651 Q654
    obtain ⟨rfl, rfl, K655⟩ := Q654
    show Go p e below _ (T651.setTop (mkF m 326 #[.val (.long y0), .second, .val (.long y1), .second, .val (.long y2), .second, .val (.int x0), .val (.ref p0), .val (.int (20 : Int32)), .val (.ref a626)] [(.int (0 : Int32))]))
    refine G.iload H651 at_326 (pc' := 328) rfl rfl ?_
    refine G.bipush H651 at_328 (pc' := 330) rfl (v := (10 : Int32)) rfl ?_
    refine G.icmpYes H651 at_330 (by decide) (by decide) (pc' := 337) rfl ?_
    refine G.iconst H651 at_337 (pc' := 338) rfl (v := (0 : Int32)) rfl ?_
    refine G.icmpNo H651 at_338 (pc' := 341) rfl (by decide) ?_
    refine G.iconst H651 at_341 (pc' := 342) rfl (v := (1 : Int32)) rfl ?_
    refine G.goto H651 at_342 (by decide) (pc' := 346) rfl ?_
    exact G.retN H651 (t := .boolean) rfl (by decide) at_346 (so := []) all0 (by decide) (by decide) rfl
set_option maxRecDepth 65536 in
set_option maxHeartbeats 40000000 in
theorem rmLaw {l : Launch} {Z : State} {a0 : Array Value} {n0 : Nat} {z_COMPACT_STRINGS : Int32} {z_SIOOBE_FORMATTER : Value} (V : Env1 Z a0 n0 z_COMPACT_STRINGS z_SIOOBE_FORMATTER) (y0 : Int64) (y1 : Int64) (y2 : Int64) (x0 : Int32) (h0 : Heap) (hO : Old Z n0 h0) :
    Met Z a0 ELs True n0 l x code maxLocals ret room_1 #[(.long y0), (.long y1), (.long y2), (.int x0)] h0 [] (fun v h so => v = some (.int 1)) := by
  refine Met.of (EWl V) (by first | decide +kernel | rfl) hO (L0 := #[.val (.long y0), .second, .val (.long y1), .second, .val (.long y2), .second, .val (.int x0), .unset, .unset, .unset]) rfl ?_
  intro p e s m below meth c T H
  show Go p e below _ (T.setTop (mkF m 0 #[.val (.long y0), .second, .val (.long y1), .second, .val (.long y2), .second, .val (.int x0), .unset, .unset, .unset] []))
  refine G.bipush H at_0 (pc' := 2) rfl (v := (20 : Int32)) rfl ?_
  refine G.newP H (aty := .char) (wd0 V) at_2 (pc' := 4) rfl (by decide) (cap := 20) (by decide) (by decide) (by decide) (by decide) (vs := [(.int (0 : Int32)), (.int (0 : Int32)), (.int (0 : Int32)), (.int (0 : Int32)), (.int (0 : Int32)), (.int (0 : Int32)), (.int (0 : Int32)), (.int (0 : Int32)), (.int (0 : Int32)), (.int (0 : Int32)), (.int (0 : Int32)), (.int (0 : Int32)), (.int (0 : Int32)), (.int (0 : Int32)), (.int (0 : Int32)), (.int (0 : Int32)), (.int (0 : Int32)), (.int (0 : Int32)), (.int (0 : Int32)), (.int (0 : Int32))]) rfl ?_
  intro T1 h1_ a2 k5 ga2 H1 E3 A4
  have na2 : n0 ≤ a2 := Nat.le_trans H.le (Nat.le_of_eq ga2.symm)
  replace A4 : Arv Z h1_ a2 k5 .char (20 : Int32) [(.int (0 : Int32)), (.int (0 : Int32)), (.int (0 : Int32)), (.int (0 : Int32)), (.int (0 : Int32)), (.int (0 : Int32)), (.int (0 : Int32)), (.int (0 : Int32)), (.int (0 : Int32)), (.int (0 : Int32)), (.int (0 : Int32)), (.int (0 : Int32)), (.int (0 : Int32)), (.int (0 : Int32)), (.int (0 : Int32)), (.int (0 : Int32)), (.int (0 : Int32)), (.int (0 : Int32)), (.int (0 : Int32)), (.int (0 : Int32))] (.int 0) := A4
  show Go p e below _ (T1.setTop (mkF m 4 #[.val (.long y0), .second, .val (.long y1), .second, .val (.long y2), .second, .val (.int x0), .unset, .unset, .unset] [(.ref a2)]))
  refine G.astore H1 (L' := #[.val (.long y0), .second, .val (.long y1), .second, .val (.long y2), .second, .val (.int x0), .val (.ref a2), .unset, .unset]) at_4 (pc' := 6) rfl rfl rfl ?_
  refine G.aload H1 at_6 (pc' := 8) rfl rfl rfl ?_
  refine G.iconst H1 at_8 (pc' := 9) rfl (v := (0 : Int32)) rfl ?_
  refine G.lloadN H1 at_9 (pc' := 10) rfl rfl ?_
  refine G.ldc2J H1 (wd1 V) at_10 (pc' := 13) rfl ?_
  refine G.land H1 at_13 (pc' := 14) rfl ?_
  refine G.l2i H1 at_14 (pc' := 15) rfl ?_
  refine G.i2c H1 (y := ((y0 &&& (255 : Int64)).toInt32)) at_15 (pc' := 16) rfl (own_c16 (own_u16 (own_and255L _))) ?_
  refine G.stC H1 A4 (by decide) (i := 0) rfl (Nat.le_of_ble_eq_true rfl) na2 (y := ((y0 &&& (255 : Int64)).toInt32)) (own_narC (own_u16 (own_and255L _))) at_16 (pc' := 17) rfl ?_
  intro T6 h6_ H6 W7 A8
  replace A8 : Arv Z h6_ a2 k5 .char (20 : Int32) [(.int ((y0 &&& (255 : Int64)).toInt32)), (.int (0 : Int32)), (.int (0 : Int32)), (.int (0 : Int32)), (.int (0 : Int32)), (.int (0 : Int32)), (.int (0 : Int32)), (.int (0 : Int32)), (.int (0 : Int32)), (.int (0 : Int32)), (.int (0 : Int32)), (.int (0 : Int32)), (.int (0 : Int32)), (.int (0 : Int32)), (.int (0 : Int32)), (.int (0 : Int32)), (.int (0 : Int32)), (.int (0 : Int32)), (.int (0 : Int32)), (.int (0 : Int32))] (.int 0) := A8
  show Go p e below _ (T6.setTop (mkF m 17 #[.val (.long y0), .second, .val (.long y1), .second, .val (.long y2), .second, .val (.int x0), .val (.ref a2), .unset, .unset] []))
  refine G.aload H6 at_17 (pc' := 19) rfl rfl rfl ?_
  refine G.iconst H6 at_19 (pc' := 20) rfl (v := (1 : Int32)) rfl ?_
  refine G.lloadN H6 at_20 (pc' := 21) rfl rfl ?_
  refine G.bipush H6 at_21 (pc' := 23) rfl (v := (8 : Int32)) rfl ?_
  refine G.lushr H6 at_23 (pc' := 24) rfl ?_
  refine G.ldc2J H6 (wd1 V) at_24 (pc' := 27) rfl ?_
  refine G.land H6 at_27 (pc' := 28) rfl ?_
  refine G.l2i H6 at_28 (pc' := 29) rfl ?_
  refine G.i2c H6 (y := (((XT.ushrL y0 (8 : Int32)) &&& (255 : Int64)).toInt32)) at_29 (pc' := 30) rfl (own_c16 (own_u16 (own_and255L _))) ?_
  refine G.stC H6 A8 (by decide) (i := 1) rfl (Nat.le_of_ble_eq_true rfl) na2 (y := (((XT.ushrL y0 (8 : Int32)) &&& (255 : Int64)).toInt32)) (own_narC (own_u16 (own_and255L _))) at_30 (pc' := 31) rfl ?_
  intro T9 h9_ H9 W10 A11
  replace A11 : Arv Z h9_ a2 k5 .char (20 : Int32) [(.int ((y0 &&& (255 : Int64)).toInt32)), (.int (((XT.ushrL y0 (8 : Int32)) &&& (255 : Int64)).toInt32)), (.int (0 : Int32)), (.int (0 : Int32)), (.int (0 : Int32)), (.int (0 : Int32)), (.int (0 : Int32)), (.int (0 : Int32)), (.int (0 : Int32)), (.int (0 : Int32)), (.int (0 : Int32)), (.int (0 : Int32)), (.int (0 : Int32)), (.int (0 : Int32)), (.int (0 : Int32)), (.int (0 : Int32)), (.int (0 : Int32)), (.int (0 : Int32)), (.int (0 : Int32)), (.int (0 : Int32))] (.int 0) := A11
  show Go p e below _ (T9.setTop (mkF m 31 #[.val (.long y0), .second, .val (.long y1), .second, .val (.long y2), .second, .val (.int x0), .val (.ref a2), .unset, .unset] []))
  refine G.aload H9 at_31 (pc' := 33) rfl rfl rfl ?_
  refine G.iconst H9 at_33 (pc' := 34) rfl (v := (2 : Int32)) rfl ?_
  refine G.lloadN H9 at_34 (pc' := 35) rfl rfl ?_
  refine G.bipush H9 at_35 (pc' := 37) rfl (v := (16 : Int32)) rfl ?_
  refine G.lushr H9 at_37 (pc' := 38) rfl ?_
  refine G.ldc2J H9 (wd1 V) at_38 (pc' := 41) rfl ?_
  refine G.land H9 at_41 (pc' := 42) rfl ?_
  refine G.l2i H9 at_42 (pc' := 43) rfl ?_
  refine G.i2c H9 (y := (((XT.ushrL y0 (16 : Int32)) &&& (255 : Int64)).toInt32)) at_43 (pc' := 44) rfl (own_c16 (own_u16 (own_and255L _))) ?_
  refine G.stC H9 A11 (by decide) (i := 2) rfl (Nat.le_of_ble_eq_true rfl) na2 (y := (((XT.ushrL y0 (16 : Int32)) &&& (255 : Int64)).toInt32)) (own_narC (own_u16 (own_and255L _))) at_44 (pc' := 45) rfl ?_
  intro T12 h12_ H12 W13 A14
  replace A14 : Arv Z h12_ a2 k5 .char (20 : Int32) [(.int ((y0 &&& (255 : Int64)).toInt32)), (.int (((XT.ushrL y0 (8 : Int32)) &&& (255 : Int64)).toInt32)), (.int (((XT.ushrL y0 (16 : Int32)) &&& (255 : Int64)).toInt32)), (.int (0 : Int32)), (.int (0 : Int32)), (.int (0 : Int32)), (.int (0 : Int32)), (.int (0 : Int32)), (.int (0 : Int32)), (.int (0 : Int32)), (.int (0 : Int32)), (.int (0 : Int32)), (.int (0 : Int32)), (.int (0 : Int32)), (.int (0 : Int32)), (.int (0 : Int32)), (.int (0 : Int32)), (.int (0 : Int32)), (.int (0 : Int32)), (.int (0 : Int32))] (.int 0) := A14
  show Go p e below _ (T12.setTop (mkF m 45 #[.val (.long y0), .second, .val (.long y1), .second, .val (.long y2), .second, .val (.int x0), .val (.ref a2), .unset, .unset] []))
  refine G.aload H12 at_45 (pc' := 47) rfl rfl rfl ?_
  refine G.iconst H12 at_47 (pc' := 48) rfl (v := (3 : Int32)) rfl ?_
  refine G.lloadN H12 at_48 (pc' := 49) rfl rfl ?_
  refine G.bipush H12 at_49 (pc' := 51) rfl (v := (24 : Int32)) rfl ?_
  refine G.lushr H12 at_51 (pc' := 52) rfl ?_
  refine G.ldc2J H12 (wd1 V) at_52 (pc' := 55) rfl ?_
  refine G.land H12 at_55 (pc' := 56) rfl ?_
  refine G.l2i H12 at_56 (pc' := 57) rfl ?_
  refine G.i2c H12 (y := (((XT.ushrL y0 (24 : Int32)) &&& (255 : Int64)).toInt32)) at_57 (pc' := 58) rfl (own_c16 (own_u16 (own_and255L _))) ?_
  refine G.stC H12 A14 (by decide) (i := 3) rfl (Nat.le_of_ble_eq_true rfl) na2 (y := (((XT.ushrL y0 (24 : Int32)) &&& (255 : Int64)).toInt32)) (own_narC (own_u16 (own_and255L _))) at_58 (pc' := 59) rfl ?_
  intro T15 h15_ H15 W16 A17
  replace A17 : Arv Z h15_ a2 k5 .char (20 : Int32) [(.int ((y0 &&& (255 : Int64)).toInt32)), (.int (((XT.ushrL y0 (8 : Int32)) &&& (255 : Int64)).toInt32)), (.int (((XT.ushrL y0 (16 : Int32)) &&& (255 : Int64)).toInt32)), (.int (((XT.ushrL y0 (24 : Int32)) &&& (255 : Int64)).toInt32)), (.int (0 : Int32)), (.int (0 : Int32)), (.int (0 : Int32)), (.int (0 : Int32)), (.int (0 : Int32)), (.int (0 : Int32)), (.int (0 : Int32)), (.int (0 : Int32)), (.int (0 : Int32)), (.int (0 : Int32)), (.int (0 : Int32)), (.int (0 : Int32)), (.int (0 : Int32)), (.int (0 : Int32)), (.int (0 : Int32)), (.int (0 : Int32))] (.int 0) := A17
  show Go p e below _ (T15.setTop (mkF m 59 #[.val (.long y0), .second, .val (.long y1), .second, .val (.long y2), .second, .val (.int x0), .val (.ref a2), .unset, .unset] []))
  refine G.aload H15 at_59 (pc' := 61) rfl rfl rfl ?_
  refine G.iconst H15 at_61 (pc' := 62) rfl (v := (4 : Int32)) rfl ?_
  refine G.lloadN H15 at_62 (pc' := 63) rfl rfl ?_
  refine G.bipush H15 at_63 (pc' := 65) rfl (v := (32 : Int32)) rfl ?_
  refine G.lushr H15 at_65 (pc' := 66) rfl ?_
  refine G.ldc2J H15 (wd1 V) at_66 (pc' := 69) rfl ?_
  refine G.land H15 at_69 (pc' := 70) rfl ?_
  refine G.l2i H15 at_70 (pc' := 71) rfl ?_
  refine G.i2c H15 (y := (((XT.ushrL y0 (32 : Int32)) &&& (255 : Int64)).toInt32)) at_71 (pc' := 72) rfl (own_c16 (own_u16 (own_and255L _))) ?_
  refine G.stC H15 A17 (by decide) (i := 4) rfl (Nat.le_of_ble_eq_true rfl) na2 (y := (((XT.ushrL y0 (32 : Int32)) &&& (255 : Int64)).toInt32)) (own_narC (own_u16 (own_and255L _))) at_72 (pc' := 73) rfl ?_
  intro T18 h18_ H18 W19 A20
  replace A20 : Arv Z h18_ a2 k5 .char (20 : Int32) [(.int ((y0 &&& (255 : Int64)).toInt32)), (.int (((XT.ushrL y0 (8 : Int32)) &&& (255 : Int64)).toInt32)), (.int (((XT.ushrL y0 (16 : Int32)) &&& (255 : Int64)).toInt32)), (.int (((XT.ushrL y0 (24 : Int32)) &&& (255 : Int64)).toInt32)), (.int (((XT.ushrL y0 (32 : Int32)) &&& (255 : Int64)).toInt32)), (.int (0 : Int32)), (.int (0 : Int32)), (.int (0 : Int32)), (.int (0 : Int32)), (.int (0 : Int32)), (.int (0 : Int32)), (.int (0 : Int32)), (.int (0 : Int32)), (.int (0 : Int32)), (.int (0 : Int32)), (.int (0 : Int32)), (.int (0 : Int32)), (.int (0 : Int32)), (.int (0 : Int32)), (.int (0 : Int32))] (.int 0) := A20
  show Go p e below _ (T18.setTop (mkF m 73 #[.val (.long y0), .second, .val (.long y1), .second, .val (.long y2), .second, .val (.int x0), .val (.ref a2), .unset, .unset] []))
  refine G.aload H18 at_73 (pc' := 75) rfl rfl rfl ?_
  refine G.iconst H18 at_75 (pc' := 76) rfl (v := (5 : Int32)) rfl ?_
  refine G.lloadN H18 at_76 (pc' := 77) rfl rfl ?_
  refine G.bipush H18 at_77 (pc' := 79) rfl (v := (40 : Int32)) rfl ?_
  refine G.lushr H18 at_79 (pc' := 80) rfl ?_
  refine G.ldc2J H18 (wd1 V) at_80 (pc' := 83) rfl ?_
  refine G.land H18 at_83 (pc' := 84) rfl ?_
  refine G.l2i H18 at_84 (pc' := 85) rfl ?_
  refine G.i2c H18 (y := (((XT.ushrL y0 (40 : Int32)) &&& (255 : Int64)).toInt32)) at_85 (pc' := 86) rfl (own_c16 (own_u16 (own_and255L _))) ?_
  refine G.stC H18 A20 (by decide) (i := 5) rfl (Nat.le_of_ble_eq_true rfl) na2 (y := (((XT.ushrL y0 (40 : Int32)) &&& (255 : Int64)).toInt32)) (own_narC (own_u16 (own_and255L _))) at_86 (pc' := 87) rfl ?_
  intro T21 h21_ H21 W22 A23
  replace A23 : Arv Z h21_ a2 k5 .char (20 : Int32) [(.int ((y0 &&& (255 : Int64)).toInt32)), (.int (((XT.ushrL y0 (8 : Int32)) &&& (255 : Int64)).toInt32)), (.int (((XT.ushrL y0 (16 : Int32)) &&& (255 : Int64)).toInt32)), (.int (((XT.ushrL y0 (24 : Int32)) &&& (255 : Int64)).toInt32)), (.int (((XT.ushrL y0 (32 : Int32)) &&& (255 : Int64)).toInt32)), (.int (((XT.ushrL y0 (40 : Int32)) &&& (255 : Int64)).toInt32)), (.int (0 : Int32)), (.int (0 : Int32)), (.int (0 : Int32)), (.int (0 : Int32)), (.int (0 : Int32)), (.int (0 : Int32)), (.int (0 : Int32)), (.int (0 : Int32)), (.int (0 : Int32)), (.int (0 : Int32)), (.int (0 : Int32)), (.int (0 : Int32)), (.int (0 : Int32)), (.int (0 : Int32))] (.int 0) := A23
  show Go p e below _ (T21.setTop (mkF m 87 #[.val (.long y0), .second, .val (.long y1), .second, .val (.long y2), .second, .val (.int x0), .val (.ref a2), .unset, .unset] []))
  refine G.aload H21 at_87 (pc' := 89) rfl rfl rfl ?_
  refine G.bipush H21 at_89 (pc' := 91) rfl (v := (6 : Int32)) rfl ?_
  refine G.lloadN H21 at_91 (pc' := 92) rfl rfl ?_
  refine G.bipush H21 at_92 (pc' := 94) rfl (v := (48 : Int32)) rfl ?_
  refine G.lushr H21 at_94 (pc' := 95) rfl ?_
  refine G.ldc2J H21 (wd1 V) at_95 (pc' := 98) rfl ?_
  refine G.land H21 at_98 (pc' := 99) rfl ?_
  refine G.l2i H21 at_99 (pc' := 100) rfl ?_
  refine G.i2c H21 (y := (((XT.ushrL y0 (48 : Int32)) &&& (255 : Int64)).toInt32)) at_100 (pc' := 101) rfl (own_c16 (own_u16 (own_and255L _))) ?_
  refine G.stC H21 A23 (by decide) (i := 6) rfl (Nat.le_of_ble_eq_true rfl) na2 (y := (((XT.ushrL y0 (48 : Int32)) &&& (255 : Int64)).toInt32)) (own_narC (own_u16 (own_and255L _))) at_101 (pc' := 102) rfl ?_
  intro T24 h24_ H24 W25 A26
  replace A26 : Arv Z h24_ a2 k5 .char (20 : Int32) [(.int ((y0 &&& (255 : Int64)).toInt32)), (.int (((XT.ushrL y0 (8 : Int32)) &&& (255 : Int64)).toInt32)), (.int (((XT.ushrL y0 (16 : Int32)) &&& (255 : Int64)).toInt32)), (.int (((XT.ushrL y0 (24 : Int32)) &&& (255 : Int64)).toInt32)), (.int (((XT.ushrL y0 (32 : Int32)) &&& (255 : Int64)).toInt32)), (.int (((XT.ushrL y0 (40 : Int32)) &&& (255 : Int64)).toInt32)), (.int (((XT.ushrL y0 (48 : Int32)) &&& (255 : Int64)).toInt32)), (.int (0 : Int32)), (.int (0 : Int32)), (.int (0 : Int32)), (.int (0 : Int32)), (.int (0 : Int32)), (.int (0 : Int32)), (.int (0 : Int32)), (.int (0 : Int32)), (.int (0 : Int32)), (.int (0 : Int32)), (.int (0 : Int32)), (.int (0 : Int32)), (.int (0 : Int32))] (.int 0) := A26
  show Go p e below _ (T24.setTop (mkF m 102 #[.val (.long y0), .second, .val (.long y1), .second, .val (.long y2), .second, .val (.int x0), .val (.ref a2), .unset, .unset] []))
  refine G.aload H24 at_102 (pc' := 104) rfl rfl rfl ?_
  refine G.bipush H24 at_104 (pc' := 106) rfl (v := (7 : Int32)) rfl ?_
  refine G.lloadN H24 at_106 (pc' := 107) rfl rfl ?_
  refine G.bipush H24 at_107 (pc' := 109) rfl (v := (56 : Int32)) rfl ?_
  refine G.lushr H24 at_109 (pc' := 110) rfl ?_
  refine G.ldc2J H24 (wd1 V) at_110 (pc' := 113) rfl ?_
  refine G.land H24 at_113 (pc' := 114) rfl ?_
  refine G.l2i H24 at_114 (pc' := 115) rfl ?_
  refine G.i2c H24 (y := (((XT.ushrL y0 (56 : Int32)) &&& (255 : Int64)).toInt32)) at_115 (pc' := 116) rfl (own_c16 (own_u16 (own_and255L _))) ?_
  refine G.stC H24 A26 (by decide) (i := 7) rfl (Nat.le_of_ble_eq_true rfl) na2 (y := (((XT.ushrL y0 (56 : Int32)) &&& (255 : Int64)).toInt32)) (own_narC (own_u16 (own_and255L _))) at_116 (pc' := 117) rfl ?_
  intro T27 h27_ H27 W28 A29
  replace A29 : Arv Z h27_ a2 k5 .char (20 : Int32) [(.int ((y0 &&& (255 : Int64)).toInt32)), (.int (((XT.ushrL y0 (8 : Int32)) &&& (255 : Int64)).toInt32)), (.int (((XT.ushrL y0 (16 : Int32)) &&& (255 : Int64)).toInt32)), (.int (((XT.ushrL y0 (24 : Int32)) &&& (255 : Int64)).toInt32)), (.int (((XT.ushrL y0 (32 : Int32)) &&& (255 : Int64)).toInt32)), (.int (((XT.ushrL y0 (40 : Int32)) &&& (255 : Int64)).toInt32)), (.int (((XT.ushrL y0 (48 : Int32)) &&& (255 : Int64)).toInt32)), (.int (((XT.ushrL y0 (56 : Int32)) &&& (255 : Int64)).toInt32)), (.int (0 : Int32)), (.int (0 : Int32)), (.int (0 : Int32)), (.int (0 : Int32)), (.int (0 : Int32)), (.int (0 : Int32)), (.int (0 : Int32)), (.int (0 : Int32)), (.int (0 : Int32)), (.int (0 : Int32)), (.int (0 : Int32)), (.int (0 : Int32))] (.int 0) := A29
  show Go p e below _ (T27.setTop (mkF m 117 #[.val (.long y0), .second, .val (.long y1), .second, .val (.long y2), .second, .val (.int x0), .val (.ref a2), .unset, .unset] []))
  refine G.aload H27 at_117 (pc' := 119) rfl rfl rfl ?_
  refine G.bipush H27 at_119 (pc' := 121) rfl (v := (8 : Int32)) rfl ?_
  refine G.lloadN H27 at_121 (pc' := 122) rfl rfl ?_
  refine G.ldc2J H27 (wd1 V) at_122 (pc' := 125) rfl ?_
  refine G.land H27 at_125 (pc' := 126) rfl ?_
  refine G.l2i H27 at_126 (pc' := 127) rfl ?_
  refine G.i2c H27 (y := ((y1 &&& (255 : Int64)).toInt32)) at_127 (pc' := 128) rfl (own_c16 (own_u16 (own_and255L _))) ?_
  refine G.stC H27 A29 (by decide) (i := 8) rfl (Nat.le_of_ble_eq_true rfl) na2 (y := ((y1 &&& (255 : Int64)).toInt32)) (own_narC (own_u16 (own_and255L _))) at_128 (pc' := 129) rfl ?_
  intro T30 h30_ H30 W31 A32
  replace A32 : Arv Z h30_ a2 k5 .char (20 : Int32) [(.int ((y0 &&& (255 : Int64)).toInt32)), (.int (((XT.ushrL y0 (8 : Int32)) &&& (255 : Int64)).toInt32)), (.int (((XT.ushrL y0 (16 : Int32)) &&& (255 : Int64)).toInt32)), (.int (((XT.ushrL y0 (24 : Int32)) &&& (255 : Int64)).toInt32)), (.int (((XT.ushrL y0 (32 : Int32)) &&& (255 : Int64)).toInt32)), (.int (((XT.ushrL y0 (40 : Int32)) &&& (255 : Int64)).toInt32)), (.int (((XT.ushrL y0 (48 : Int32)) &&& (255 : Int64)).toInt32)), (.int (((XT.ushrL y0 (56 : Int32)) &&& (255 : Int64)).toInt32)), (.int ((y1 &&& (255 : Int64)).toInt32)), (.int (0 : Int32)), (.int (0 : Int32)), (.int (0 : Int32)), (.int (0 : Int32)), (.int (0 : Int32)), (.int (0 : Int32)), (.int (0 : Int32)), (.int (0 : Int32)), (.int (0 : Int32)), (.int (0 : Int32)), (.int (0 : Int32))] (.int 0) := A32
  show Go p e below _ (T30.setTop (mkF m 129 #[.val (.long y0), .second, .val (.long y1), .second, .val (.long y2), .second, .val (.int x0), .val (.ref a2), .unset, .unset] []))
  refine G.aload H30 at_129 (pc' := 131) rfl rfl rfl ?_
  refine G.bipush H30 at_131 (pc' := 133) rfl (v := (9 : Int32)) rfl ?_
  refine G.lloadN H30 at_133 (pc' := 134) rfl rfl ?_
  refine G.bipush H30 at_134 (pc' := 136) rfl (v := (8 : Int32)) rfl ?_
  refine G.lushr H30 at_136 (pc' := 137) rfl ?_
  refine G.ldc2J H30 (wd1 V) at_137 (pc' := 140) rfl ?_
  refine G.land H30 at_140 (pc' := 141) rfl ?_
  refine G.l2i H30 at_141 (pc' := 142) rfl ?_
  refine G.i2c H30 (y := (((XT.ushrL y1 (8 : Int32)) &&& (255 : Int64)).toInt32)) at_142 (pc' := 143) rfl (own_c16 (own_u16 (own_and255L _))) ?_
  refine G.stC H30 A32 (by decide) (i := 9) rfl (Nat.le_of_ble_eq_true rfl) na2 (y := (((XT.ushrL y1 (8 : Int32)) &&& (255 : Int64)).toInt32)) (own_narC (own_u16 (own_and255L _))) at_143 (pc' := 144) rfl ?_
  intro T33 h33_ H33 W34 A35
  replace A35 : Arv Z h33_ a2 k5 .char (20 : Int32) [(.int ((y0 &&& (255 : Int64)).toInt32)), (.int (((XT.ushrL y0 (8 : Int32)) &&& (255 : Int64)).toInt32)), (.int (((XT.ushrL y0 (16 : Int32)) &&& (255 : Int64)).toInt32)), (.int (((XT.ushrL y0 (24 : Int32)) &&& (255 : Int64)).toInt32)), (.int (((XT.ushrL y0 (32 : Int32)) &&& (255 : Int64)).toInt32)), (.int (((XT.ushrL y0 (40 : Int32)) &&& (255 : Int64)).toInt32)), (.int (((XT.ushrL y0 (48 : Int32)) &&& (255 : Int64)).toInt32)), (.int (((XT.ushrL y0 (56 : Int32)) &&& (255 : Int64)).toInt32)), (.int ((y1 &&& (255 : Int64)).toInt32)), (.int (((XT.ushrL y1 (8 : Int32)) &&& (255 : Int64)).toInt32)), (.int (0 : Int32)), (.int (0 : Int32)), (.int (0 : Int32)), (.int (0 : Int32)), (.int (0 : Int32)), (.int (0 : Int32)), (.int (0 : Int32)), (.int (0 : Int32)), (.int (0 : Int32)), (.int (0 : Int32))] (.int 0) := A35
  show Go p e below _ (T33.setTop (mkF m 144 #[.val (.long y0), .second, .val (.long y1), .second, .val (.long y2), .second, .val (.int x0), .val (.ref a2), .unset, .unset] []))
  refine G.aload H33 at_144 (pc' := 146) rfl rfl rfl ?_
  refine G.bipush H33 at_146 (pc' := 148) rfl (v := (10 : Int32)) rfl ?_
  refine G.lloadN H33 at_148 (pc' := 149) rfl rfl ?_
  refine G.bipush H33 at_149 (pc' := 151) rfl (v := (16 : Int32)) rfl ?_
  refine G.lushr H33 at_151 (pc' := 152) rfl ?_
  refine G.ldc2J H33 (wd1 V) at_152 (pc' := 155) rfl ?_
  refine G.land H33 at_155 (pc' := 156) rfl ?_
  refine G.l2i H33 at_156 (pc' := 157) rfl ?_
  refine G.i2c H33 (y := (((XT.ushrL y1 (16 : Int32)) &&& (255 : Int64)).toInt32)) at_157 (pc' := 158) rfl (own_c16 (own_u16 (own_and255L _))) ?_
  refine G.stC H33 A35 (by decide) (i := 10) rfl (Nat.le_of_ble_eq_true rfl) na2 (y := (((XT.ushrL y1 (16 : Int32)) &&& (255 : Int64)).toInt32)) (own_narC (own_u16 (own_and255L _))) at_158 (pc' := 159) rfl ?_
  intro T36 h36_ H36 W37 A38
  replace A38 : Arv Z h36_ a2 k5 .char (20 : Int32) [(.int ((y0 &&& (255 : Int64)).toInt32)), (.int (((XT.ushrL y0 (8 : Int32)) &&& (255 : Int64)).toInt32)), (.int (((XT.ushrL y0 (16 : Int32)) &&& (255 : Int64)).toInt32)), (.int (((XT.ushrL y0 (24 : Int32)) &&& (255 : Int64)).toInt32)), (.int (((XT.ushrL y0 (32 : Int32)) &&& (255 : Int64)).toInt32)), (.int (((XT.ushrL y0 (40 : Int32)) &&& (255 : Int64)).toInt32)), (.int (((XT.ushrL y0 (48 : Int32)) &&& (255 : Int64)).toInt32)), (.int (((XT.ushrL y0 (56 : Int32)) &&& (255 : Int64)).toInt32)), (.int ((y1 &&& (255 : Int64)).toInt32)), (.int (((XT.ushrL y1 (8 : Int32)) &&& (255 : Int64)).toInt32)), (.int (((XT.ushrL y1 (16 : Int32)) &&& (255 : Int64)).toInt32)), (.int (0 : Int32)), (.int (0 : Int32)), (.int (0 : Int32)), (.int (0 : Int32)), (.int (0 : Int32)), (.int (0 : Int32)), (.int (0 : Int32)), (.int (0 : Int32)), (.int (0 : Int32))] (.int 0) := A38
  show Go p e below _ (T36.setTop (mkF m 159 #[.val (.long y0), .second, .val (.long y1), .second, .val (.long y2), .second, .val (.int x0), .val (.ref a2), .unset, .unset] []))
  refine G.aload H36 at_159 (pc' := 161) rfl rfl rfl ?_
  refine G.bipush H36 at_161 (pc' := 163) rfl (v := (11 : Int32)) rfl ?_
  refine G.lloadN H36 at_163 (pc' := 164) rfl rfl ?_
  refine G.bipush H36 at_164 (pc' := 166) rfl (v := (24 : Int32)) rfl ?_
  refine G.lushr H36 at_166 (pc' := 167) rfl ?_
  refine G.ldc2J H36 (wd1 V) at_167 (pc' := 170) rfl ?_
  refine G.land H36 at_170 (pc' := 171) rfl ?_
  refine G.l2i H36 at_171 (pc' := 172) rfl ?_
  refine G.i2c H36 (y := (((XT.ushrL y1 (24 : Int32)) &&& (255 : Int64)).toInt32)) at_172 (pc' := 173) rfl (own_c16 (own_u16 (own_and255L _))) ?_
  refine G.stC H36 A38 (by decide) (i := 11) rfl (Nat.le_of_ble_eq_true rfl) na2 (y := (((XT.ushrL y1 (24 : Int32)) &&& (255 : Int64)).toInt32)) (own_narC (own_u16 (own_and255L _))) at_173 (pc' := 174) rfl ?_
  intro T39 h39_ H39 W40 A41
  replace A41 : Arv Z h39_ a2 k5 .char (20 : Int32) [(.int ((y0 &&& (255 : Int64)).toInt32)), (.int (((XT.ushrL y0 (8 : Int32)) &&& (255 : Int64)).toInt32)), (.int (((XT.ushrL y0 (16 : Int32)) &&& (255 : Int64)).toInt32)), (.int (((XT.ushrL y0 (24 : Int32)) &&& (255 : Int64)).toInt32)), (.int (((XT.ushrL y0 (32 : Int32)) &&& (255 : Int64)).toInt32)), (.int (((XT.ushrL y0 (40 : Int32)) &&& (255 : Int64)).toInt32)), (.int (((XT.ushrL y0 (48 : Int32)) &&& (255 : Int64)).toInt32)), (.int (((XT.ushrL y0 (56 : Int32)) &&& (255 : Int64)).toInt32)), (.int ((y1 &&& (255 : Int64)).toInt32)), (.int (((XT.ushrL y1 (8 : Int32)) &&& (255 : Int64)).toInt32)), (.int (((XT.ushrL y1 (16 : Int32)) &&& (255 : Int64)).toInt32)), (.int (((XT.ushrL y1 (24 : Int32)) &&& (255 : Int64)).toInt32)), (.int (0 : Int32)), (.int (0 : Int32)), (.int (0 : Int32)), (.int (0 : Int32)), (.int (0 : Int32)), (.int (0 : Int32)), (.int (0 : Int32)), (.int (0 : Int32))] (.int 0) := A41
  show Go p e below _ (T39.setTop (mkF m 174 #[.val (.long y0), .second, .val (.long y1), .second, .val (.long y2), .second, .val (.int x0), .val (.ref a2), .unset, .unset] []))
  refine G.aload H39 at_174 (pc' := 176) rfl rfl rfl ?_
  refine G.bipush H39 at_176 (pc' := 178) rfl (v := (12 : Int32)) rfl ?_
  refine G.lloadN H39 at_178 (pc' := 179) rfl rfl ?_
  refine G.bipush H39 at_179 (pc' := 181) rfl (v := (32 : Int32)) rfl ?_
  refine G.lushr H39 at_181 (pc' := 182) rfl ?_
  refine G.ldc2J H39 (wd1 V) at_182 (pc' := 185) rfl ?_
  refine G.land H39 at_185 (pc' := 186) rfl ?_
  refine G.l2i H39 at_186 (pc' := 187) rfl ?_
  refine G.i2c H39 (y := (((XT.ushrL y1 (32 : Int32)) &&& (255 : Int64)).toInt32)) at_187 (pc' := 188) rfl (own_c16 (own_u16 (own_and255L _))) ?_
  refine G.stC H39 A41 (by decide) (i := 12) rfl (Nat.le_of_ble_eq_true rfl) na2 (y := (((XT.ushrL y1 (32 : Int32)) &&& (255 : Int64)).toInt32)) (own_narC (own_u16 (own_and255L _))) at_188 (pc' := 189) rfl ?_
  intro T42 h42_ H42 W43 A44
  replace A44 : Arv Z h42_ a2 k5 .char (20 : Int32) [(.int ((y0 &&& (255 : Int64)).toInt32)), (.int (((XT.ushrL y0 (8 : Int32)) &&& (255 : Int64)).toInt32)), (.int (((XT.ushrL y0 (16 : Int32)) &&& (255 : Int64)).toInt32)), (.int (((XT.ushrL y0 (24 : Int32)) &&& (255 : Int64)).toInt32)), (.int (((XT.ushrL y0 (32 : Int32)) &&& (255 : Int64)).toInt32)), (.int (((XT.ushrL y0 (40 : Int32)) &&& (255 : Int64)).toInt32)), (.int (((XT.ushrL y0 (48 : Int32)) &&& (255 : Int64)).toInt32)), (.int (((XT.ushrL y0 (56 : Int32)) &&& (255 : Int64)).toInt32)), (.int ((y1 &&& (255 : Int64)).toInt32)), (.int (((XT.ushrL y1 (8 : Int32)) &&& (255 : Int64)).toInt32)), (.int (((XT.ushrL y1 (16 : Int32)) &&& (255 : Int64)).toInt32)), (.int (((XT.ushrL y1 (24 : Int32)) &&& (255 : Int64)).toInt32)), (.int (((XT.ushrL y1 (32 : Int32)) &&& (255 : Int64)).toInt32)), (.int (0 : Int32)), (.int (0 : Int32)), (.int (0 : Int32)), (.int (0 : Int32)), (.int (0 : Int32)), (.int (0 : Int32)), (.int (0 : Int32))] (.int 0) := A44
  show Go p e below _ (T42.setTop (mkF m 189 #[.val (.long y0), .second, .val (.long y1), .second, .val (.long y2), .second, .val (.int x0), .val (.ref a2), .unset, .unset] []))
  refine G.aload H42 at_189 (pc' := 191) rfl rfl rfl ?_
  refine G.bipush H42 at_191 (pc' := 193) rfl (v := (13 : Int32)) rfl ?_
  refine G.lloadN H42 at_193 (pc' := 194) rfl rfl ?_
  refine G.bipush H42 at_194 (pc' := 196) rfl (v := (40 : Int32)) rfl ?_
  refine G.lushr H42 at_196 (pc' := 197) rfl ?_
  refine G.ldc2J H42 (wd1 V) at_197 (pc' := 200) rfl ?_
  refine G.land H42 at_200 (pc' := 201) rfl ?_
  refine G.l2i H42 at_201 (pc' := 202) rfl ?_
  refine G.i2c H42 (y := (((XT.ushrL y1 (40 : Int32)) &&& (255 : Int64)).toInt32)) at_202 (pc' := 203) rfl (own_c16 (own_u16 (own_and255L _))) ?_
  refine G.stC H42 A44 (by decide) (i := 13) rfl (Nat.le_of_ble_eq_true rfl) na2 (y := (((XT.ushrL y1 (40 : Int32)) &&& (255 : Int64)).toInt32)) (own_narC (own_u16 (own_and255L _))) at_203 (pc' := 204) rfl ?_
  intro T45 h45_ H45 W46 A47
  replace A47 : Arv Z h45_ a2 k5 .char (20 : Int32) [(.int ((y0 &&& (255 : Int64)).toInt32)), (.int (((XT.ushrL y0 (8 : Int32)) &&& (255 : Int64)).toInt32)), (.int (((XT.ushrL y0 (16 : Int32)) &&& (255 : Int64)).toInt32)), (.int (((XT.ushrL y0 (24 : Int32)) &&& (255 : Int64)).toInt32)), (.int (((XT.ushrL y0 (32 : Int32)) &&& (255 : Int64)).toInt32)), (.int (((XT.ushrL y0 (40 : Int32)) &&& (255 : Int64)).toInt32)), (.int (((XT.ushrL y0 (48 : Int32)) &&& (255 : Int64)).toInt32)), (.int (((XT.ushrL y0 (56 : Int32)) &&& (255 : Int64)).toInt32)), (.int ((y1 &&& (255 : Int64)).toInt32)), (.int (((XT.ushrL y1 (8 : Int32)) &&& (255 : Int64)).toInt32)), (.int (((XT.ushrL y1 (16 : Int32)) &&& (255 : Int64)).toInt32)), (.int (((XT.ushrL y1 (24 : Int32)) &&& (255 : Int64)).toInt32)), (.int (((XT.ushrL y1 (32 : Int32)) &&& (255 : Int64)).toInt32)), (.int (((XT.ushrL y1 (40 : Int32)) &&& (255 : Int64)).toInt32)), (.int (0 : Int32)), (.int (0 : Int32)), (.int (0 : Int32)), (.int (0 : Int32)), (.int (0 : Int32)), (.int (0 : Int32))] (.int 0) := A47
  show Go p e below _ (T45.setTop (mkF m 204 #[.val (.long y0), .second, .val (.long y1), .second, .val (.long y2), .second, .val (.int x0), .val (.ref a2), .unset, .unset] []))
  refine G.aload H45 at_204 (pc' := 206) rfl rfl rfl ?_
  refine G.bipush H45 at_206 (pc' := 208) rfl (v := (14 : Int32)) rfl ?_
  refine G.lloadN H45 at_208 (pc' := 209) rfl rfl ?_
  refine G.bipush H45 at_209 (pc' := 211) rfl (v := (48 : Int32)) rfl ?_
  refine G.lushr H45 at_211 (pc' := 212) rfl ?_
  refine G.ldc2J H45 (wd1 V) at_212 (pc' := 215) rfl ?_
  refine G.land H45 at_215 (pc' := 216) rfl ?_
  refine G.l2i H45 at_216 (pc' := 217) rfl ?_
  refine G.i2c H45 (y := (((XT.ushrL y1 (48 : Int32)) &&& (255 : Int64)).toInt32)) at_217 (pc' := 218) rfl (own_c16 (own_u16 (own_and255L _))) ?_
  refine G.stC H45 A47 (by decide) (i := 14) rfl (Nat.le_of_ble_eq_true rfl) na2 (y := (((XT.ushrL y1 (48 : Int32)) &&& (255 : Int64)).toInt32)) (own_narC (own_u16 (own_and255L _))) at_218 (pc' := 219) rfl ?_
  intro T48 h48_ H48 W49 A50
  replace A50 : Arv Z h48_ a2 k5 .char (20 : Int32) [(.int ((y0 &&& (255 : Int64)).toInt32)), (.int (((XT.ushrL y0 (8 : Int32)) &&& (255 : Int64)).toInt32)), (.int (((XT.ushrL y0 (16 : Int32)) &&& (255 : Int64)).toInt32)), (.int (((XT.ushrL y0 (24 : Int32)) &&& (255 : Int64)).toInt32)), (.int (((XT.ushrL y0 (32 : Int32)) &&& (255 : Int64)).toInt32)), (.int (((XT.ushrL y0 (40 : Int32)) &&& (255 : Int64)).toInt32)), (.int (((XT.ushrL y0 (48 : Int32)) &&& (255 : Int64)).toInt32)), (.int (((XT.ushrL y0 (56 : Int32)) &&& (255 : Int64)).toInt32)), (.int ((y1 &&& (255 : Int64)).toInt32)), (.int (((XT.ushrL y1 (8 : Int32)) &&& (255 : Int64)).toInt32)), (.int (((XT.ushrL y1 (16 : Int32)) &&& (255 : Int64)).toInt32)), (.int (((XT.ushrL y1 (24 : Int32)) &&& (255 : Int64)).toInt32)), (.int (((XT.ushrL y1 (32 : Int32)) &&& (255 : Int64)).toInt32)), (.int (((XT.ushrL y1 (40 : Int32)) &&& (255 : Int64)).toInt32)), (.int (((XT.ushrL y1 (48 : Int32)) &&& (255 : Int64)).toInt32)), (.int (0 : Int32)), (.int (0 : Int32)), (.int (0 : Int32)), (.int (0 : Int32)), (.int (0 : Int32))] (.int 0) := A50
  show Go p e below _ (T48.setTop (mkF m 219 #[.val (.long y0), .second, .val (.long y1), .second, .val (.long y2), .second, .val (.int x0), .val (.ref a2), .unset, .unset] []))
  refine G.aload H48 at_219 (pc' := 221) rfl rfl rfl ?_
  refine G.bipush H48 at_221 (pc' := 223) rfl (v := (15 : Int32)) rfl ?_
  refine G.lloadN H48 at_223 (pc' := 224) rfl rfl ?_
  refine G.bipush H48 at_224 (pc' := 226) rfl (v := (56 : Int32)) rfl ?_
  refine G.lushr H48 at_226 (pc' := 227) rfl ?_
  refine G.ldc2J H48 (wd1 V) at_227 (pc' := 230) rfl ?_
  refine G.land H48 at_230 (pc' := 231) rfl ?_
  refine G.l2i H48 at_231 (pc' := 232) rfl ?_
  refine G.i2c H48 (y := (((XT.ushrL y1 (56 : Int32)) &&& (255 : Int64)).toInt32)) at_232 (pc' := 233) rfl (own_c16 (own_u16 (own_and255L _))) ?_
  refine G.stC H48 A50 (by decide) (i := 15) rfl (Nat.le_of_ble_eq_true rfl) na2 (y := (((XT.ushrL y1 (56 : Int32)) &&& (255 : Int64)).toInt32)) (own_narC (own_u16 (own_and255L _))) at_233 (pc' := 234) rfl ?_
  intro T51 h51_ H51 W52 A53
  replace A53 : Arv Z h51_ a2 k5 .char (20 : Int32) [(.int ((y0 &&& (255 : Int64)).toInt32)), (.int (((XT.ushrL y0 (8 : Int32)) &&& (255 : Int64)).toInt32)), (.int (((XT.ushrL y0 (16 : Int32)) &&& (255 : Int64)).toInt32)), (.int (((XT.ushrL y0 (24 : Int32)) &&& (255 : Int64)).toInt32)), (.int (((XT.ushrL y0 (32 : Int32)) &&& (255 : Int64)).toInt32)), (.int (((XT.ushrL y0 (40 : Int32)) &&& (255 : Int64)).toInt32)), (.int (((XT.ushrL y0 (48 : Int32)) &&& (255 : Int64)).toInt32)), (.int (((XT.ushrL y0 (56 : Int32)) &&& (255 : Int64)).toInt32)), (.int ((y1 &&& (255 : Int64)).toInt32)), (.int (((XT.ushrL y1 (8 : Int32)) &&& (255 : Int64)).toInt32)), (.int (((XT.ushrL y1 (16 : Int32)) &&& (255 : Int64)).toInt32)), (.int (((XT.ushrL y1 (24 : Int32)) &&& (255 : Int64)).toInt32)), (.int (((XT.ushrL y1 (32 : Int32)) &&& (255 : Int64)).toInt32)), (.int (((XT.ushrL y1 (40 : Int32)) &&& (255 : Int64)).toInt32)), (.int (((XT.ushrL y1 (48 : Int32)) &&& (255 : Int64)).toInt32)), (.int (((XT.ushrL y1 (56 : Int32)) &&& (255 : Int64)).toInt32)), (.int (0 : Int32)), (.int (0 : Int32)), (.int (0 : Int32)), (.int (0 : Int32))] (.int 0) := A53
  show Go p e below _ (T51.setTop (mkF m 234 #[.val (.long y0), .second, .val (.long y1), .second, .val (.long y2), .second, .val (.int x0), .val (.ref a2), .unset, .unset] []))
  refine G.aload H51 at_234 (pc' := 236) rfl rfl rfl ?_
  refine G.bipush H51 at_236 (pc' := 238) rfl (v := (16 : Int32)) rfl ?_
  refine G.lload H51 at_238 (pc' := 240) rfl rfl ?_
  refine G.ldc2J H51 (wd1 V) at_240 (pc' := 243) rfl ?_
  refine G.land H51 at_243 (pc' := 244) rfl ?_
  refine G.l2i H51 at_244 (pc' := 245) rfl ?_
  refine G.i2c H51 (y := ((y2 &&& (255 : Int64)).toInt32)) at_245 (pc' := 246) rfl (own_c16 (own_u16 (own_and255L _))) ?_
  refine G.stC H51 A53 (by decide) (i := 16) rfl (Nat.le_of_ble_eq_true rfl) na2 (y := ((y2 &&& (255 : Int64)).toInt32)) (own_narC (own_u16 (own_and255L _))) at_246 (pc' := 247) rfl ?_
  intro T54 h54_ H54 W55 A56
  replace A56 : Arv Z h54_ a2 k5 .char (20 : Int32) [(.int ((y0 &&& (255 : Int64)).toInt32)), (.int (((XT.ushrL y0 (8 : Int32)) &&& (255 : Int64)).toInt32)), (.int (((XT.ushrL y0 (16 : Int32)) &&& (255 : Int64)).toInt32)), (.int (((XT.ushrL y0 (24 : Int32)) &&& (255 : Int64)).toInt32)), (.int (((XT.ushrL y0 (32 : Int32)) &&& (255 : Int64)).toInt32)), (.int (((XT.ushrL y0 (40 : Int32)) &&& (255 : Int64)).toInt32)), (.int (((XT.ushrL y0 (48 : Int32)) &&& (255 : Int64)).toInt32)), (.int (((XT.ushrL y0 (56 : Int32)) &&& (255 : Int64)).toInt32)), (.int ((y1 &&& (255 : Int64)).toInt32)), (.int (((XT.ushrL y1 (8 : Int32)) &&& (255 : Int64)).toInt32)), (.int (((XT.ushrL y1 (16 : Int32)) &&& (255 : Int64)).toInt32)), (.int (((XT.ushrL y1 (24 : Int32)) &&& (255 : Int64)).toInt32)), (.int (((XT.ushrL y1 (32 : Int32)) &&& (255 : Int64)).toInt32)), (.int (((XT.ushrL y1 (40 : Int32)) &&& (255 : Int64)).toInt32)), (.int (((XT.ushrL y1 (48 : Int32)) &&& (255 : Int64)).toInt32)), (.int (((XT.ushrL y1 (56 : Int32)) &&& (255 : Int64)).toInt32)), (.int ((y2 &&& (255 : Int64)).toInt32)), (.int (0 : Int32)), (.int (0 : Int32)), (.int (0 : Int32))] (.int 0) := A56
  show Go p e below _ (T54.setTop (mkF m 247 #[.val (.long y0), .second, .val (.long y1), .second, .val (.long y2), .second, .val (.int x0), .val (.ref a2), .unset, .unset] []))
  refine G.aload H54 at_247 (pc' := 249) rfl rfl rfl ?_
  refine G.bipush H54 at_249 (pc' := 251) rfl (v := (17 : Int32)) rfl ?_
  refine G.lload H54 at_251 (pc' := 253) rfl rfl ?_
  refine G.bipush H54 at_253 (pc' := 255) rfl (v := (8 : Int32)) rfl ?_
  refine G.lushr H54 at_255 (pc' := 256) rfl ?_
  refine G.ldc2J H54 (wd1 V) at_256 (pc' := 259) rfl ?_
  refine G.land H54 at_259 (pc' := 260) rfl ?_
  refine G.l2i H54 at_260 (pc' := 261) rfl ?_
  refine G.i2c H54 (y := (((XT.ushrL y2 (8 : Int32)) &&& (255 : Int64)).toInt32)) at_261 (pc' := 262) rfl (own_c16 (own_u16 (own_and255L _))) ?_
  refine G.stC H54 A56 (by decide) (i := 17) rfl (Nat.le_of_ble_eq_true rfl) na2 (y := (((XT.ushrL y2 (8 : Int32)) &&& (255 : Int64)).toInt32)) (own_narC (own_u16 (own_and255L _))) at_262 (pc' := 263) rfl ?_
  intro T57 h57_ H57 W58 A59
  replace A59 : Arv Z h57_ a2 k5 .char (20 : Int32) [(.int ((y0 &&& (255 : Int64)).toInt32)), (.int (((XT.ushrL y0 (8 : Int32)) &&& (255 : Int64)).toInt32)), (.int (((XT.ushrL y0 (16 : Int32)) &&& (255 : Int64)).toInt32)), (.int (((XT.ushrL y0 (24 : Int32)) &&& (255 : Int64)).toInt32)), (.int (((XT.ushrL y0 (32 : Int32)) &&& (255 : Int64)).toInt32)), (.int (((XT.ushrL y0 (40 : Int32)) &&& (255 : Int64)).toInt32)), (.int (((XT.ushrL y0 (48 : Int32)) &&& (255 : Int64)).toInt32)), (.int (((XT.ushrL y0 (56 : Int32)) &&& (255 : Int64)).toInt32)), (.int ((y1 &&& (255 : Int64)).toInt32)), (.int (((XT.ushrL y1 (8 : Int32)) &&& (255 : Int64)).toInt32)), (.int (((XT.ushrL y1 (16 : Int32)) &&& (255 : Int64)).toInt32)), (.int (((XT.ushrL y1 (24 : Int32)) &&& (255 : Int64)).toInt32)), (.int (((XT.ushrL y1 (32 : Int32)) &&& (255 : Int64)).toInt32)), (.int (((XT.ushrL y1 (40 : Int32)) &&& (255 : Int64)).toInt32)), (.int (((XT.ushrL y1 (48 : Int32)) &&& (255 : Int64)).toInt32)), (.int (((XT.ushrL y1 (56 : Int32)) &&& (255 : Int64)).toInt32)), (.int ((y2 &&& (255 : Int64)).toInt32)), (.int (((XT.ushrL y2 (8 : Int32)) &&& (255 : Int64)).toInt32)), (.int (0 : Int32)), (.int (0 : Int32))] (.int 0) := A59
  show Go p e below _ (T57.setTop (mkF m 263 #[.val (.long y0), .second, .val (.long y1), .second, .val (.long y2), .second, .val (.int x0), .val (.ref a2), .unset, .unset] []))
  refine G.aload H57 at_263 (pc' := 265) rfl rfl rfl ?_
  refine G.bipush H57 at_265 (pc' := 267) rfl (v := (18 : Int32)) rfl ?_
  refine G.lload H57 at_267 (pc' := 269) rfl rfl ?_
  refine G.bipush H57 at_269 (pc' := 271) rfl (v := (16 : Int32)) rfl ?_
  refine G.lushr H57 at_271 (pc' := 272) rfl ?_
  refine G.ldc2J H57 (wd1 V) at_272 (pc' := 275) rfl ?_
  refine G.land H57 at_275 (pc' := 276) rfl ?_
  refine G.l2i H57 at_276 (pc' := 277) rfl ?_
  refine G.i2c H57 (y := (((XT.ushrL y2 (16 : Int32)) &&& (255 : Int64)).toInt32)) at_277 (pc' := 278) rfl (own_c16 (own_u16 (own_and255L _))) ?_
  refine G.stC H57 A59 (by decide) (i := 18) rfl (Nat.le_of_ble_eq_true rfl) na2 (y := (((XT.ushrL y2 (16 : Int32)) &&& (255 : Int64)).toInt32)) (own_narC (own_u16 (own_and255L _))) at_278 (pc' := 279) rfl ?_
  intro T60 h60_ H60 W61 A62
  replace A62 : Arv Z h60_ a2 k5 .char (20 : Int32) [(.int ((y0 &&& (255 : Int64)).toInt32)), (.int (((XT.ushrL y0 (8 : Int32)) &&& (255 : Int64)).toInt32)), (.int (((XT.ushrL y0 (16 : Int32)) &&& (255 : Int64)).toInt32)), (.int (((XT.ushrL y0 (24 : Int32)) &&& (255 : Int64)).toInt32)), (.int (((XT.ushrL y0 (32 : Int32)) &&& (255 : Int64)).toInt32)), (.int (((XT.ushrL y0 (40 : Int32)) &&& (255 : Int64)).toInt32)), (.int (((XT.ushrL y0 (48 : Int32)) &&& (255 : Int64)).toInt32)), (.int (((XT.ushrL y0 (56 : Int32)) &&& (255 : Int64)).toInt32)), (.int ((y1 &&& (255 : Int64)).toInt32)), (.int (((XT.ushrL y1 (8 : Int32)) &&& (255 : Int64)).toInt32)), (.int (((XT.ushrL y1 (16 : Int32)) &&& (255 : Int64)).toInt32)), (.int (((XT.ushrL y1 (24 : Int32)) &&& (255 : Int64)).toInt32)), (.int (((XT.ushrL y1 (32 : Int32)) &&& (255 : Int64)).toInt32)), (.int (((XT.ushrL y1 (40 : Int32)) &&& (255 : Int64)).toInt32)), (.int (((XT.ushrL y1 (48 : Int32)) &&& (255 : Int64)).toInt32)), (.int (((XT.ushrL y1 (56 : Int32)) &&& (255 : Int64)).toInt32)), (.int ((y2 &&& (255 : Int64)).toInt32)), (.int (((XT.ushrL y2 (8 : Int32)) &&& (255 : Int64)).toInt32)), (.int (((XT.ushrL y2 (16 : Int32)) &&& (255 : Int64)).toInt32)), (.int (0 : Int32))] (.int 0) := A62
  show Go p e below _ (T60.setTop (mkF m 279 #[.val (.long y0), .second, .val (.long y1), .second, .val (.long y2), .second, .val (.int x0), .val (.ref a2), .unset, .unset] []))
  refine G.aload H60 at_279 (pc' := 281) rfl rfl rfl ?_
  refine G.bipush H60 at_281 (pc' := 283) rfl (v := (19 : Int32)) rfl ?_
  refine G.lload H60 at_283 (pc' := 285) rfl rfl ?_
  refine G.bipush H60 at_285 (pc' := 287) rfl (v := (24 : Int32)) rfl ?_
  refine G.lushr H60 at_287 (pc' := 288) rfl ?_
  refine G.ldc2J H60 (wd1 V) at_288 (pc' := 291) rfl ?_
  refine G.land H60 at_291 (pc' := 292) rfl ?_
  refine G.l2i H60 at_292 (pc' := 293) rfl ?_
  refine G.i2c H60 (y := (((XT.ushrL y2 (24 : Int32)) &&& (255 : Int64)).toInt32)) at_293 (pc' := 294) rfl (own_c16 (own_u16 (own_and255L _))) ?_
  refine G.stC H60 A62 (by decide) (i := 19) rfl (Nat.le_of_ble_eq_true rfl) na2 (y := (((XT.ushrL y2 (24 : Int32)) &&& (255 : Int64)).toInt32)) (own_narC (own_u16 (own_and255L _))) at_294 (pc' := 295) rfl ?_
  intro T63 h63_ H63 W64 A65
  replace A65 : Arv Z h63_ a2 k5 .char (20 : Int32) [(.int ((y0 &&& (255 : Int64)).toInt32)), (.int (((XT.ushrL y0 (8 : Int32)) &&& (255 : Int64)).toInt32)), (.int (((XT.ushrL y0 (16 : Int32)) &&& (255 : Int64)).toInt32)), (.int (((XT.ushrL y0 (24 : Int32)) &&& (255 : Int64)).toInt32)), (.int (((XT.ushrL y0 (32 : Int32)) &&& (255 : Int64)).toInt32)), (.int (((XT.ushrL y0 (40 : Int32)) &&& (255 : Int64)).toInt32)), (.int (((XT.ushrL y0 (48 : Int32)) &&& (255 : Int64)).toInt32)), (.int (((XT.ushrL y0 (56 : Int32)) &&& (255 : Int64)).toInt32)), (.int ((y1 &&& (255 : Int64)).toInt32)), (.int (((XT.ushrL y1 (8 : Int32)) &&& (255 : Int64)).toInt32)), (.int (((XT.ushrL y1 (16 : Int32)) &&& (255 : Int64)).toInt32)), (.int (((XT.ushrL y1 (24 : Int32)) &&& (255 : Int64)).toInt32)), (.int (((XT.ushrL y1 (32 : Int32)) &&& (255 : Int64)).toInt32)), (.int (((XT.ushrL y1 (40 : Int32)) &&& (255 : Int64)).toInt32)), (.int (((XT.ushrL y1 (48 : Int32)) &&& (255 : Int64)).toInt32)), (.int (((XT.ushrL y1 (56 : Int32)) &&& (255 : Int64)).toInt32)), (.int ((y2 &&& (255 : Int64)).toInt32)), (.int (((XT.ushrL y2 (8 : Int32)) &&& (255 : Int64)).toInt32)), (.int (((XT.ushrL y2 (16 : Int32)) &&& (255 : Int64)).toInt32)), (.int (((XT.ushrL y2 (24 : Int32)) &&& (255 : Int64)).toInt32))] (.int 0) := A65
  show Go p e below _ (T63.setTop (mkF m 295 #[.val (.long y0), .second, .val (.long y1), .second, .val (.long y2), .second, .val (.int x0), .val (.ref a2), .unset, .unset] []))
  refine G.iload H63 at_295 (pc' := 297) rfl rfl ?_
  refine G.ldcI H63 (wd2 V) at_297 (pc' := 299) rfl ?_
  refine G.iand H63 at_299 (pc' := 300) rfl ?_
  refine G.bipush H63 at_300 (pc' := 302) rfl (v := (21 : Int32)) rfl ?_
  refine G.irem H63 at_302 (pc' := 303) rfl (by decide) ?_
  refine G.istore H63 (L' := #[.val (.long y0), .second, .val (.long y1), .second, .val (.long y2), .second, .val (.int x0), .val (.ref a2), .val (.int ((x0 &&& (2147483647 : Int32)) % (21 : Int32))), .unset]) at_303 (pc' := 305) rfl rfl ?_
  exact cut68_305 V y0 y1 y2 x0 a2 ((x0 &&& (2147483647 : Int32)) % (21 : Int32)) k5 ((y0 &&& (255 : Int64)).toInt32) (((XT.ushrL y0 (8 : Int32)) &&& (255 : Int64)).toInt32) (((XT.ushrL y0 (16 : Int32)) &&& (255 : Int64)).toInt32) (((XT.ushrL y0 (24 : Int32)) &&& (255 : Int64)).toInt32) (((XT.ushrL y0 (32 : Int32)) &&& (255 : Int64)).toInt32) (((XT.ushrL y0 (40 : Int32)) &&& (255 : Int64)).toInt32) (((XT.ushrL y0 (48 : Int32)) &&& (255 : Int64)).toInt32) (((XT.ushrL y0 (56 : Int32)) &&& (255 : Int64)).toInt32) ((y1 &&& (255 : Int64)).toInt32) (((XT.ushrL y1 (8 : Int32)) &&& (255 : Int64)).toInt32) (((XT.ushrL y1 (16 : Int32)) &&& (255 : Int64)).toInt32) (((XT.ushrL y1 (24 : Int32)) &&& (255 : Int64)).toInt32) (((XT.ushrL y1 (32 : Int32)) &&& (255 : Int64)).toInt32) (((XT.ushrL y1 (40 : Int32)) &&& (255 : Int64)).toInt32) (((XT.ushrL y1 (48 : Int32)) &&& (255 : Int64)).toInt32) (((XT.ushrL y1 (56 : Int32)) &&& (255 : Int64)).toInt32) ((y2 &&& (255 : Int64)).toInt32) (((XT.ushrL y2 (8 : Int32)) &&& (255 : Int64)).toInt32) (((XT.ushrL y2 (16 : Int32)) &&& (255 : Int64)).toInt32) (((XT.ushrL y2 (24 : Int32)) &&& (255 : Int64)).toInt32) ((H63.less all0).mono (C' := 1) (S' := 20) (by decide) (by decide)) (own_k21 _) A65 (own_u16 (own_and255L _)) (own_and255L _) (own_u16 (own_and255L _)) (own_and255L _) (own_u16 (own_and255L _)) (own_and255L _) (own_u16 (own_and255L _)) (own_and255L _) (own_u16 (own_and255L _)) (own_and255L _) (own_u16 (own_and255L _)) (own_and255L _) (own_u16 (own_and255L _)) (own_and255L _) (own_u16 (own_and255L _)) (own_and255L _) (own_u16 (own_and255L _)) (own_and255L _) (own_u16 (own_and255L _)) (own_and255L _) (own_u16 (own_and255L _)) (own_and255L _) (own_u16 (own_and255L _)) (own_and255L _) (own_u16 (own_and255L _)) (own_and255L _) (own_u16 (own_and255L _)) (own_and255L _) (own_u16 (own_and255L _)) (own_and255L _) (own_u16 (own_and255L _)) (own_and255L _) (own_u16 (own_and255L _)) (own_and255L _) (own_u16 (own_and255L _)) (own_and255L _) (own_u16 (own_and255L _)) (own_and255L _) (own_u16 (own_and255L _)) (own_and255L _)

set_option maxRecDepth 65536 in
set_option maxHeartbeats 40000000 in
theorem comes_1 {Post : Tables → Env → Array Value → State → Outcome → State → Prop} (hpost : ∀ tb e args s v u, (limb_1_1.after args s (.returned v) u = true ∧ limb_1_2.after args s (.returned v) u = true ∧ True) → ReturnedEndW s (.returned v) u (Jvm.fieldLocs frame_1_writes args s ++ Jvm.arrayLocs frame_1_arrays args s ++ Jvm.staticLocs frame_1_statics s) 24 2304 → Post tb e args s (.returned v) u) :
    ArmFor flags0 classFile x code maxLocals ret World_1 tables_1 room_1 Calls_1 rest_1 Pre_1 Post := by
  intro l hfl _ _ p e ha hc hk s m args below hf hA hF happ hP
  obtain ⟨hcalls, hrest, hpre⟩ := hP
  obtain ⟨-, -, -, hnamed, -, -, -, hat⟩ := (Spec.applies_iff hf).mp happ
  obtain ⟨hg, hn⟩ := and_e (Cond.before_iff.mp (show (Jvm.Cond.and given_1 narrow_1).before args s = true from hpre))
  obtain ⟨hg0, hg1⟩ := and_e hg
  obtain ⟨ha0, hg2⟩ := and_e hg1
  obtain ⟨ha1, hg3⟩ := and_e hg2
  obtain ⟨ha2, hg4⟩ := and_e hg3
  have ha3 := hg4
  obtain ⟨w0, w1, w2, w3, rfl⟩ : ∃ w0 w1 w2 w3 : Value, args = #[w0, w1, w2, w3] := by
    have hs : args.size = 4 := by simpa [Cond.value, given_1] using hg0
    obtain ⟨L⟩ := args
    match L, hs with
    | [w0, w1, w2, w3], _ => exact ⟨w0, w1, w2, w3, rfl⟩
  have hw := fun d (hd : d ∈ tables_1) => atoms_spec (ws := Jvm.Cond.code x code maxLocals ret :: tables_1) hat d (List.mem_cons_of_mem _ hd)
  obtain ⟨hsets, hown0⟩ := atoms_of _ (rest_1_c_eq ▸ (show rest_1_c.before _ s = true from hrest))
  have hr0 := Cond.before_iff.mp hown0
  have hfit : Fit s := fun {y c} hc i hi => by
    obtain ⟨ha, rfl⟩ := Array.getElem?_eq_some_iff.mp hc
    have q := List.all_eq_true.mp ((Array.all_eq_true_iff_forall_mem.mp hF) _ (Array.getElem_mem ha)) i (List.mem_range.mpr hi)
    simpa [Array.getElem?_eq_getElem hi] using q
  obtain ⟨i0, e0⟩ := isL_v ha0
  obtain rfl : w0 = (.long i0) := Option.some.inj e0
  obtain ⟨i1, e1⟩ := isL_v ha1
  obtain rfl : w1 = (.long i1) := Option.some.inj e1
  obtain ⟨i2, e2⟩ := isL_v ha2
  obtain rfl : w2 = (.long i2) := Option.some.inj e2
  obtain ⟨i3, e3⟩ := is_v ha3
  obtain rfl : w3 = (.int i3) := Option.some.inj e3
  obtain ⟨z_COMPACT_STRINGS, ez_COMPACT_STRINGS⟩ := is_v (Cond.before_iff.mp (hsets _ (List.mem_of_getElem? (i := 1) rfl)))
  have s_COMPACT_STRINGS := Sta.start ez_COMPACT_STRINGS (Or.inl (hsets _ (List.mem_of_getElem? (i := 0) rfl)))
  have cz : ¬ (z_COMPACT_STRINGS = (0 : Int32)) := gotF (Cond.eq_ints ez_COMPACT_STRINGS (Term.int_eval (0))) (not_v (Cond.before_iff.mp (hsets _ (List.mem_of_getElem? (i := 2) rfl))))
  obtain ⟨z_SIOOBE_FORMATTER, ez_SIOOBE_FORMATTER, r_SIOOBE_FORMATTER⟩ := isR_v (Cond.before_iff.mp (hsets _ (List.mem_of_getElem? (i := 8) rfl)))
  have s_SIOOBE_FORMATTER := Sta.start ez_SIOOBE_FORMATTER (Or.inl (hsets _ (List.mem_of_getElem? (i := 7) rfl)))
  have V : Env1 s _ s.heap.size z_COMPACT_STRINGS z_SIOOBE_FORMATTER := ⟨hw, (EW.cons (hw _ (List.mem_of_getElem? (i := 50) rfl)) (by decide) (EW.cons (hw _ (List.mem_of_getElem? (i := 53) rfl)) (by decide) EW.nil)), s_COMPACT_STRINGS, cz, s_SIOOBE_FORMATTER, r_SIOOBE_FORMATTER, trivial⟩
  have hCH : CHv s ELs s.vm s.heap := CHv.start (EWl V) (fun q hq => hcalls.1 q hq) (hsets _ (List.mem_of_getElem? (i := 2) rfl)) (hw _ (List.mem_of_getElem? (i := 25) rfl)) (hw _ (List.mem_of_getElem? (i := 4) rfl))
  obtain ⟨n, o, g1, g2, g3, v, L, so, rfl, rfl, -, N, -, -, hq, hq2⟩ := rmLaw (l := l) V i0 i1 i2 i3 s.heap (Old.start s) tables_1 p e ha hc hk s m _ below hf ((Spec.applies_iff_loose hf).mp happ).1 ⟨rfl, State.Warmed39.refl s, rfl, hCH, fun _ q => nomatch q⟩ trivial
  refine ⟨n, _, g1, g2, g3, hpost _ _ _ _ _ _ ⟨Cond.after_iff.mpr rfl, Cond.after_iff.mpr (eq_i res_at (Term.int_eval (1)) rfl), trivial⟩ ⟨hq.1, hq.2.1, hq.2.2.1, (hq.2.2.2.sift fun y hy => Or.inr (N y hy)).mono (by decide) (by decide)⟩⟩
theorem main_1_1 : Claimed_1_1 := comes_1 fun _ _ _ _ _ _ h hF => ⟨h.1, hF⟩
theorem main_1_2 : Claimed_1_2 := comes_1 fun _ _ _ _ _ _ h hF => ⟨h.2.1, hF⟩
end Jvm.Pilot.@@N@@
namespace Jvm.Pilot.@@N@@
open Jvm Jvm.ClassFile Sem Op Lib Jvm.Free Jvm.Stand Jvm.Pilot.@@N@@.Jvm.D
/-! MADE BY PROGRAM (witnessworld.py) out of the Statement's table words and the real class files: 20 classes; the members and pool entries that the words name. The judged class is class 1, her method 1. -/
namespace start1
open Jvm.ClassFile
def u (s : String) : CpInfo := .utf8 (stringToUtf16 s)
/-- a pool by its gaps: so many unusable entries, then the entry; so many at the end -/
def gap : Nat → List CpInfo → List CpInfo
  | 0, r => r
  | n + 1, r => .unusable :: gap n r
def poolList (es : List (Nat × CpInfo)) (last : Nat) : List CpInfo := es.foldr (fun e r => gap e.1 (e.2 :: r)) (gap last [])
def pool (es : List (Nat × CpInfo)) (last : Nat) : Array CpInfo := ⟨poolList es last⟩
def fileOf (pool : Array CpInfo) (this : Nat) (attrs : Array Attribute := #[]) (ms : Array MethodInfo := #[]) (fl : Nat := 33) (sup : Nat := 0) (ifs : Array Nat := #[]) (fds : Array FieldInfo := #[]) : ClassFile where
  minorVersion := 0
  majorVersion := 65
  constantPool := pool
  accessFlags := fl
  thisClass := this
  superClass := sup
  interfaces := ifs
  fields := fds
  methods := ms
  attributes := attrs
def plain (name : String) (sup : Option ClassId) : Class where
  name := name
  kind := .ordinary
  loader := none
  accessFlags := 33
  super := sup
  interfaces := #[]
  cf := none
  fields := #[]
  methods := #[]
  instanceTypes := #[]
  staticTypes := #[]
  resolved := #[]
  callSites := []
  init := .initialized
  statics := none
  mirror := none

def pool0 : Array CpInfo := pool [(5, u "<init>"), (0, u "()V"), (1, .class_ 10), (1, u "java/lang/Object")] 113

def k0c0 : Code := { maxStack := 0, maxLocals := 1, code := object_method_1_code, exceptionTable := #[], attributes := #[] }
def k0m0 : Method := { name := "<init>", desc := "()V", sig := { parameters := [], returnType := none }, accessFlags := 1, code := some k0c0 }
/-- java/lang/Object -/
def k0 : Class := { plain "java/lang/Object" none with
  accessFlags := 33
  interfaces := #[]
  cf := some (fileOf pool0 8 #[] #[{ accessFlags := 1, nameIndex := 5, descriptorIndex := 6, attributes := #[] }] 33 0 #[] #[])
  fields := #[]
  methods := #[k0m0]
  instanceTypes := #[]
  staticTypes := #[]
  resolved := Array.replicate 124 none
  statics := none }

def pool1 : Array CpInfo := pool [(2, .class_ 4), (1, u "java/lang/Object"), (0, u "<init>"), (0, u "()V"), (0, .long 255), (1, .integer 2147483647), (0, .class_ 11), (0, u "java/lang/String"), (0, .methodref 13 14), (0, .class_ 15), (0, .nameAndType 16 17), (0, u "com/example/tenure/tenure/DaysUntimedPinLaw"), (0, u "prefix"), (0, u "([CI)[C"), (0, .methodref 10 19), (0, .nameAndType 5 20), (0, u "([C)V"), (0, .methodref 22 23), (0, .class_ 24), (0, .nameAndType 25 26), (0, u "com/example/tenure/tenure/Days"), (0, u "untimed"), (0, u "(Ljava/lang/String;)Z"), (2, u "law"), (0, u "(JJJI)Z")] 5

def k1m0 : Method := { name := "<init>", desc := "()V", sig := { parameters := [], returnType := none }, accessFlags := 2, code := none }
def k1c1 : Code := { maxStack := 6, maxLocals := 10, code := code, exceptionTable := #[], attributes := #[] }
def k1m1 : Method := { name := "law", desc := "(JJJI)Z", sig := { parameters := [.long, .long, .long, .int], returnType := some .boolean }, accessFlags := 9, code := some k1c1 }
def k1c2 : Code := { maxStack := 4, maxLocals := 3, code := method_3_code, exceptionTable := #[], attributes := #[] }
def k1m2 : Method := { name := "prefix", desc := "([CI)[C", sig := { parameters := [(.array .char), .int], returnType := some (.array .char) }, accessFlags := 10, code := some k1c2 }
/-- com/example/tenure/tenure/DaysUntimedPinLaw -/
def k1 : Class := { plain "com/example/tenure/tenure/DaysUntimedPinLaw" (some 0) with
  accessFlags := 49
  interfaces := #[]
  cf := some (fileOf pool1 13 #[] #[{ accessFlags := 2, nameIndex := 5, descriptorIndex := 6, attributes := #[] }, { accessFlags := 9, nameIndex := 29, descriptorIndex := 30, attributes := #[] }, { accessFlags := 10, nameIndex := 16, descriptorIndex := 17, attributes := #[] }] 49 2 #[] #[])
  fields := #[]
  methods := #[k1m0, k1m1, k1m2]
  instanceTypes := #[]
  staticTypes := #[]
  resolved := Array.replicate 36 none
  statics := none }

def pool2 : Array CpInfo := pool [(1, .class_ 2), (0, u "java/io/Serializable"), (0, .class_ 4), (0, u "java/lang/Object")] 2

/-- java/io/Serializable -/
def k2 : Class := { plain "java/io/Serializable" (some 0) with
  accessFlags := 1537
  interfaces := #[]
  cf := some (fileOf pool2 1 #[] #[] 1537 3 #[] #[])
  fields := #[]
  methods := #[]
  instanceTypes := #[]
  staticTypes := #[]
  resolved := Array.replicate 7 none
  statics := none }

def pool3 : Array CpInfo := pool [(1, .class_ 2), (0, u "java/lang/Comparable"), (0, .class_ 4), (0, u "java/lang/Object")] 7

/-- java/lang/Comparable -/
def k3 : Class := { plain "java/lang/Comparable" (some 0) with
  accessFlags := 1537
  interfaces := #[]
  cf := some (fileOf pool3 1 #[] #[] 1537 3 #[] #[])
  fields := #[]
  methods := #[]
  instanceTypes := #[]
  staticTypes := #[]
  resolved := Array.replicate 12 none
  statics := none }

def pool4 : Array CpInfo := pool [(2, .class_ 4), (1, u "java/lang/CharSequence"), (42, .class_ 48), (0, u "java/lang/CharSequence$1CodePointIterator"), (10, .class_ 60), (0, u "java/lang/CharSequence$1CharIterator"), (5, .class_ 67), (0, u "java/lang/Object")] 63

/-- java/lang/CharSequence -/
def k4 : Class := { plain "java/lang/CharSequence" (some 0) with
  accessFlags := 1537
  interfaces := #[]
  cf := some (fileOf pool4 2 #[.nestMembers #[47, 59]] #[] 1537 66 #[] #[])
  fields := #[]
  methods := #[]
  instanceTypes := #[]
  staticTypes := #[]
  resolved := Array.replicate 131 none
  statics := none }

def pool5 : Array CpInfo := pool [(1, .class_ 2), (0, u "java/lang/constant/Constable"), (0, .class_ 4), (0, u "java/lang/Object")] 6

/-- java/lang/constant/Constable -/
def k5 : Class := { plain "java/lang/constant/Constable" (some 0) with
  accessFlags := 1537
  interfaces := #[]
  cf := some (fileOf pool5 1 #[] #[] 1537 3 #[] #[])
  fields := #[]
  methods := #[]
  instanceTypes := #[]
  staticTypes := #[]
  resolved := Array.replicate 11 none
  statics := none }

def pool6 : Array CpInfo := pool [(1, .class_ 2), (0, u "java/lang/constant/ConstantDesc"), (0, .class_ 4), (0, u "java/lang/Object")] 32

/-- java/lang/constant/ConstantDesc -/
def k6 : Class := { plain "java/lang/constant/ConstantDesc" (some 0) with
  accessFlags := 1537
  interfaces := #[]
  cf := some (fileOf pool6 1 #[] #[] 1537 3 #[] #[])
  fields := #[]
  methods := #[]
  instanceTypes := #[]
  staticTypes := #[]
  resolved := Array.replicate 37 none
  statics := none }

def pool7 : Array CpInfo := pool [(1, .methodref 2 3), (0, .class_ 4), (0, .nameAndType 5 6), (0, u "java/lang/Object"), (0, u "<init>"), (0, u "()V"), (0, .string 8), (0, u ""), (0, .fieldref 10 11), (0, .class_ 12), (0, .nameAndType 13 14), (0, u "java/lang/String"), (0, u "value"), (0, u "[B"), (0, .fieldref 10 16), (0, .nameAndType 17 18), (0, u "coder"), (0, u "B"), (2, u "hash"), (0, u "I"), (2, u "hashIsZero"), (0, u "Z"), (0, .methodref 10 28), (0, .nameAndType 5 29), (0, u "([CIILjava/lang/Void;)V"), (8, .fieldref 10 39), (0, .nameAndType 40 26), (0, u "COMPACT_STRINGS"), (1, .class_ 44), (1, u "java/lang/StringUTF16"), (0, u "compress"), (1, .methodref 42 48), (0, .nameAndType 49 50), (0, u "coderFromArrayLen"), (0, u "([BI)B"), (126, .methodref 42 178), (0, .nameAndType 45 179), (0, u "([CII)[B"), (154, u "()I"), (0, .methodref 10 336), (0, .nameAndType 17 337), (0, u "()B"), (169, u "length"), (67, .class_ 576), (0, u "java/lang/CharSequence"), (22, u "CASE_INSENSITIVE_ORDER"), (0, u "Ljava/util/Comparator;"), (409, u "([C)V"), (90, u "serialPersistentFields"), (0, u "[Ljava/io/ObjectStreamField;"), (0, .class_ 1104), (0, u "java/lang/String$CaseInsensitiveComparator"), (1, .class_ 1107), (0, u "java/io/Serializable"), (0, .class_ 1109), (0, u "java/lang/Comparable"), (0, .class_ 1111), (0, u "java/lang/constant/Constable"), (0, .class_ 1113), (0, u "java/lang/constant/ConstantDesc"), (2, u "serialVersionUID"), (0, u "J"), (3, u "REPL"), (0, u "C"), (2, u "LATIN1"), (1, u "UTF16")] 323

def k7m0 : Method := { name := "<init>", desc := "()V", sig := { parameters := [], returnType := none }, accessFlags := 1, code := none }
def k7c1 : Code := { maxStack := 5, maxLocals := 2, code := jdk_42_method_3_code, exceptionTable := #[], attributes := #[] }
def k7m1 : Method := { name := "<init>", desc := "([C)V", sig := { parameters := [(.array .char)], returnType := none }, accessFlags := 1, code := some k7c1 }
def k7c2 : Code := { maxStack := 2, maxLocals := 1, code := jdk_42_method_54_code, exceptionTable := #[], attributes := #[] }
def k7m2 : Method := { name := "length", desc := "()I", sig := { parameters := [], returnType := some .int }, accessFlags := 1, code := some k7c2 }
def k7c3 : Code := { maxStack := 4, maxLocals := 6, code := jdk_42_method_149_code, exceptionTable := #[], attributes := #[] }
def k7m3 : Method := { name := "<init>", desc := "([CIILjava/lang/Void;)V", sig := { parameters := [(.array .char), .int, .int, (.object "java/lang/Void")], returnType := none }, accessFlags := 2, code := some k7c3 }
def k7c4 : Code := { maxStack := 1, maxLocals := 1, code := jdk_42_method_152_code, exceptionTable := #[], attributes := #[] }
def k7m4 : Method := { name := "coder", desc := "()B", sig := { parameters := [], returnType := some .byte }, accessFlags := 0, code := some k7c4 }
/-- java/lang/String -/
def k7 : Class := { plain "java/lang/String" (some 0) with
  accessFlags := 49
  interfaces := #[2, 3, 4, 5, 6]
  cf := some (fileOf pool7 10 #[.nestMembers #[1103]] #[{ accessFlags := 1, nameIndex := 5, descriptorIndex := 6, attributes := #[] }, { accessFlags := 1, nameIndex := 5, descriptorIndex := 1010, attributes := #[] }, { accessFlags := 1, nameIndex := 507, descriptorIndex := 334, attributes := #[] }, { accessFlags := 2, nameIndex := 5, descriptorIndex := 29, attributes := #[] }, { accessFlags := 0, nameIndex := 17, descriptorIndex := 337, attributes := #[] }] 49 2 #[1106, 1108, 575, 1110, 1112] #[{ accessFlags := 18, nameIndex := 13, descriptorIndex := 14, attributes := #[] }, { accessFlags := 18, nameIndex := 17, descriptorIndex := 18, attributes := #[] }, { accessFlags := 2, nameIndex := 21, descriptorIndex := 22, attributes := #[] }, { accessFlags := 2, nameIndex := 25, descriptorIndex := 26, attributes := #[] }, { accessFlags := 26, nameIndex := 1116, descriptorIndex := 1117, attributes := #[] }, { accessFlags := 24, nameIndex := 40, descriptorIndex := 26, attributes := #[] }, { accessFlags := 26, nameIndex := 1101, descriptorIndex := 1102, attributes := #[] }, { accessFlags := 26, nameIndex := 1121, descriptorIndex := 1122, attributes := #[] }, { accessFlags := 25, nameIndex := 599, descriptorIndex := 600, attributes := #[] }, { accessFlags := 24, nameIndex := 1125, descriptorIndex := 18, attributes := #[] }, { accessFlags := 24, nameIndex := 1127, descriptorIndex := 18, attributes := #[] }])
  fields := #[{ name := "value", type := (.array .byte), accessFlags := 18, slot := 0, constantValue := 0 }, { name := "coder", type := .byte, accessFlags := 18, slot := 1, constantValue := 0 }, { name := "hash", type := .int, accessFlags := 2, slot := 2, constantValue := 0 }, { name := "hashIsZero", type := .boolean, accessFlags := 2, slot := 3, constantValue := 0 }, { name := "serialVersionUID", type := .long, accessFlags := 26, slot := 0, constantValue := 0 }, { name := "COMPACT_STRINGS", type := .boolean, accessFlags := 24, slot := 1, constantValue := 0 }, { name := "serialPersistentFields", type := (.array (.object "java/io/ObjectStreamField")), accessFlags := 26, slot := 2, constantValue := 0 }, { name := "REPL", type := .char, accessFlags := 26, slot := 3, constantValue := 0 }, { name := "CASE_INSENSITIVE_ORDER", type := (.object "java/util/Comparator"), accessFlags := 25, slot := 4, constantValue := 0 }, { name := "LATIN1", type := .byte, accessFlags := 24, slot := 5, constantValue := 0 }, { name := "UTF16", type := .byte, accessFlags := 24, slot := 6, constantValue := 0 }]
  methods := #[k7m0, k7m1, k7m2, k7m3, k7m4]
  instanceTypes := #[(.array .byte), .byte, .int, .boolean]
  staticTypes := #[.long, .boolean, (.array (.object "java/io/ObjectStreamField")), .char, (.object "java/util/Comparator"), .byte, .byte]
  resolved := Array.replicate 1451 none
  statics := some 0 }

def pool8 : Array CpInfo := pool [(6, .class_ 8), (1, u "java/lang/Object"), (0, u "<init>"), (0, u "()V"), (1, .class_ 14), (1, u "java/lang/StringUTF16"), (31, u "$assertionsDisabled"), (0, u "Z"), (13, u "HI_BYTE_SHIFT"), (0, u "I"), (2, u "LO_BYTE_SHIFT"), (49, .methodref 12 116), (0, .nameAndType 117 118), (0, u "compress"), (0, u "([CI[BII)I"), (3, u "([CII)[B"), (138, u "coderFromArrayLen"), (0, u "([BI)B"), (106, .class_ 371), (1, u "java/lang/StringUTF16$LinesSpliterator"), (58, u "MAX_LENGTH"), (196, .class_ 628), (0, u "java/lang/StringUTF16$CodePointsSpliterator"), (0, .class_ 630), (0, u "java/lang/StringUTF16$CharsSpliterator")] 4

def k8m0 : Method := { name := "<init>", desc := "()V", sig := { parameters := [], returnType := none }, accessFlags := 0, code := none }
def k8c1 : Code := { maxStack := 2, maxLocals := 2, code := jdk_52_method_15_code, exceptionTable := #[], attributes := #[] }
def k8m1 : Method := { name := "coderFromArrayLen", desc := "([BI)B", sig := { parameters := [(.array .byte), .int], returnType := some .byte }, accessFlags := 8, code := some k8c1 }
def k8c2 : Code := { maxStack := 5, maxLocals := 6, code := jdk_52_method_16_code, exceptionTable := #[], attributes := #[] }
def k8m2 : Method := { name := "compress", desc := "([CII)[B", sig := { parameters := [(.array .char), .int, .int], returnType := some (.array .byte) }, accessFlags := 9, code := some k8c2 }
def k8c3 : Code := { maxStack := 3, maxLocals := 7, code := jdk_52_method_21_code, exceptionTable := #[], attributes := #[] }
def k8m3 : Method := { name := "compress", desc := "([CI[BII)I", sig := { parameters := [(.array .char), .int, (.array .byte), .int, .int], returnType := some .int }, accessFlags := 9, code := some k8c3 }
/-- java/lang/StringUTF16 -/
def k8 : Class := { plain "java/lang/StringUTF16" (some 0) with
  accessFlags := 48
  interfaces := #[]
  cf := some (fileOf pool8 12 #[.nestMembers #[627, 629, 369]] #[{ accessFlags := 0, nameIndex := 9, descriptorIndex := 10, attributes := #[] }, { accessFlags := 8, nameIndex := 261, descriptorIndex := 262, attributes := #[] }, { accessFlags := 9, nameIndex := 117, descriptorIndex := 122, attributes := #[] }, { accessFlags := 9, nameIndex := 117, descriptorIndex := 118, attributes := #[] }] 48 6 #[] #[{ accessFlags := 26, nameIndex := 61, descriptorIndex := 62, attributes := #[] }, { accessFlags := 26, nameIndex := 65, descriptorIndex := 62, attributes := #[] }, { accessFlags := 24, nameIndex := 430, descriptorIndex := 62, attributes := #[] }, { accessFlags := 4120, nameIndex := 46, descriptorIndex := 47, attributes := #[] }])
  fields := #[{ name := "HI_BYTE_SHIFT", type := .int, accessFlags := 26, slot := 0, constantValue := 0 }, { name := "LO_BYTE_SHIFT", type := .int, accessFlags := 26, slot := 1, constantValue := 0 }, { name := "MAX_LENGTH", type := .int, accessFlags := 24, slot := 2, constantValue := 0 }, { name := "$assertionsDisabled", type := .boolean, accessFlags := 4120, slot := 3, constantValue := 0 }]
  methods := #[k8m0, k8m1, k8m2, k8m3]
  instanceTypes := #[]
  staticTypes := #[.int, .int, .int, .boolean]
  resolved := Array.replicate 635 none
  statics := none }

def pool9 : Array CpInfo := pool [(1, .class_ 2), (0, u "com/example/tenure/tenure/Days"), (1, .class_ 6), (1, u "java/lang/Object"), (0, u "<init>"), (0, u "()V"), (2, u "untimed"), (0, u "(Ljava/lang/String;)Z"), (2, .string 16), (0, u "0000-00-00"), (19, u "TIME_START"), (0, u "I"), (5, .class_ 45), (1, u "java/lang/String"), (6, .methodref 43 53), (0, .nameAndType 54 55), (0, u "length"), (0, u "()I"), (2, u "START"), (0, u "Ljava/time/LocalDate;"), (8, u "END"), (15, u "SPAN"), (0, u "Ljava/lang/String;"), (16, u "FORMS"), (3, u "DAY_FORM"), (0, u "DAY_AND_TIME_FORM"), (12, .class_ 121), (0, u "com/example/tenure/tenure/Days$Texts")] 28

def k9m0 : Method := { name := "<init>", desc := "()V", sig := { parameters := [], returnType := none }, accessFlags := 2, code := none }
def k9c1 : Code := { maxStack := 2, maxLocals := 1, code := prog_14_method_4_code, exceptionTable := #[], attributes := #[] }
def k9m1 : Method := { name := "untimed", desc := "(Ljava/lang/String;)Z", sig := { parameters := [(.object "java/lang/String")], returnType := some .boolean }, accessFlags := 8, code := some k9c1 }
/-- com/example/tenure/tenure/Days -/
def k9 : Class := { plain "com/example/tenure/tenure/Days" (some 0) with
  accessFlags := 49
  interfaces := #[]
  cf := some (fileOf pool9 1 #[.nestMembers #[120]] #[{ accessFlags := 2, nameIndex := 7, descriptorIndex := 8, attributes := #[] }, { accessFlags := 8, nameIndex := 11, descriptorIndex := 12, attributes := #[] }] 49 4 #[] #[{ accessFlags := 25, nameIndex := 58, descriptorIndex := 59, attributes := #[] }, { accessFlags := 25, nameIndex := 68, descriptorIndex := 59, attributes := #[] }, { accessFlags := 25, nameIndex := 102, descriptorIndex := 85, attributes := #[] }, { accessFlags := 24, nameIndex := 84, descriptorIndex := 85, attributes := #[] }, { accessFlags := 26, nameIndex := 106, descriptorIndex := 85, attributes := #[] }, { accessFlags := 26, nameIndex := 107, descriptorIndex := 85, attributes := #[] }, { accessFlags := 26, nameIndex := 36, descriptorIndex := 37, attributes := #[] }])
  fields := #[{ name := "START", type := (.object "java/time/LocalDate"), accessFlags := 25, slot := 0, constantValue := 0 }, { name := "END", type := (.object "java/time/LocalDate"), accessFlags := 25, slot := 1, constantValue := 0 }, { name := "FORMS", type := (.object "java/lang/String"), accessFlags := 25, slot := 2, constantValue := 0 }, { name := "SPAN", type := (.object "java/lang/String"), accessFlags := 24, slot := 3, constantValue := 0 }, { name := "DAY_FORM", type := (.object "java/lang/String"), accessFlags := 26, slot := 4, constantValue := 0 }, { name := "DAY_AND_TIME_FORM", type := (.object "java/lang/String"), accessFlags := 26, slot := 5, constantValue := 0 }, { name := "TIME_START", type := .int, accessFlags := 26, slot := 6, constantValue := 0 }]
  methods := #[k9m0, k9m1]
  instanceTypes := #[]
  staticTypes := #[(.object "java/time/LocalDate"), (.object "java/time/LocalDate"), (.object "java/lang/String"), (.object "java/lang/String"), (.object "java/lang/String"), (.object "java/lang/String"), .int]
  resolved := Array.replicate 150 none
  statics := none }

def pool10 : Array CpInfo := pool [(4, .class_ 6), (1, u "java/lang/Object"), (0, u "<init>"), (0, u "()V"), (5, .class_ 16), (1, u "java/lang/StringLatin1"), (104, u "$assertionsDisabled"), (0, u "Z"), (98, .class_ 223), (1, u "java/lang/StringLatin1$LinesSpliterator"), (166, .class_ 391), (0, u "java/lang/StringLatin1$CharsSpliterator")] 3

def k10m0 : Method := { name := "<init>", desc := "()V", sig := { parameters := [], returnType := none }, accessFlags := 0, code := none }
/-- java/lang/StringLatin1 -/
def k10 : Class := { plain "java/lang/StringLatin1" (some 0) with
  accessFlags := 48
  interfaces := #[]
  cf := some (fileOf pool10 14 #[.nestMembers #[390, 221]] #[{ accessFlags := 0, nameIndex := 7, descriptorIndex := 8, attributes := #[] }] 48 4 #[] #[{ accessFlags := 4120, nameIndex := 121, descriptorIndex := 122, attributes := #[] }])
  fields := #[{ name := "$assertionsDisabled", type := .boolean, accessFlags := 4120, slot := 0, constantValue := 0 }]
  methods := #[k10m0]
  instanceTypes := #[]
  staticTypes := #[.boolean]
  resolved := Array.replicate 395 none
  statics := none }

def pool11 : Array CpInfo := pool [(2, .class_ 4), (1, u "java/lang/Object"), (0, u "<init>"), (0, u "()V"), (17, .class_ 26), (1, u "jdk/internal/util/Preconditions"), (28, .class_ 56), (0, u "jdk/internal/util/Preconditions$4"), (57, .class_ 115), (0, u "jdk/internal/util/Preconditions$1"), (7, u "SIOOBE_FORMATTER"), (0, u "Ljava/util/function/BiFunction;"), (0, .class_ 126), (0, u "jdk/internal/util/Preconditions$2"), (3, u "AIOOBE_FORMATTER"), (0, .class_ 132), (0, u "jdk/internal/util/Preconditions$3"), (3, u "IOOBE_FORMATTER")] 57

def k11m0 : Method := { name := "<init>", desc := "()V", sig := { parameters := [], returnType := none }, accessFlags := 1, code := none }
/-- jdk/internal/util/Preconditions -/
def k11 : Class := { plain "jdk/internal/util/Preconditions" (some 0) with
  accessFlags := 33
  interfaces := #[]
  cf := some (fileOf pool11 24 #[.nestMembers #[55, 131, 125, 114]] #[{ accessFlags := 1, nameIndex := 5, descriptorIndex := 6, attributes := #[] }] 33 2 #[] #[{ accessFlags := 25, nameIndex := 123, descriptorIndex := 124, attributes := #[] }, { accessFlags := 25, nameIndex := 130, descriptorIndex := 124, attributes := #[] }, { accessFlags := 25, nameIndex := 136, descriptorIndex := 124, attributes := #[] }])
  fields := #[{ name := "SIOOBE_FORMATTER", type := (.object "java/util/function/BiFunction"), accessFlags := 25, slot := 0, constantValue := 0 }, { name := "AIOOBE_FORMATTER", type := (.object "java/util/function/BiFunction"), accessFlags := 25, slot := 1, constantValue := 0 }, { name := "IOOBE_FORMATTER", type := (.object "java/util/function/BiFunction"), accessFlags := 25, slot := 2, constantValue := 0 }]
  methods := #[k11m0]
  instanceTypes := #[]
  staticTypes := #[(.object "java/util/function/BiFunction"), (.object "java/util/function/BiFunction"), (.object "java/util/function/BiFunction")]
  resolved := Array.replicate 194 none
  statics := some 1 }

def pool12 : Array CpInfo := pool [(9, u "<init>"), (6, .class_ 18), (1, u "java/lang/Object"), (0, u "()V"), (1, .class_ 23), (1, u "jdk/internal/util/ArraysSupport"), (0, u "LOG2_ARRAY_LONG_INDEX_SCALE"), (0, u "I"), (2, u "U"), (0, u "Ljdk/internal/misc/Unsafe;"), (8, u "BIG_ENDIAN"), (0, u "Z"), (8, u "LOG2_BYTE_BIT_SIZE"), (4, u "LOG2_ARRAY_INT_INDEX_SCALE"), (54, u "JLA"), (0, u "Ljdk/internal/access/JavaLangAccess;"), (11, u "LOG2_ARRAY_BOOLEAN_INDEX_SCALE"), (9, u "LOG2_ARRAY_BYTE_INDEX_SCALE"), (5, u "LOG2_ARRAY_CHAR_INDEX_SCALE"), (5, u "LOG2_ARRAY_SHORT_INDEX_SCALE"), (18, u "LOG2_ARRAY_FLOAT_INDEX_SCALE"), (24, u "LOG2_ARRAY_DOUBLE_INDEX_SCALE"), (89, u "T_BOOLEAN"), (2, u "T_CHAR"), (1, u "T_FLOAT"), (1, u "T_DOUBLE"), (1, u "T_BYTE"), (1, u "T_SHORT"), (1, u "T_INT"), (1, u "T_LONG"), (1, u "SOFT_MAX_ARRAY_LENGTH")] 83

def k12m0 : Method := { name := "<init>", desc := "()V", sig := { parameters := [], returnType := none }, accessFlags := 2, code := none }
/-- jdk/internal/util/ArraysSupport -/
def k12 : Class := { plain "jdk/internal/util/ArraysSupport" (some 0) with
  accessFlags := 33
  interfaces := #[]
  cf := some (fileOf pool12 21 #[] #[{ accessFlags := 2, nameIndex := 9, descriptorIndex := 19, attributes := #[] }] 33 16 #[] #[{ accessFlags := 24, nameIndex := 28, descriptorIndex := 29, attributes := #[] }, { accessFlags := 26, nameIndex := 38, descriptorIndex := 39, attributes := #[] }, { accessFlags := 25, nameIndex := 121, descriptorIndex := 25, attributes := #[] }, { accessFlags := 25, nameIndex := 131, descriptorIndex := 25, attributes := #[] }, { accessFlags := 25, nameIndex := 137, descriptorIndex := 25, attributes := #[] }, { accessFlags := 25, nameIndex := 143, descriptorIndex := 25, attributes := #[] }, { accessFlags := 25, nameIndex := 53, descriptorIndex := 25, attributes := #[] }, { accessFlags := 25, nameIndex := 24, descriptorIndex := 25, attributes := #[] }, { accessFlags := 25, nameIndex := 162, descriptorIndex := 25, attributes := #[] }, { accessFlags := 25, nameIndex := 187, descriptorIndex := 25, attributes := #[] }, { accessFlags := 26, nameIndex := 48, descriptorIndex := 25, attributes := #[] }, { accessFlags := 25, nameIndex := 277, descriptorIndex := 25, attributes := #[] }, { accessFlags := 25, nameIndex := 280, descriptorIndex := 25, attributes := #[] }, { accessFlags := 25, nameIndex := 282, descriptorIndex := 25, attributes := #[] }, { accessFlags := 25, nameIndex := 284, descriptorIndex := 25, attributes := #[] }, { accessFlags := 25, nameIndex := 286, descriptorIndex := 25, attributes := #[] }, { accessFlags := 25, nameIndex := 288, descriptorIndex := 25, attributes := #[] }, { accessFlags := 25, nameIndex := 290, descriptorIndex := 25, attributes := #[] }, { accessFlags := 25, nameIndex := 292, descriptorIndex := 25, attributes := #[] }, { accessFlags := 26, nameIndex := 108, descriptorIndex := 109, attributes := #[] }, { accessFlags := 25, nameIndex := 294, descriptorIndex := 25, attributes := #[] }])
  fields := #[{ name := "U", type := (.object "jdk/internal/misc/Unsafe"), accessFlags := 24, slot := 0, constantValue := 0 }, { name := "BIG_ENDIAN", type := .boolean, accessFlags := 26, slot := 1, constantValue := 0 }, { name := "LOG2_ARRAY_BOOLEAN_INDEX_SCALE", type := .int, accessFlags := 25, slot := 2, constantValue := 0 }, { name := "LOG2_ARRAY_BYTE_INDEX_SCALE", type := .int, accessFlags := 25, slot := 3, constantValue := 0 }, { name := "LOG2_ARRAY_CHAR_INDEX_SCALE", type := .int, accessFlags := 25, slot := 4, constantValue := 0 }, { name := "LOG2_ARRAY_SHORT_INDEX_SCALE", type := .int, accessFlags := 25, slot := 5, constantValue := 0 }, { name := "LOG2_ARRAY_INT_INDEX_SCALE", type := .int, accessFlags := 25, slot := 6, constantValue := 0 }, { name := "LOG2_ARRAY_LONG_INDEX_SCALE", type := .int, accessFlags := 25, slot := 7, constantValue := 0 }, { name := "LOG2_ARRAY_FLOAT_INDEX_SCALE", type := .int, accessFlags := 25, slot := 8, constantValue := 0 }, { name := "LOG2_ARRAY_DOUBLE_INDEX_SCALE", type := .int, accessFlags := 25, slot := 9, constantValue := 0 }, { name := "LOG2_BYTE_BIT_SIZE", type := .int, accessFlags := 26, slot := 10, constantValue := 0 }, { name := "T_BOOLEAN", type := .int, accessFlags := 25, slot := 11, constantValue := 0 }, { name := "T_CHAR", type := .int, accessFlags := 25, slot := 12, constantValue := 0 }, { name := "T_FLOAT", type := .int, accessFlags := 25, slot := 13, constantValue := 0 }, { name := "T_DOUBLE", type := .int, accessFlags := 25, slot := 14, constantValue := 0 }, { name := "T_BYTE", type := .int, accessFlags := 25, slot := 15, constantValue := 0 }, { name := "T_SHORT", type := .int, accessFlags := 25, slot := 16, constantValue := 0 }, { name := "T_INT", type := .int, accessFlags := 25, slot := 17, constantValue := 0 }, { name := "T_LONG", type := .int, accessFlags := 25, slot := 18, constantValue := 0 }, { name := "JLA", type := (.object "jdk/internal/access/JavaLangAccess"), accessFlags := 26, slot := 19, constantValue := 0 }, { name := "SOFT_MAX_ARRAY_LENGTH", type := .int, accessFlags := 25, slot := 20, constantValue := 0 }]
  methods := #[k12m0]
  instanceTypes := #[]
  staticTypes := #[(.object "jdk/internal/misc/Unsafe"), .boolean, .int, .int, .int, .int, .int, .int, .int, .int, .int, .int, .int, .int, .int, .int, .int, .int, .int, (.object "jdk/internal/access/JavaLangAccess"), .int]
  resolved := Array.replicate 378 none
  statics := none }

def pool13 : Array CpInfo := pool [(1, u "java/lang/Cloneable"), (0, .class_ 1), (0, u "java/lang/Object"), (0, .class_ 3)] 3

/-- java/lang/Cloneable -/
def k13 : Class := { plain "java/lang/Cloneable" (some 0) with
  accessFlags := 1537
  interfaces := #[]
  cf := some (fileOf pool13 2 #[] #[] 1537 4 #[] #[])
  fields := #[]
  methods := #[]
  instanceTypes := #[]
  staticTypes := #[]
  resolved := Array.replicate 8 none
  statics := none }

/-- the primitive byte -/
def k14 : Class := { plain "byte" none with kind := .primitive 'B', accessFlags := 0x411 }
/-- [B -/
def k15 : Class := { plain "[B" (some 0) with kind := .array 14 .byte, interfaces := #[13, 2], accessFlags := 1041 }

/-- the primitive char -/
def k16 : Class := { plain "char" none with kind := .primitive 'C', accessFlags := 0x411 }
/-- [C -/
def k17 : Class := { plain "[C" (some 0) with kind := .array 16 .char, interfaces := #[13, 2], accessFlags := 1041 }

/-- the primitive int -/
def k18 : Class := { plain "int" none with kind := .primitive 'I', accessFlags := 0x411 }
/-- [I -/
def k19 : Class := { plain "[I" (some 0) with kind := .array 18 .int, interfaces := #[13, 2], accessFlags := 1041 }

def heap : Heap := #[{ cls := 7, slots := #[.long 0, .int 1, .null, .int 0, .null, .int 0, .int 0], vm := .statics 7 },
  { cls := 11, slots := #[.null, .null, .null], vm := .statics 11 }]
def classes : Array Class := #[k0, k1, k2, k3, k4, k5, k6, k7, k8, k9, k10, k11, k12, k13, k14, k15, k16, k17, k18, k19]
def interned : List (Array UInt16 × Addr) := []
def slotsUsed : Nat := 10
def theMethod : MethodId := ⟨1, 1⟩
def args0 : Array Value := #[.long 5, .long 6, .long 7, .int 10]
def aboutOver (below : List Frame) : State where
  vm := { classes := classes, interned := interned.toArray }
  heap := heap
  slotsUsed := slotsUsed
  threads := #[{ frames := .invoking theMethod args0 :: below }]
def below0 : List Frame := [.native { method := ⟨0, 0⟩, args := #[] }]
def about1 : State := aboutOver below0
def p0 : Program := .bare "" "" ""
def e0 : Env := launch0.env 0 0 0
theorem w_frames : about1.frames = Frame.invoking theMethod args0 :: below0 := rfl
set_option maxRecDepth 65536 in
theorem w_args : argsFit about1.vm theMethod args0 = true := by decide +kernel
set_option maxRecDepth 65536 in
theorem w_heap : heapFits about1 = true := by decide +kernel
set_option maxRecDepth 65536 in
theorem w_runnable : about1.curStatus? = some .runnable := by decide +kernel
set_option maxRecDepth 65536 in
theorem w_alone : about1.alone = true := by decide +kernel
set_option maxRecDepth 65536 in
theorem w_named : about1.methodNamed? x = some theMethod := by decide +kernel
set_option maxRecDepth 65536 in
theorem w_hears : about1.hears theMethod below0 = true := by decide +kernel
set_option maxRecDepth 65536 in
theorem w_ripe : about1.ripe theMethod args0 below0 = true := by decide +kernel
theorem w_running : about1.status = .running := rfl
set_option maxRecDepth 65536 in
theorem w_room : about1.hasRoom e0.platform room_1 = true :=
  launch0.hasRoom_least _ room_1 (by decide +kernel) (by decide +kernel) (by decide +kernel) (by decide +kernel) (by decide +kernel) (by decide +kernel)
theorem allAtoms_all (ts : List Jvm.Cond) (a : Array Jvm.Value) (st : Jvm.State) : (allAtoms ts).before a st = ts.all (fun c => c.before a st) := by
  induction ts with
  | nil => rfl
  | cons c t ih =>
    show (Jvm.Cond.and c (allAtoms t)).before a st = _
    rw [Jvm.Cond.before_and, ih, List.all_cons]
def words1 : List Jvm.Cond := Jvm.Cond.code x code maxLocals ret :: tables_1
/-- a 'code' word, met by the world's own term for the bytes: nothing is compared byte by byte -/
theorem code_word {y : MethodName} {bytes : ByteArray} {mx : Nat} {rt : Option FieldType} {a : Array Value} {s : State} {m : MethodId} {meth : Method} {c : Code} (h1 : s.methodNamed? y = some m) (h2 : s.vm.method? m = some meth) (h3 : meth.code = some c) (h4 : c.code = bytes)
    (h5 : (c.maxLocals == mx && c.exceptionTable.isEmpty && decide (c.maxStack ≤ mostOperands) && decide (meth.sig.returnType = rt) && !meth.locks && decide (parseMethodDescriptor y.desc = some meth.sig)) = true) : (Jvm.Cond.code y bytes mx rt).before a s = true := by
  simp only [Bool.and_eq_true, beq_iff_eq, Bool.not_eq_true', decide_eq_true_eq] at h5
  obtain ⟨⟨⟨⟨⟨g1, g2⟩, g3⟩, g4⟩, g5⟩, g6⟩ := h5
  simp [Cond.before, Cond.holds, Cond.value, h1, h2, h3, h4, g1, g2, g3, g4, g5, g6]
def isCode : Jvm.Cond → Bool
  | .code _ _ _ _ => true
  | _ => false
theorem all_split {L : List Jvm.Cond} {P : Jvm.Cond → Bool} (h1 : L.all (fun c => isCode c || P c) = true) (h2 : ∀ c ∈ L.filter isCode, P c = true) : L.all P = true := by
  refine List.all_eq_true.mpr fun c hc => ?_
  have h := List.all_eq_true.mp h1 c hc
  rcases Bool.eq_false_or_eq_true (isCode c) with hi | hi
  · exact h2 c (List.mem_filter.mpr ⟨hc, hi⟩)
  · simpa [hi] using h
set_option maxRecDepth 65536 in
theorem w_c0 : (Jvm.Cond.code x code maxLocals ret).before args0 about1 = true := code_word (m := ⟨1, 1⟩) (meth := k1m1) (c := k1c1) (by decide +kernel) rfl rfl rfl (by decide +kernel)
set_option maxRecDepth 65536 in
theorem w_c1 : (Jvm.Cond.code ({ cls := "com/example/tenure/tenure/DaysUntimedPinLaw", name := "prefix", desc := "([CI)[C" } : Jvm.MethodName) method_3_code (3 : Nat) (Option.some (Jvm.ClassFile.FieldType.array Jvm.ClassFile.FieldType.char))).before args0 about1 = true := code_word (m := ⟨1, 2⟩) (meth := k1m2) (c := k1c2) (by decide +kernel) rfl rfl rfl (by decide +kernel)
set_option maxRecDepth 65536 in
theorem w_c2 : (Jvm.Cond.code ({ cls := "java/lang/String", name := "<init>", desc := "([C)V" } : Jvm.MethodName) jdk_42_method_3_code (2 : Nat) (Option.none : Option Jvm.ClassFile.FieldType)).before args0 about1 = true := code_word (m := ⟨7, 1⟩) (meth := k7m1) (c := k7c1) (by decide +kernel) rfl rfl rfl (by decide +kernel)
set_option maxRecDepth 65536 in
theorem w_c3 : (Jvm.Cond.code ({ cls := "java/lang/String", name := "<init>", desc := "([CIILjava/lang/Void;)V" } : Jvm.MethodName) jdk_42_method_149_code (6 : Nat) (Option.none : Option Jvm.ClassFile.FieldType)).before args0 about1 = true := code_word (m := ⟨7, 3⟩) (meth := k7m3) (c := k7c3) (by decide +kernel) rfl rfl rfl (by decide +kernel)
set_option maxRecDepth 65536 in
theorem w_c4 : (Jvm.Cond.code ({ cls := "java/lang/Object", name := "<init>", desc := "()V" } : Jvm.MethodName) object_method_1_code (1 : Nat) (Option.none : Option Jvm.ClassFile.FieldType)).before args0 about1 = true := code_word (m := ⟨0, 0⟩) (meth := k0m0) (c := k0c0) (by decide +kernel) rfl rfl rfl (by decide +kernel)
set_option maxRecDepth 65536 in
theorem w_c5 : (Jvm.Cond.code ({ cls := "java/lang/StringUTF16", name := "compress", desc := "([CII)[B" } : Jvm.MethodName) jdk_52_method_16_code (6 : Nat) (Option.some (Jvm.ClassFile.FieldType.array Jvm.ClassFile.FieldType.byte))).before args0 about1 = true := code_word (m := ⟨8, 2⟩) (meth := k8m2) (c := k8c2) (by decide +kernel) rfl rfl rfl (by decide +kernel)
set_option maxRecDepth 65536 in
theorem w_c6 : (Jvm.Cond.code ({ cls := "java/lang/StringUTF16", name := "compress", desc := "([CI[BII)I" } : Jvm.MethodName) jdk_52_method_21_code (7 : Nat) (Option.some Jvm.ClassFile.FieldType.int)).before args0 about1 = true := code_word (m := ⟨8, 3⟩) (meth := k8m3) (c := k8c3) (by decide +kernel) rfl rfl rfl (by decide +kernel)
set_option maxRecDepth 65536 in
theorem w_c7 : (Jvm.Cond.code ({ cls := "java/lang/StringUTF16", name := "coderFromArrayLen", desc := "([BI)B" } : Jvm.MethodName) jdk_52_method_15_code (2 : Nat) (Option.some Jvm.ClassFile.FieldType.byte)).before args0 about1 = true := code_word (m := ⟨8, 1⟩) (meth := k8m1) (c := k8c1) (by decide +kernel) rfl rfl rfl (by decide +kernel)
set_option maxRecDepth 65536 in
theorem w_c8 : (Jvm.Cond.code ({ cls := "com/example/tenure/tenure/Days", name := "untimed", desc := "(Ljava/lang/String;)Z" } : Jvm.MethodName) prog_14_method_4_code (1 : Nat) (Option.some Jvm.ClassFile.FieldType.boolean)).before args0 about1 = true := code_word (m := ⟨9, 1⟩) (meth := k9m1) (c := k9c1) (by decide +kernel) rfl rfl rfl (by decide +kernel)
set_option maxRecDepth 65536 in
theorem w_c9 : (Jvm.Cond.code ({ cls := "java/lang/String", name := "length", desc := "()I" } : Jvm.MethodName) jdk_42_method_54_code (1 : Nat) (Option.some Jvm.ClassFile.FieldType.int)).before args0 about1 = true := code_word (m := ⟨7, 2⟩) (meth := k7m2) (c := k7c2) (by decide +kernel) rfl rfl rfl (by decide +kernel)
set_option maxRecDepth 65536 in
theorem w_c10 : (Jvm.Cond.code ({ cls := "java/lang/String", name := "coder", desc := "()B" } : Jvm.MethodName) jdk_42_method_152_code (1 : Nat) (Option.some Jvm.ClassFile.FieldType.byte)).before args0 about1 = true := code_word (m := ⟨7, 4⟩) (meth := k7m4) (c := k7c4) (by decide +kernel) rfl rfl rfl (by decide +kernel)
def codes1 : List Jvm.Cond := [Jvm.Cond.code x code maxLocals ret, Jvm.Cond.code ({ cls := "com/example/tenure/tenure/DaysUntimedPinLaw", name := "prefix", desc := "([CI)[C" } : Jvm.MethodName) method_3_code (3 : Nat) (Option.some (Jvm.ClassFile.FieldType.array Jvm.ClassFile.FieldType.char)), Jvm.Cond.code ({ cls := "java/lang/String", name := "<init>", desc := "([C)V" } : Jvm.MethodName) jdk_42_method_3_code (2 : Nat) (Option.none : Option Jvm.ClassFile.FieldType), Jvm.Cond.code ({ cls := "java/lang/String", name := "<init>", desc := "([CIILjava/lang/Void;)V" } : Jvm.MethodName) jdk_42_method_149_code (6 : Nat) (Option.none : Option Jvm.ClassFile.FieldType), Jvm.Cond.code ({ cls := "java/lang/Object", name := "<init>", desc := "()V" } : Jvm.MethodName) object_method_1_code (1 : Nat) (Option.none : Option Jvm.ClassFile.FieldType), Jvm.Cond.code ({ cls := "java/lang/StringUTF16", name := "compress", desc := "([CII)[B" } : Jvm.MethodName) jdk_52_method_16_code (6 : Nat) (Option.some (Jvm.ClassFile.FieldType.array Jvm.ClassFile.FieldType.byte)), Jvm.Cond.code ({ cls := "java/lang/StringUTF16", name := "compress", desc := "([CI[BII)I" } : Jvm.MethodName) jdk_52_method_21_code (7 : Nat) (Option.some Jvm.ClassFile.FieldType.int), Jvm.Cond.code ({ cls := "java/lang/StringUTF16", name := "coderFromArrayLen", desc := "([BI)B" } : Jvm.MethodName) jdk_52_method_15_code (2 : Nat) (Option.some Jvm.ClassFile.FieldType.byte), Jvm.Cond.code ({ cls := "com/example/tenure/tenure/Days", name := "untimed", desc := "(Ljava/lang/String;)Z" } : Jvm.MethodName) prog_14_method_4_code (1 : Nat) (Option.some Jvm.ClassFile.FieldType.boolean), Jvm.Cond.code ({ cls := "java/lang/String", name := "length", desc := "()I" } : Jvm.MethodName) jdk_42_method_54_code (1 : Nat) (Option.some Jvm.ClassFile.FieldType.int), Jvm.Cond.code ({ cls := "java/lang/String", name := "coder", desc := "()B" } : Jvm.MethodName) jdk_42_method_152_code (1 : Nat) (Option.some Jvm.ClassFile.FieldType.byte)]
set_option maxRecDepth 65536 in
theorem codes_eq : words1.filter isCode = codes1 := rfl
theorem w_codes : ∀ c ∈ words1.filter isCode, c.before args0 about1 = true := by
  rw [codes_eq]
  intro c hc
  simp only [codes1, List.mem_cons, List.not_mem_nil, or_false] at hc
  rcases hc with rfl | rfl | rfl | rfl | rfl | rfl | rfl | rfl | rfl | rfl | rfl
  · exact w_c0
  · exact w_c1
  · exact w_c2
  · exact w_c3
  · exact w_c4
  · exact w_c5
  · exact w_c6
  · exact w_c7
  · exact w_c8
  · exact w_c9
  · exact w_c10
set_option maxRecDepth 65536 in
theorem w_t1 : (words1.take 24).all (fun c => isCode c || c.before args0 about1) = true := by decide +kernel
set_option maxRecDepth 65536 in
theorem w_t2 : ((words1.drop 24).take 24).all (fun c => isCode c || c.before args0 about1) = true := by decide +kernel
set_option maxRecDepth 65536 in
theorem w_t3 : ((words1.drop 24).drop 24).all (fun c => isCode c || c.before args0 about1) = true := by decide +kernel
theorem w_tables : (allAtoms (Jvm.Cond.code x code maxLocals ret :: tables_1)).before args0 about1 = true := by
  rw [allAtoms_all]
  show words1.all (fun c => c.before args0 about1) = true
  refine all_split ?_ w_codes
  rw [← List.take_append_drop 24 words1, List.all_append, w_t1, ← List.take_append_drop 24 (words1.drop 24), List.all_append, w_t2, w_t3]
  rfl
set_option maxRecDepth 65536 in
theorem w_rest : rest_1_c.before args0 about1 = true := by decide +kernel
set_option maxRecDepth 65536 in
theorem w_case : (Jvm.Cond.and given_1 narrow_1).before args0 about1 = true := by decide +kernel
set_option maxRecDepth 65536 in
theorem w_consts : constsHeld consts_1 about1 := Jvm.Lit.constsHeldB_iff.mp (by decide +kernel)
theorem w_applies : (headSpec (Jvm.Cond.code x code maxLocals ret :: tables_1) room_1).applies x e0.platform about1 = true :=
  (Spec.applies_iff w_frames).mpr ⟨w_running, w_runnable, w_alone, w_named, w_hears, w_ripe, w_room, w_tables⟩
theorem atStart : AtStart classFile x code maxLocals ret World_1 tables_1 room_1 Calls_1 rest_1 Pre_1 launch0 p0 e0 about1 theMethod args0 below0 :=
  ⟨lists_1, trivial, launch0.admits_env _ _ _, launch0.least_env, fairChoices_fair.cas, fairChoices_fair.clock, w_frames, w_args, w_heap, w_applies, ⟨w_consts, trivial⟩, w_rest, w_case⟩
end start1
theorem witness_1 : WitnessClaimed_1 := ⟨start1.p0, start1.e0, start1.about1, start1.theMethod, start1.args0, start1.below0, start1.atStart⟩
end Jvm.Pilot.@@N@@
