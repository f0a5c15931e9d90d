import JvmDerived
import JvmDerived.Pilot.@@N@@Statement
import JvmDerived.Pilot.@@N@@Code
set_option linter.unusedVariables false
set_option linter.unusedSimpArgs false
namespace Jvm.OwnKit
open Sem ClassFile Op Lib Bundle Jvm.Stand Jvm.Free Jvm.LawKit Jvm.RoadKit
section Kit
variable {p : Program} {l : Launch} {e : Env} {R : Room} {s : State} {m : MethodId} {args : Array Value} {below : List Frame} {meth : Method} {c : Code} {Z : State} {a0 : Array Value} {EL : List (String × Nat)} {cw : Prop} {own : String} {n0 : Nat} {bytes : ByteArray} {maxL : Nat} {ret : Option FieldType} {nm : String} {T : State} {h : Heap} {C S : Nat} {sf : List Addr} {P : State → Outcome → Prop}

/-- from t the run comes to a state of which P speaks -/
def Go (p : Program) (e : Env) (below : List Frame) (P : State → Outcome → Prop) (t : State) : Prop := ∃ u o, Steps p.tables e below t u ∧ P u o
theorem Go.st {t t' : State} (k : ∀ target, Steps p.tables e below t' target → Steps p.tables e below t target) (G : Go p e below P t') : Go p e below P t := by
  obtain ⟨u, o, h1, h2⟩ := G; exact ⟨u, o, k _ h1, h2⟩
theorem Go.tr {t t' : State} (k : Steps p.tables e below t t') (G : Go p e below P t') : Go p e below P t := by
  obtain ⟨u, o, h1, h2⟩ := G; exact ⟨u, o, k.trans h1, h2⟩

/-- where the walk stands: all that the steps ask, in one word -/
def Hs (p : Program) (l : Launch) (e : Env) (R : Room) (s : State) (m : MethodId) (args : Array Value) (below : List Frame) (meth : Method) (c : Code) (Z : State) (a0 : Array Value) (EL : List (String × Nat)) (cw : Prop) (own : String) (n0 : Nat) (bytes : ByteArray) (maxL : Nat) (ret : Option FieldType) (nm : String) (T : State) (h : Heap) (C S : Nat) (sf : List Addr) : Prop :=
  (p.tables.exec = Jvm.exec ∧ EW Z a0 EL ∧ c.code = bytes ∧ c.maxLocals = maxL ∧ meth.sig.returnType = ret ∧ meth.locks = false ∧ meth.name = nm ∧ n0 ≤ s.heap.size) ∧
  ∃ (vm0 : Vm) (k0 : Nat) (locs : List Loc), Stand p l e R (s.setVm vm0) m args below meth c T locs C S ∧ T.heap = h ∧ s.Since vm0 k0 ∧ k0 ≤ h.size ∧ Z.Warmed39 vm0 ∧ vm0.findClass own = some m.cls ∧ Fr n0 locs ∧ CHr Z EL s.vm s.heap vm0 h ∧ (∀ x ∈ sf, x < h.size ∧ Safe Z EL vm0 h x) ∧ (cw ∨ s.WarmedH vm0) ∧ Old Z n0 h

theorem Hs.here (H : Hs p l e R s m args below meth c Z a0 EL cw own n0 bytes maxL ret nm T h C S sf) : At T m c below := by
  obtain ⟨-, vm0, k0, locs, X, -⟩ := H; exact X.here
theorem Hs.exec (H : Hs p l e R s m args below meth c Z a0 EL cw own n0 bytes maxL ret nm T h C S sf) : p.tables.exec = Jvm.exec := H.1.1
theorem Hs.dec (H : Hs p l e R s m args below meth c Z a0 EL cw own n0 bytes maxL ret nm T h C S sf) {pc : Nat} {r : Except ClassFile.DecodeError (ClassFile.Instr × Nat)} (hd : decode bytes pc = r) : decode c.code pc = r := by rw [H.1.2.2.1]; exact hd
theorem Hs.le (H : Hs p l e R s m args below meth c Z a0 EL cw own n0 bytes maxL ret nm T h C S sf) : n0 ≤ h.size := by
  obtain ⟨⟨-, -, -, -, -, -, -, hn⟩, vm0, k0, locs, -, -, -, -, -, -, -, hC, -⟩ := H
  exact Nat.le_trans hn hC.2.1
theorem Hs.old (H : Hs p l e R s m args below meth c Z a0 EL cw own n0 bytes maxL ret nm T h C S sf) : Old Z n0 h := by
  obtain ⟨-, vm0, k0, locs, -, -, -, -, -, -, -, -, -, -, hO⟩ := H; exact hO
theorem Hs.mono (H : Hs p l e R s m args below meth c Z a0 EL cw own n0 bytes maxL ret nm T h C S sf) {C' S' : Nat} (hc : C ≤ C') (hs : S ≤ S') : Hs p l e R s m args below meth c Z a0 EL cw own n0 bytes maxL ret nm T h C' S' sf := by
  obtain ⟨hM, vm0, k0, locs, X, r⟩ := H
  exact ⟨hM, vm0, k0, locs, X.mono hc hs, r⟩
theorem Hs.less (H : Hs p l e R s m args below meth c Z a0 EL cw own n0 bytes maxL ret nm T h C S sf) {sf' : List Addr} (hs : ∀ x ∈ sf', x ∈ sf) : Hs p l e R s m args below meth c Z a0 EL cw own n0 bytes maxL ret nm T h C S sf' := by
  obtain ⟨hM, vm0, k0, locs, X, h1, h2, h3, h4, h5, h6, h7, h8, h9, hO⟩ := H
  exact ⟨hM, vm0, k0, locs, X, h1, h2, h3, h4, h5, h6, h7, fun x hx => h8 x (hs x hx), h9, hO⟩
/-- a place that no constant of the list lies at -/
def Sf (Z : State) (EL : List (String × Nat)) (h : Heap) (sf : List Addr) (a : Addr) : Prop := a ∈ sf ∨ (∃ K, Exa Z h a K ∧ K ≠ "java/lang/String" ∧ K ≠ "[B") ∨ ∃ cl ty, Arr Z h a cl ty ∧ ty ≠ .byte
theorem Sf.mem {a : Addr} (q : a ∈ sf) : Sf Z EL h sf a := Or.inl q
theorem Sf.exa {a : Addr} {K : String} (E : Exa Z h a K) (h1 : K ≠ "java/lang/String" := by decide) (h2 : K ≠ "[B" := by decide) : Sf Z EL h sf a := Or.inr (Or.inl ⟨K, E, h1, h2⟩)
theorem Sf.arr {a : Addr} {k : ClassId} {ty : FieldType} {z : Int32} {vs : List Value} {dv : Value} (A : Arv Z h a k ty z vs dv) (ht : ty ≠ .byte := by decide) : Sf Z EL h sf a := by
  obtain ⟨cl, A, -⟩ := A; exact Or.inr (Or.inr ⟨cl, ty, A, ht⟩)
theorem Sf.safe {a : Addr} {vm0 : Vm} (hZ : Z.Warmed39 vm0) (hs : ∀ x ∈ sf, x < h.size ∧ Safe Z EL vm0 h x) (q : Sf Z EL h sf a) : Safe Z EL vm0 h a := by
  rcases q with q | ⟨K, E, h1, h2⟩ | ⟨cl, ty, A, ht⟩
  · exact (hs a q).2
  · exact Safe.exa hZ.alike E h1 h2
  · exact Safe.arr hZ.alike A ht

/-! ## what leaves the heap as it is -/
/-- a step of the library's that keeps the heap (T' in place of T) -/
theorem Hs.keepT {T' : State} (H : Hs p l e R s m args below meth c Z a0 EL cw own n0 bytes maxL ret nm T h C S sf)
    (k : ∀ (vm0 : Vm) (locs : List Loc), Stand p l e R (s.setVm vm0) m args below meth c T locs C S → Z.Warmed39 (s.setVm vm0).vm → (s.setVm vm0).vm.findClass own = some m.cls → T.heap = h → Stand p l e R (s.setVm vm0) m args below meth c T' locs C S ∧ T'.heap = h) : Hs p l e R s m args below meth c Z a0 EL cw own n0 bytes maxL ret nm T' h C S sf := by
  obtain ⟨hM, vm0, k0, locs, X, h1, h2, h3, h4, h5, h6, h7, h8, h9, hO⟩ := H
  obtain ⟨X', e'⟩ := k vm0 locs X h4 h5 h1
  exact ⟨hM, vm0, k0, locs, X', e', h2, h3, h4, h5, h6, h7, h8, h9, hO⟩
theorem G.getF (H : Hs p l e R s m args below meth c Z a0 EL cw own n0 bytes maxL ret nm T h C S sf) {R0 O n d : String} {index : Nat} (w : (Cond.fieldLink own index R0 n d).before a0 Z = true) (via : Via Z R0 O n d) {a : Addr} {v : Value} (F : Fld Z h a O n d v) {pc pc' : Nat} {L : Array Slot} {st : List Value} (hd : decode bytes pc = .ok (.getfield index, 3)) (hp : pc + 3 = pc')
    (k : ∀ T', Hs p l e R s m args below meth c Z a0 EL cw own n0 bytes maxL ret nm T' h C S sf → Go p e below P (T'.setTop (mkF m pc' L (v :: st)))) : Go p e below P (T.setTop (mkF m pc L (.ref a :: st))) := by
  subst hp
  obtain ⟨hM, vm0, k0, locs, X, h1, h2, h3, h4, h5, h6, h7, h8, h9, hO⟩ := id H
  obtain ⟨T', X', e', st'⟩ := RoadKit.getF X H.exec h4 (host := "") h5 (Or.inl w) via h1 F (g := mkF m pc L (.ref a :: st)) rfl rfl (H.dec hd)
  exact Go.st st' (k T' ⟨hM, vm0, k0, locs, X', e', h2, h3, h4, h5, h6, h7, h8, h9, hO⟩)
theorem G.getFN (H : Hs p l e R s m args below meth c Z a0 EL cw own n0 bytes maxL ret nm T h C S sf) {R0 O n d host : String} {index : Nat} (w : (Cond.fieldLinkNest own index R0 n d host).before a0 Z = true) (via : Via Z R0 O n d) {a : Addr} {v : Value} (F : Fld Z h a O n d v) {pc pc' : Nat} {L : Array Slot} {st : List Value} (hd : decode bytes pc = .ok (.getfield index, 3)) (hp : pc + 3 = pc')
    (k : ∀ T', Hs p l e R s m args below meth c Z a0 EL cw own n0 bytes maxL ret nm T' h C S sf → Go p e below P (T'.setTop (mkF m pc' L (v :: st)))) : Go p e below P (T.setTop (mkF m pc L (.ref a :: st))) := by
  subst hp
  obtain ⟨hM, vm0, k0, locs, X, h1, h2, h3, h4, h5, h6, h7, h8, h9, hO⟩ := id H
  obtain ⟨T', X', e', st'⟩ := RoadKit.getF X H.exec h4 h5 (Or.inr w) via h1 F (g := mkF m pc L (.ref a :: st)) rfl rfl (H.dec hd)
  exact Go.st st' (k T' ⟨hM, vm0, k0, locs, X', e', h2, h3, h4, h5, h6, h7, h8, h9, hO⟩)
theorem G.getS (H : Hs p l e R s m args below meth c Z a0 EL cw own n0 bytes maxL ret nm T h C S sf) {R0 O n d : String} {index : Nat} (w : (Cond.fieldLink own index R0 n d).before a0 Z = true) (via : Via Z R0 O n d) {v : Value} (F : Sta Z h O n d v) {pc pc' : Nat} {L : Array Slot} {st : List Value} (hd : decode bytes pc = .ok (.getstatic index, 3)) (hp : pc + 3 = pc')
    (k : ∀ T', Hs p l e R s m args below meth c Z a0 EL cw own n0 bytes maxL ret nm T' h C S sf → Go p e below P (T'.setTop (mkF m pc' L (v :: st)))) : Go p e below P (T.setTop (mkF m pc L st)) := by
  subst hp
  obtain ⟨hM, vm0, k0, locs, X, h1, h2, h3, h4, h5, h6, h7, h8, h9, hO⟩ := id H
  obtain ⟨T', X', e', st'⟩ := RoadKit.getS (host := "") X H.exec h4 h5 w via h1 F (g := mkF m pc L st) rfl (H.dec hd)
  exact Go.st st' (k T' ⟨hM, vm0, k0, locs, X', e', h2, h3, h4, h5, h6, h7, h8, h9, hO⟩)
theorem G.castY (H : Hs p l e R s m args below meth c Z a0 EL cw own n0 bytes maxL ret nm T h C S sf) {K : String} {index : Nat} (w : (Cond.classLink own index K).before a0 Z = true) {a : Addr} (F : Ins Z h a K true) {pc pc' : Nat} {L : Array Slot} {st : List Value} (hd : decode bytes pc = .ok (.checkcast index, 3)) (hp : pc + 3 = pc')
    (k : ∀ T', Hs p l e R s m args below meth c Z a0 EL cw own n0 bytes maxL ret nm T' h C S sf → Go p e below P (T'.setTop (mkF m pc' L (.ref a :: st)))) : Go p e below P (T.setTop (mkF m pc L (.ref a :: st))) := by
  subst hp
  obtain ⟨hM, vm0, k0, locs, X, h1, h2, h3, h4, h5, h6, h7, h8, h9, hO⟩ := id H
  obtain ⟨T', X', e', st'⟩ := RoadKit.castY X H.exec h4 h5 w h1 F (g := mkF m pc L (.ref a :: st)) rfl rfl (H.dec hd)
  exact Go.st st' (k T' ⟨hM, vm0, k0, locs, X', e', h2, h3, h4, h5, h6, h7, h8, h9, hO⟩)
theorem G.instY (H : Hs p l e R s m args below meth c Z a0 EL cw own n0 bytes maxL ret nm T h C S sf) {K : String} {index : Nat} (w : (Cond.classLink own index K).before a0 Z = true) {a : Addr} (F : Ins Z h a K true) {pc pc' : Nat} {L : Array Slot} {st : List Value} (hd : decode bytes pc = .ok (.instanceof index, 3)) (hp : pc + 3 = pc')
    (k : ∀ T', Hs p l e R s m args below meth c Z a0 EL cw own n0 bytes maxL ret nm T' h C S sf → Go p e below P (T'.setTop (mkF m pc' L (.int 1 :: st)))) : Go p e below P (T.setTop (mkF m pc L (.ref a :: st))) := by
  subst hp
  obtain ⟨hM, vm0, k0, locs, X, h1, h2, h3, h4, h5, h6, h7, h8, h9, hO⟩ := id H
  obtain ⟨T', X', e', st'⟩ := RoadKit.instY X H.exec h4 h5 w h1 F (g := mkF m pc L (.ref a :: st)) rfl rfl (H.dec hd)
  exact Go.st st' (k T' ⟨hM, vm0, k0, locs, X', e', h2, h3, h4, h5, h6, h7, h8, h9, hO⟩)
theorem G.instNo (H : Hs p l e R s m args below meth c Z a0 EL cw own n0 bytes maxL ret nm T h C S sf) {K D : String} {index : Nat} (w : (Cond.classLink own index K).before a0 Z = true) {a : Addr} (E : Exa Z h a D) (F : ∃ c t, Z.vm.findClass D = some c ∧ Z.vm.findClass K = some t ∧ Z.vm.assignable c t = false) {pc pc' : Nat} {L : Array Slot} {st : List Value} (hd : decode bytes pc = .ok (.instanceof index, 3)) (hp : pc + 3 = pc')
    (k : ∀ T', Hs p l e R s m args below meth c Z a0 EL cw own n0 bytes maxL ret nm T' h C S sf → Go p e below P (T'.setTop (mkF m pc' L (.int 0 :: st)))) : Go p e below P (T.setTop (mkF m pc L (.ref a :: st))) := by
  subst hp
  obtain ⟨hM, vm0, k0, locs, X, h1, h2, h3, h4, h5, h6, h7, h8, h9, hO⟩ := id H
  obtain ⟨T', X', e', st'⟩ := RoadKit.instNo X H.exec h4 h5 w h1 E F (g := mkF m pc L (.ref a :: st)) rfl rfl (H.dec hd)
  exact Go.st st' (k T' ⟨hM, vm0, k0, locs, X', e', h2, h3, h4, h5, h6, h7, h8, h9, hO⟩)
theorem G.initO (H : Hs p l e R s m args below meth c Z a0 EL cw own n0 bytes maxL ret nm T h C S sf) {index : Nat} (w1 : (Cond.methodLink own index Lib.objectInit).before a0 Z = true) (w2 : (Cond.instanceMethod Lib.objectInit).before a0 Z = true) (w3 : (Cond.code Lib.objectInit ⟨#[0xb1]⟩ 1 none).before a0 Z = true) {a : Addr} {pc pc' : Nat} {L : Array Slot} {st : List Value} (hL : L.size = maxL) (hd : decode bytes pc = .ok (.invokespecial index, 3)) (hp : pc + 3 = pc') (hf : 1 ≤ R.frames) {W : Nat} (hW : (st.map fun v => v.category).sum = W) (hl : W + 12 ≤ R.locals)
    (k : ∀ T', Hs p l e R s m args below meth c Z a0 EL cw own n0 bytes maxL ret nm T' h C S sf → Go p e below P (T'.setTop (mkF m pc' L st))) : Go p e below P (T.setTop (mkF m pc L (.ref a :: st))) := by
  subst hp
  obtain ⟨hM, vm0, k0, locs, X, h1, h2, h3, h4, h5, h6, h7, h8, h9, hO⟩ := id H
  obtain ⟨T', X', e', st'⟩ := RoadKit.initO X H.exec h4 h5 w1 w2 w3 h1 (g := mkF m pc L (.ref a :: st)) rfl (by rw [hM.2.2.2.1]; exact hL) rfl (H.dec hd) hf (W := W) (by show 2 * 0 + _ ≤ _; omega) hl
  exact Go.st st' (k T' ⟨hM, vm0, k0, locs, X', e', h2, h3, h4, h5, h6, h7, h8, h9, hO⟩)
theorem G.arrlen (H : Hs p l e R s m args below meth c Z a0 EL cw own n0 bytes maxL ret nm T h C S sf) {a : Addr} {kc : ClassId} {ty : FieldType} {z : Int32} {vs : List Value} {dv : Value} (A : Arv Z h a kc ty z vs dv) {pc pc' : Nat} {L : Array Slot} {st : List Value} (hd : decode bytes pc = .ok (.arraylength, 1)) (hp : pc + 1 = pc') (k : Go p e below P (T.setTop (mkF m pc' L (.int z :: st)))) : Go p e below P (T.setTop (mkF m pc L (.ref a :: st))) := by
  subst hp
  obtain ⟨hM, vm0, k0, locs, X, h1, h2, h3, h4, h5, h6, h7, h8, h9, hO⟩ := id H
  obtain ⟨cl, Ar, q1, S1, q3, H1, G1⟩ := A
  refine Go.st (fun t kk => X.arraylength H.exec (cell := cl) (by rw [h1]; exact Ar.1) (State.isArrayOf_alike (s := Z) h4.alike Ar.2.1) (g := mkF m pc L (.ref a :: st)) rfl rfl (H.dec hd) t ?_) k
  rw [len_of S1 q3]; exact kk
theorem G.ialoadG (H : Hs p l e R s m args below meth c Z a0 EL cw own n0 bytes maxL ret nm T h C S sf) {a : Addr} {kc : ClassId} {z : Int32} {vs : List Value} {dv : Value} (A : Arv Z h a kc .int z vs dv) {j : Int32} {v : Value} (hj : ¬ j < 0 ∧ j < z) (hv : vs.getD j.toNatClampNeg dv = v) {pc pc' : Nat} {L : Array Slot} {st : List Value} (hd : decode bytes pc = .ok (.iaload, 1)) (hp : pc + 1 = pc') (k : Go p e below P (T.setTop (mkF m pc' L (v :: st)))) : Go p e below P (T.setTop (mkF m pc L (.int j :: .ref a :: st))) := by
  subst hp
  obtain ⟨hM, vm0, k0, locs, X, h1, h2, h3, h4, h5, h6, h7, h8, h9, hO⟩ := id H
  obtain ⟨cl, Ar, q1, S1, q3, H1, G1⟩ := A
  exact Go.st (fun t kk => X.iaload H.exec (cell := cl) (by rw [h1]; exact Ar.1) (State.isArrayOf_alike (s := Z) h4.alike Ar.2.1) Ar.2.2 (inb_of S1 hj) (Has.at H1 (inb_of S1 hj) hv) (g := mkF m pc L (.int j :: .ref a :: st)) rfl rfl (H.dec hd) t kk) k
theorem G.caloadG (H : Hs p l e R s m args below meth c Z a0 EL cw own n0 bytes maxL ret nm T h C S sf) {a : Addr} {kc : ClassId} {z : Int32} {vs : List Value} {dv : Value} (A : Arv Z h a kc .char z vs dv) {j : Int32} {v : Value} (hj : ¬ j < 0 ∧ j < z) (hv : vs.getD j.toNatClampNeg dv = v) {pc pc' : Nat} {L : Array Slot} {st : List Value} (hd : decode bytes pc = .ok (.caload, 1)) (hp : pc + 1 = pc') (k : Go p e below P (T.setTop (mkF m pc' L (v :: st)))) : Go p e below P (T.setTop (mkF m pc L (.int j :: .ref a :: st))) := by
  subst hp
  obtain ⟨hM, vm0, k0, locs, X, h1, h2, h3, h4, h5, h6, h7, h8, h9, hO⟩ := id H
  obtain ⟨cl, Ar, q1, S1, q3, H1, G1⟩ := A
  exact Go.st (fun t kk => X.caload H.exec (cell := cl) (by rw [h1]; exact Ar.1) (State.isArrayOf_alike (s := Z) h4.alike Ar.2.1) Ar.2.2 (inb_of S1 hj) (Has.at H1 (inb_of S1 hj) hv) (g := mkF m pc L (.int j :: .ref a :: st)) rfl rfl (H.dec hd) t kk) k
theorem G.baloadG (H : Hs p l e R s m args below meth c Z a0 EL cw own n0 bytes maxL ret nm T h C S sf) {a : Addr} {kc : ClassId} {z : Int32} {vs : List Value} {dv : Value} (A : Arv Z h a kc .byte z vs dv) {j : Int32} {v : Value} (hj : ¬ j < 0 ∧ j < z) (hv : vs.getD j.toNatClampNeg dv = v) {pc pc' : Nat} {L : Array Slot} {st : List Value} (hd : decode bytes pc = .ok (.baload, 1)) (hp : pc + 1 = pc') (k : Go p e below P (T.setTop (mkF m pc' L (v :: st)))) : Go p e below P (T.setTop (mkF m pc L (.int j :: .ref a :: st))) := by
  subst hp
  obtain ⟨hM, vm0, k0, locs, X, h1, h2, h3, h4, h5, h6, h7, h8, h9, hO⟩ := id H
  obtain ⟨cl, Ar, q1, S1, q3, H1, G1⟩ := A
  exact Go.st (fun t kk => X.baloadBytes H.exec (cell := cl) (by rw [h1]; exact Ar.1) (State.isArrayOf_alike (s := Z) h4.alike Ar.2.1) Ar.2.2 (inb_of S1 hj) (Has.at H1 (inb_of S1 hj) hv) (g := mkF m pc L (.int j :: .ref a :: st)) rfl rfl (H.dec hd) t kk) k
theorem G.aaloadG (H : Hs p l e R s m args below meth c Z a0 EL cw own n0 bytes maxL ret nm T h C S sf) {a : Addr} {kc : ClassId} {ty : FieldType} {z : Int32} {vs : List Value} {dv : Value} (A : Arv Z h a kc ty z vs dv) (hty : ty.isReference = true) {j : Int32} {v : Value} (hj : ¬ j < 0 ∧ j < z) (hv : vs.getD j.toNatClampNeg dv = v) {pc pc' : Nat} {L : Array Slot} {st : List Value} (hd : decode bytes pc = .ok (.aaload, 1)) (hp : pc + 1 = pc') (k : Go p e below P (T.setTop (mkF m pc' L (v :: st)))) : Go p e below P (T.setTop (mkF m pc L (.int j :: .ref a :: st))) := by
  subst hp
  obtain ⟨hM, vm0, k0, locs, X, h1, h2, h3, h4, h5, h6, h7, h8, h9, hO⟩ := id H
  obtain ⟨cl, Ar, q1, S1, q3, H1, G1⟩ := A
  exact Go.st (fun t kk => X.aaload H.exec (cell := cl) (by rw [h1]; exact Ar.1) (State.isArrayOf_alike (s := Z) h4.alike Ar.2.1) hty Ar.2.2 (inb_of S1 hj) (Has.at H1 (inb_of S1 hj) hv) (g := mkF m pc L (.int j :: .ref a :: st)) rfl rfl (H.dec hd) t kk) k
theorem G.ldcI (H : Hs p l e R s m args below meth c Z a0 EL cw own n0 bytes maxL ret nm T h C S sf) {index : Nat} {v : Int32} (w : (Cond.constant own index v).before a0 Z = true) {pc pc' : Nat} {L : Array Slot} {st : List Value} (hd : decode bytes pc = .ok (.ldc index, 2)) (hp : pc + 2 = pc') (k : Go p e below P (T.setTop (mkF m pc' L (.int v :: st)))) : Go p e below P (T.setTop (mkF m pc L st)) := by
  subst hp
  obtain ⟨hM, vm0, k0, locs, X, h1, h2, h3, h4, h5, h6, h7, h8, h9, hO⟩ := id H
  exact Go.st (fun t kk => Jvm.Stand.ldcI X H.exec h5 (mv h4 w) (g := mkF m pc L st) rfl (H.dec hd) kk) k
theorem G.ldc2J (H : Hs p l e R s m args below meth c Z a0 EL cw own n0 bytes maxL ret nm T h C S sf) {index : Nat} {v : Int64} (w : (Cond.constantLong own index v).before a0 Z = true) {pc pc' : Nat} {L : Array Slot} {st : List Value} (hd : decode bytes pc = .ok (.ldc2_w index, 3)) (hp : pc + 3 = pc') (k : Go p e below P (T.setTop (mkF m pc' L (.long v :: st)))) : Go p e below P (T.setTop (mkF m pc L st)) := by
  subst hp
  obtain ⟨hM, vm0, k0, locs, X, h1, h2, h3, h4, h5, h6, h7, h8, h9, hO⟩ := id H
  exact Go.st (fun t kk => Jvm.Stand.ldc2J X H.exec h5 (mv h4 w) (g := mkF m pc L st) rfl (H.dec hd) kk) k
/-! ## the plain steps -/
theorem G.aloadN (H : Hs p l e R s m args below meth c Z a0 EL cw own n0 bytes maxL ret nm T h C S sf) {i : Fin 4} {v : Value} {pc pc' : Nat} {L : Array Slot} {st : List Value} (hd : decode bytes pc = .ok (.aload_n i, 1)) (hp : pc + 1 = pc') (hl : L[i.val]? = some (.val v)) (hv : v.isRef = true) (k : Go p e below P (T.setTop (mkF m pc' L (v :: st)))) : Go p e below P (T.setTop (mkF m pc L (st))) := by
  subst hp
  exact Go.st (fun t kk => XS.aloadN H.here H.exec (g := mkF m pc L (st)) rfl (H.dec hd) hl hv kk) k
theorem G.aload (H : Hs p l e R s m args below meth c Z a0 EL cw own n0 bytes maxL ret nm T h C S sf) {i : Nat} {v : Value} {pc pc' : Nat} {L : Array Slot} {st : List Value} (hd : decode bytes pc = .ok (.aload i, 2)) (hp : pc + 2 = pc') (hl : L[i]? = some (.val v)) (hv : v.isRef = true) (k : Go p e below P (T.setTop (mkF m pc' L (v :: st)))) : Go p e below P (T.setTop (mkF m pc L (st))) := by
  subst hp
  exact Go.st (fun t kk => XS.aload H.here H.exec (g := mkF m pc L (st)) rfl (H.dec hd) hl hv kk) k
theorem G.iloadN (H : Hs p l e R s m args below meth c Z a0 EL cw own n0 bytes maxL ret nm T h C S sf) {i : Fin 4} {v : Int32} {pc pc' : Nat} {L : Array Slot} {st : List Value} (hd : decode bytes pc = .ok (.iload_n i, 1)) (hp : pc + 1 = pc') (hl : L[i.val]? = some (.val (.int v))) (k : Go p e below P (T.setTop (mkF m pc' L (.int v :: st)))) : Go p e below P (T.setTop (mkF m pc L (st))) := by
  subst hp
  exact Go.st (fun t kk => XS.iloadN H.here H.exec (g := mkF m pc L (st)) rfl (H.dec hd) hl kk) k
theorem G.iload (H : Hs p l e R s m args below meth c Z a0 EL cw own n0 bytes maxL ret nm T h C S sf) {i : Nat} {v : Int32} {pc pc' : Nat} {L : Array Slot} {st : List Value} (hd : decode bytes pc = .ok (.iload i, 2)) (hp : pc + 2 = pc') (hl : L[i]? = some (.val (.int v))) (k : Go p e below P (T.setTop (mkF m pc' L (.int v :: st)))) : Go p e below P (T.setTop (mkF m pc L (st))) := by
  subst hp
  exact Go.st (fun t kk => XS.iload H.here H.exec (g := mkF m pc L (st)) rfl (H.dec hd) hl kk) k
theorem G.lloadN (H : Hs p l e R s m args below meth c Z a0 EL cw own n0 bytes maxL ret nm T h C S sf) {i : Fin 4} {v : Int64} {pc pc' : Nat} {L : Array Slot} {st : List Value} (hd : decode bytes pc = .ok (.lload_n i, 1)) (hp : pc + 1 = pc') (hl : L[i.val]? = some (.val (.long v))) (k : Go p e below P (T.setTop (mkF m pc' L (.long v :: st)))) : Go p e below P (T.setTop (mkF m pc L (st))) := by
  subst hp
  exact Go.st (fun t kk => XT.lloadN H.here H.exec (g := mkF m pc L (st)) rfl (H.dec hd) hl kk) k
theorem G.lload (H : Hs p l e R s m args below meth c Z a0 EL cw own n0 bytes maxL ret nm T h C S sf) {i : Nat} {v : Int64} {pc pc' : Nat} {L : Array Slot} {st : List Value} (hd : decode bytes pc = .ok (.lload i, 2)) (hp : pc + 2 = pc') (hl : L[i]? = some (.val (.long v))) (k : Go p e below P (T.setTop (mkF m pc' L (.long v :: st)))) : Go p e below P (T.setTop (mkF m pc L (st))) := by
  subst hp
  exact Go.st (fun t kk => XT.lload H.here H.exec (g := mkF m pc L (st)) rfl (H.dec hd) hl kk) k
theorem G.iconst (H : Hs p l e R s m args below meth c Z a0 EL cw own n0 bytes maxL ret nm T h C S sf) {i : Int} {v : Int32} {pc pc' : Nat} {L : Array Slot} {st : List Value} (hd : decode bytes pc = .ok (.iconst i, 1)) (hp : pc + 1 = pc') (hv : Int32.ofInt i = v) (k : Go p e below P (T.setTop (mkF m pc' L (.int v :: st)))) : Go p e below P (T.setTop (mkF m pc L (st))) := by
  subst hp; subst hv
  exact Go.st (fun t kk => XS.iconst H.here H.exec (g := mkF m pc L (st)) rfl (H.dec hd) kk) k
theorem G.bipush (H : Hs p l e R s m args below meth c Z a0 EL cw own n0 bytes maxL ret nm T h C S sf) {i : Int} {v : Int32} {pc pc' : Nat} {L : Array Slot} {st : List Value} (hd : decode bytes pc = .ok (.bipush i, 2)) (hp : pc + 2 = pc') (hv : (Int8.ofInt i).toInt32 = v) (k : Go p e below P (T.setTop (mkF m pc' L (.int v :: st)))) : Go p e below P (T.setTop (mkF m pc L (st))) := by
  subst hp; subst hv
  exact Go.st (fun t kk => XS.bipush H.here H.exec (g := mkF m pc L (st)) rfl (H.dec hd) kk) k
theorem G.sipush (H : Hs p l e R s m args below meth c Z a0 EL cw own n0 bytes maxL ret nm T h C S sf) {i : Int} {v : Int32} {pc pc' : Nat} {L : Array Slot} {st : List Value} (hd : decode bytes pc = .ok (.sipush i, 3)) (hp : pc + 3 = pc') (hv : (Int16.ofInt i).toInt32 = v) (k : Go p e below P (T.setTop (mkF m pc' L (.int v :: st)))) : Go p e below P (T.setTop (mkF m pc L (st))) := by
  subst hp; subst hv
  exact Go.st (fun t kk => XS.sipush H.here H.exec (g := mkF m pc L (st)) rfl (H.dec hd) kk) k
theorem G.aconstNull (H : Hs p l e R s m args below meth c Z a0 EL cw own n0 bytes maxL ret nm T h C S sf) {pc pc' : Nat} {L : Array Slot} {st : List Value} (hd : decode bytes pc = .ok (.aconst_null, 1)) (hp : pc + 1 = pc') (k : Go p e below P (T.setTop (mkF m pc' L (.null :: st)))) : Go p e below P (T.setTop (mkF m pc L (st))) := by
  subst hp
  exact Go.st (fun t kk => XS.aconstNull H.here H.exec (g := mkF m pc L (st)) rfl (H.dec hd) kk) k
theorem G.lconst (H : Hs p l e R s m args below meth c Z a0 EL cw own n0 bytes maxL ret nm T h C S sf) {i : Fin 2} {v : Int64} {pc pc' : Nat} {L : Array Slot} {st : List Value} (hd : decode bytes pc = .ok (.lconst i, 1)) (hp : pc + 1 = pc') (hv : Int64.ofNat i = v) (k : Go p e below P (T.setTop (mkF m pc' L (.long v :: st)))) : Go p e below P (T.setTop (mkF m pc L (st))) := by
  subst hp; subst hv
  exact Go.st (fun t kk => XT.lconst H.here H.exec (g := mkF m pc L (st)) rfl (H.dec hd) kk) k
theorem G.iadd (H : Hs p l e R s m args below meth c Z a0 EL cw own n0 bytes maxL ret nm T h C S sf) {x y : Int32} {pc pc' : Nat} {L : Array Slot} {st : List Value} (hd : decode bytes pc = .ok (.iadd, 1)) (hp : pc + 1 = pc') (k : Go p e below P (T.setTop (mkF m pc' L (.int (x + y) :: st)))) : Go p e below P (T.setTop (mkF m pc L (.int y :: .int x :: st))) := by
  subst hp
  exact Go.st (fun t kk => XS.iadd H.here H.exec (g := mkF m pc L (.int y :: .int x :: st)) rfl (H.dec hd) rfl kk) k
theorem G.isub (H : Hs p l e R s m args below meth c Z a0 EL cw own n0 bytes maxL ret nm T h C S sf) {x y : Int32} {pc pc' : Nat} {L : Array Slot} {st : List Value} (hd : decode bytes pc = .ok (.isub, 1)) (hp : pc + 1 = pc') (k : Go p e below P (T.setTop (mkF m pc' L (.int (x - y) :: st)))) : Go p e below P (T.setTop (mkF m pc L (.int y :: .int x :: st))) := by
  subst hp
  exact Go.st (fun t kk => XS.isub H.here H.exec (g := mkF m pc L (.int y :: .int x :: st)) rfl (H.dec hd) rfl kk) k
theorem G.iand (H : Hs p l e R s m args below meth c Z a0 EL cw own n0 bytes maxL ret nm T h C S sf) {x y : Int32} {pc pc' : Nat} {L : Array Slot} {st : List Value} (hd : decode bytes pc = .ok (.iand, 1)) (hp : pc + 1 = pc') (k : Go p e below P (T.setTop (mkF m pc' L (.int (x &&& y) :: st)))) : Go p e below P (T.setTop (mkF m pc L (.int y :: .int x :: st))) := by
  subst hp
  exact Go.st (fun t kk => XS.iand H.here H.exec (g := mkF m pc L (.int y :: .int x :: st)) rfl (H.dec hd) rfl kk) k
theorem G.imul (H : Hs p l e R s m args below meth c Z a0 EL cw own n0 bytes maxL ret nm T h C S sf) {x y : Int32} {pc pc' : Nat} {L : Array Slot} {st : List Value} (hd : decode bytes pc = .ok (.imul, 1)) (hp : pc + 1 = pc') (k : Go p e below P (T.setTop (mkF m pc' L (.int (x * y) :: st)))) : Go p e below P (T.setTop (mkF m pc L (.int y :: .int x :: st))) := by
  subst hp
  exact Go.st (fun t kk => XS.imul H.here H.exec (g := mkF m pc L (.int y :: .int x :: st)) rfl (H.dec hd) rfl kk) k
theorem G.ior (H : Hs p l e R s m args below meth c Z a0 EL cw own n0 bytes maxL ret nm T h C S sf) {x y : Int32} {pc pc' : Nat} {L : Array Slot} {st : List Value} (hd : decode bytes pc = .ok (.ior, 1)) (hp : pc + 1 = pc') (k : Go p e below P (T.setTop (mkF m pc' L (.int (x ||| y) :: st)))) : Go p e below P (T.setTop (mkF m pc L (.int y :: .int x :: st))) := by
  subst hp
  exact Go.st (fun t kk => XT.ior H.here H.exec (g := mkF m pc L (.int y :: .int x :: st)) rfl (H.dec hd) rfl kk) k
theorem G.ixor (H : Hs p l e R s m args below meth c Z a0 EL cw own n0 bytes maxL ret nm T h C S sf) {x y : Int32} {pc pc' : Nat} {L : Array Slot} {st : List Value} (hd : decode bytes pc = .ok (.ixor, 1)) (hp : pc + 1 = pc') (k : Go p e below P (T.setTop (mkF m pc' L (.int (x ^^^ y) :: st)))) : Go p e below P (T.setTop (mkF m pc L (.int y :: .int x :: st))) := by
  subst hp
  exact Go.st (fun t kk => XT.ixor H.here H.exec (g := mkF m pc L (.int y :: .int x :: st)) rfl (H.dec hd) rfl kk) k
theorem G.ishl (H : Hs p l e R s m args below meth c Z a0 EL cw own n0 bytes maxL ret nm T h C S sf) {x y : Int32} {pc pc' : Nat} {L : Array Slot} {st : List Value} (hd : decode bytes pc = .ok (.ishl, 1)) (hp : pc + 1 = pc') (k : Go p e below P (T.setTop (mkF m pc' L (.int (x <<< (y &&& 31)) :: st)))) : Go p e below P (T.setTop (mkF m pc L (.int y :: .int x :: st))) := by
  subst hp
  exact Go.st (fun t kk => XT.ishl H.here H.exec (g := mkF m pc L (.int y :: .int x :: st)) rfl (H.dec hd) rfl kk) k
theorem G.ishr (H : Hs p l e R s m args below meth c Z a0 EL cw own n0 bytes maxL ret nm T h C S sf) {x y : Int32} {pc pc' : Nat} {L : Array Slot} {st : List Value} (hd : decode bytes pc = .ok (.ishr, 1)) (hp : pc + 1 = pc') (k : Go p e below P (T.setTop (mkF m pc' L (.int (x >>> (y &&& 31)) :: st)))) : Go p e below P (T.setTop (mkF m pc L (.int y :: .int x :: st))) := by
  subst hp
  exact Go.st (fun t kk => XT.ishr H.here H.exec (g := mkF m pc L (.int y :: .int x :: st)) rfl (H.dec hd) rfl kk) k
theorem G.iushr (H : Hs p l e R s m args below meth c Z a0 EL cw own n0 bytes maxL ret nm T h C S sf) {x y : Int32} {pc pc' : Nat} {L : Array Slot} {st : List Value} (hd : decode bytes pc = .ok (.iushr, 1)) (hp : pc + 1 = pc') (k : Go p e below P (T.setTop (mkF m pc' L (.int (XT.ushr x y) :: st)))) : Go p e below P (T.setTop (mkF m pc L (.int y :: .int x :: st))) := by
  subst hp
  exact Go.st (fun t kk => XT.iushr H.here H.exec (g := mkF m pc L (.int y :: .int x :: st)) rfl (H.dec hd) rfl kk) k
theorem G.idiv (H : Hs p l e R s m args below meth c Z a0 EL cw own n0 bytes maxL ret nm T h C S sf) {x y : Int32} {pc pc' : Nat} {L : Array Slot} {st : List Value} (hd : decode bytes pc = .ok (.idiv, 1)) (hp : pc + 1 = pc') (hy : y ≠ 0) (k : Go p e below P (T.setTop (mkF m pc' L (.int (x / y) :: st)))) : Go p e below P (T.setTop (mkF m pc L (.int y :: .int x :: st))) := by
  subst hp
  exact Go.st (fun t kk => XS.idiv H.here H.exec (g := mkF m pc L (.int y :: .int x :: st)) rfl (H.dec hd) rfl hy kk) k
theorem G.ineg (H : Hs p l e R s m args below meth c Z a0 EL cw own n0 bytes maxL ret nm T h C S sf) {x : Int32} {pc pc' : Nat} {L : Array Slot} {st : List Value} (hd : decode bytes pc = .ok (.ineg, 1)) (hp : pc + 1 = pc') (k : Go p e below P (T.setTop (mkF m pc' L (.int (-x) :: st)))) : Go p e below P (T.setTop (mkF m pc L (.int x :: st))) := by
  subst hp
  exact Go.st (fun t kk => XS.ineg H.here H.exec (g := mkF m pc L (.int x :: st)) rfl (H.dec hd) rfl kk) k
theorem G.irem (H : Hs p l e R s m args below meth c Z a0 EL cw own n0 bytes maxL ret nm T h C S sf) {x y : Int32} {pc pc' : Nat} {L : Array Slot} {st : List Value} (hd : decode bytes pc = .ok (.irem, 1)) (hp : pc + 1 = pc') (hy : y ≠ 0) (k : Go p e below P (T.setTop (mkF m pc' L (.int (x % y) :: st)))) : Go p e below P (T.setTop (mkF m pc L (.int y :: .int x :: st))) := by
  subst hp
  obtain ⟨-, vm0, k0, locs, X, -⟩ := id H
  exact Go.st (fun t kk => iremM X H.exec (g := mkF m pc L (.int y :: .int x :: st)) rfl (H.dec hd) rfl hy kk) k
theorem G.ladd (H : Hs p l e R s m args below meth c Z a0 EL cw own n0 bytes maxL ret nm T h C S sf) {x y : Int64} {pc pc' : Nat} {L : Array Slot} {st : List Value} (hd : decode bytes pc = .ok (.ladd, 1)) (hp : pc + 1 = pc') (k : Go p e below P (T.setTop (mkF m pc' L (.long (x + y) :: st)))) : Go p e below P (T.setTop (mkF m pc L (.long y :: .long x :: st))) := by
  subst hp
  exact Go.st (fun t kk => XT.ladd H.here H.exec (g := mkF m pc L (.long y :: .long x :: st)) rfl (H.dec hd) rfl kk) k
theorem G.lsub (H : Hs p l e R s m args below meth c Z a0 EL cw own n0 bytes maxL ret nm T h C S sf) {x y : Int64} {pc pc' : Nat} {L : Array Slot} {st : List Value} (hd : decode bytes pc = .ok (.lsub, 1)) (hp : pc + 1 = pc') (k : Go p e below P (T.setTop (mkF m pc' L (.long (x - y) :: st)))) : Go p e below P (T.setTop (mkF m pc L (.long y :: .long x :: st))) := by
  subst hp
  exact Go.st (fun t kk => XT.lsub H.here H.exec (g := mkF m pc L (.long y :: .long x :: st)) rfl (H.dec hd) rfl kk) k
theorem G.land (H : Hs p l e R s m args below meth c Z a0 EL cw own n0 bytes maxL ret nm T h C S sf) {x y : Int64} {pc pc' : Nat} {L : Array Slot} {st : List Value} (hd : decode bytes pc = .ok (.land, 1)) (hp : pc + 1 = pc') (k : Go p e below P (T.setTop (mkF m pc' L (.long (x &&& y) :: st)))) : Go p e below P (T.setTop (mkF m pc L (.long y :: .long x :: st))) := by
  subst hp
  exact Go.st (fun t kk => XT.land H.here H.exec (g := mkF m pc L (.long y :: .long x :: st)) rfl (H.dec hd) rfl kk) k
theorem G.lor (H : Hs p l e R s m args below meth c Z a0 EL cw own n0 bytes maxL ret nm T h C S sf) {x y : Int64} {pc pc' : Nat} {L : Array Slot} {st : List Value} (hd : decode bytes pc = .ok (.lor, 1)) (hp : pc + 1 = pc') (k : Go p e below P (T.setTop (mkF m pc' L (.long (x ||| y) :: st)))) : Go p e below P (T.setTop (mkF m pc L (.long y :: .long x :: st))) := by
  subst hp
  exact Go.st (fun t kk => XT.lor H.here H.exec (g := mkF m pc L (.long y :: .long x :: st)) rfl (H.dec hd) rfl kk) k
theorem G.lxor (H : Hs p l e R s m args below meth c Z a0 EL cw own n0 bytes maxL ret nm T h C S sf) {x y : Int64} {pc pc' : Nat} {L : Array Slot} {st : List Value} (hd : decode bytes pc = .ok (.lxor, 1)) (hp : pc + 1 = pc') (k : Go p e below P (T.setTop (mkF m pc' L (.long (x ^^^ y) :: st)))) : Go p e below P (T.setTop (mkF m pc L (.long y :: .long x :: st))) := by
  subst hp
  exact Go.st (fun t kk => XT.lxor H.here H.exec (g := mkF m pc L (.long y :: .long x :: st)) rfl (H.dec hd) rfl kk) k
theorem G.lmul (H : Hs p l e R s m args below meth c Z a0 EL cw own n0 bytes maxL ret nm T h C S sf) {x y : Int64} {pc pc' : Nat} {L : Array Slot} {st : List Value} (hd : decode bytes pc = .ok (.lmul, 1)) (hp : pc + 1 = pc') (k : Go p e below P (T.setTop (mkF m pc' L (.long (x * y) :: st)))) : Go p e below P (T.setTop (mkF m pc L (.long y :: .long x :: st))) := by
  subst hp
  exact Go.st (fun t kk => XT.lmul H.here H.exec (g := mkF m pc L (.long y :: .long x :: st)) rfl (H.dec hd) rfl kk) k
theorem G.lushr (H : Hs p l e R s m args below meth c Z a0 EL cw own n0 bytes maxL ret nm T h C S sf) {x : Int64} {y : Int32} {pc pc' : Nat} {L : Array Slot} {st : List Value} (hd : decode bytes pc = .ok (.lushr, 1)) (hp : pc + 1 = pc') (k : Go p e below P (T.setTop (mkF m pc' L (.long (XT.ushrL x y) :: st)))) : Go p e below P (T.setTop (mkF m pc L (.int y :: .long x :: st))) := by
  subst hp
  exact Go.st (fun t kk => XT.lushr H.here H.exec (g := mkF m pc L (.int y :: .long x :: st)) rfl (H.dec hd) rfl kk) k
theorem G.i2l (H : Hs p l e R s m args below meth c Z a0 EL cw own n0 bytes maxL ret nm T h C S sf) {x : Int32} {pc pc' : Nat} {L : Array Slot} {st : List Value} (hd : decode bytes pc = .ok (.i2l, 1)) (hp : pc + 1 = pc') (k : Go p e below P (T.setTop (mkF m pc' L (.long (x.toInt64) :: st)))) : Go p e below P (T.setTop (mkF m pc L (.int x :: st))) := by
  subst hp
  exact Go.st (fun t kk => XT.i2l H.here H.exec (g := mkF m pc L (.int x :: st)) rfl (H.dec hd) rfl kk) k
theorem G.l2i (H : Hs p l e R s m args below meth c Z a0 EL cw own n0 bytes maxL ret nm T h C S sf) {x : Int64} {pc pc' : Nat} {L : Array Slot} {st : List Value} (hd : decode bytes pc = .ok (.l2i, 1)) (hp : pc + 1 = pc') (k : Go p e below P (T.setTop (mkF m pc' L (.int (x.toInt32) :: st)))) : Go p e below P (T.setTop (mkF m pc L (.long x :: st))) := by
  subst hp
  exact Go.st (fun t kk => XT.l2i H.here H.exec (g := mkF m pc L (.long x :: st)) rfl (H.dec hd) rfl kk) k
theorem G.i2b (H : Hs p l e R s m args below meth c Z a0 EL cw own n0 bytes maxL ret nm T h C S sf) {x : Int32} {pc pc' : Nat} {L : Array Slot} {st : List Value} (hd : decode bytes pc = .ok (.i2b, 1)) (hp : pc + 1 = pc') (k : Go p e below P (T.setTop (mkF m pc' L (.int (x.toInt8.toInt32) :: st)))) : Go p e below P (T.setTop (mkF m pc L (.int x :: st))) := by
  subst hp
  exact Go.st (fun t kk => XT.i2b H.here H.exec (g := mkF m pc L (.int x :: st)) rfl (H.dec hd) rfl kk) k
theorem G.i2s (H : Hs p l e R s m args below meth c Z a0 EL cw own n0 bytes maxL ret nm T h C S sf) {x : Int32} {pc pc' : Nat} {L : Array Slot} {st : List Value} (hd : decode bytes pc = .ok (.i2s, 1)) (hp : pc + 1 = pc') (k : Go p e below P (T.setTop (mkF m pc' L (.int (x.toInt16.toInt32) :: st)))) : Go p e below P (T.setTop (mkF m pc L (.int x :: st))) := by
  subst hp
  exact Go.st (fun t kk => XT.i2s H.here H.exec (g := mkF m pc L (.int x :: st)) rfl (H.dec hd) rfl kk) k
theorem G.i2c (H : Hs p l e R s m args below meth c Z a0 EL cw own n0 bytes maxL ret nm T h C S sf) {x y : Int32} {pc pc' : Nat} {L : Array Slot} {st : List Value} (hd : decode bytes pc = .ok (.i2c, 1)) (hp : pc + 1 = pc') (hy : x.toUInt32.toUInt16.toUInt32.toInt32 = y) (k : Go p e below P (T.setTop (mkF m pc' L (.int y :: st)))) : Go p e below P (T.setTop (mkF m pc L (.int x :: st))) := by
  subst hp; subst hy
  exact Go.st (fun t kk => XT.i2c H.here H.exec (g := mkF m pc L (.int x :: st)) rfl (H.dec hd) rfl kk) k
theorem G.lcmp (H : Hs p l e R s m args below meth c Z a0 EL cw own n0 bytes maxL ret nm T h C S sf) {x y : Int64} {pc pc' : Nat} {L : Array Slot} {st : List Value} (hd : decode bytes pc = .ok (.lcmp, 1)) (hp : pc + 1 = pc') (k : Go p e below P (T.setTop (mkF m pc' L (.int (XT.cmpL x y) :: st)))) : Go p e below P (T.setTop (mkF m pc L (.long y :: .long x :: st))) := by
  subst hp
  exact Go.st (fun t kk => XT.lcmp H.here H.exec (g := mkF m pc L (.long y :: .long x :: st)) rfl (H.dec hd) rfl kk) k
theorem G.pop (H : Hs p l e R s m args below meth c Z a0 EL cw own n0 bytes maxL ret nm T h C S sf) {x : Value} {pc pc' : Nat} {L : Array Slot} {st : List Value} (hd : decode bytes pc = .ok (.pop, 1)) (hp : pc + 1 = pc') (hc : x.category = 1) (k : Go p e below P (T.setTop (mkF m pc' L (st)))) : Go p e below P (T.setTop (mkF m pc L (x :: st))) := by
  subst hp
  exact Go.st (fun t kk => XT.pop H.here H.exec (g := mkF m pc L (x :: st)) rfl (H.dec hd) rfl hc kk) k
theorem G.dup (H : Hs p l e R s m args below meth c Z a0 EL cw own n0 bytes maxL ret nm T h C S sf) {x : Value} {pc pc' : Nat} {L : Array Slot} {st : List Value} (hd : decode bytes pc = .ok (.dup, 1)) (hp : pc + 1 = pc') (hc : x.category = 1) (k : Go p e below P (T.setTop (mkF m pc' L (x :: x :: st)))) : Go p e below P (T.setTop (mkF m pc L (x :: st))) := by
  subst hp
  exact Go.st (fun t kk => XS.dup H.here H.exec (g := mkF m pc L (x :: st)) rfl (H.dec hd) rfl hc kk) k
theorem G.dupX1 (H : Hs p l e R s m args below meth c Z a0 EL cw own n0 bytes maxL ret nm T h C S sf) {x y : Value} {pc pc' : Nat} {L : Array Slot} {st : List Value} (hd : decode bytes pc = .ok (.dup_x1, 1)) (hp : pc + 1 = pc') (hc : x.category = 1) (hc' : y.category = 1) (k : Go p e below P (T.setTop (mkF m pc' L (x :: y :: x :: st)))) : Go p e below P (T.setTop (mkF m pc L (x :: y :: st))) := by
  subst hp
  exact Go.st (fun t kk => XT.dupX1 H.here H.exec (g := mkF m pc L (x :: y :: st)) rfl (H.dec hd) rfl hc hc' kk) k
theorem G.dup2 (H : Hs p l e R s m args below meth c Z a0 EL cw own n0 bytes maxL ret nm T h C S sf) {x y : Value} {pc pc' : Nat} {L : Array Slot} {st : List Value} (hd : decode bytes pc = .ok (.dup2, 1)) (hp : pc + 1 = pc') (hc : x.category = 1) (hc' : y.category = 1) (k : Go p e below P (T.setTop (mkF m pc' L (x :: y :: x :: y :: st)))) : Go p e below P (T.setTop (mkF m pc L (x :: y :: st))) := by
  subst hp
  exact Go.st (fun t kk => XT.dup2 H.here H.exec (g := mkF m pc L (x :: y :: st)) rfl (H.dec hd) rfl hc hc' kk) k
theorem G.istoreN (H : Hs p l e R s m args below meth c Z a0 EL cw own n0 bytes maxL ret nm T h C S sf) {i : Fin 4} {x : Int32} {L' : Array Slot} {pc pc' : Nat} {L : Array Slot} {st : List Value} (hd : decode bytes pc = .ok (.istore_n i, 1)) (hp : pc + 1 = pc') (hl : storeLocals L i.val (.int x) = some L') (k : Go p e below P (T.setTop (mkF m pc' L' (st)))) : Go p e below P (T.setTop (mkF m pc L (.int x :: st))) := by
  subst hp
  exact Go.st (fun t kk => XS.istoreN H.here H.exec (g := mkF m pc L (.int x :: st)) rfl (H.dec hd) rfl hl kk) k
theorem G.istore (H : Hs p l e R s m args below meth c Z a0 EL cw own n0 bytes maxL ret nm T h C S sf) {i : Nat} {x : Int32} {L' : Array Slot} {pc pc' : Nat} {L : Array Slot} {st : List Value} (hd : decode bytes pc = .ok (.istore i, 2)) (hp : pc + 2 = pc') (hl : storeLocals L i (.int x) = some L') (k : Go p e below P (T.setTop (mkF m pc' L' (st)))) : Go p e below P (T.setTop (mkF m pc L (.int x :: st))) := by
  subst hp
  exact Go.st (fun t kk => XS.istore H.here H.exec (g := mkF m pc L (.int x :: st)) rfl (H.dec hd) rfl hl kk) k
theorem G.astoreN (H : Hs p l e R s m args below meth c Z a0 EL cw own n0 bytes maxL ret nm T h C S sf) {i : Fin 4} {x : Value} {L' : Array Slot} {pc pc' : Nat} {L : Array Slot} {st : List Value} (hd : decode bytes pc = .ok (.astore_n i, 1)) (hp : pc + 1 = pc') (hv : x.isRef = true) (hl : storeLocals L i.val x = some L') (k : Go p e below P (T.setTop (mkF m pc' L' (st)))) : Go p e below P (T.setTop (mkF m pc L (x :: st))) := by
  subst hp
  exact Go.st (fun t kk => XS.astoreN H.here H.exec (g := mkF m pc L (x :: st)) rfl (H.dec hd) rfl hv hl kk) k
theorem G.astore (H : Hs p l e R s m args below meth c Z a0 EL cw own n0 bytes maxL ret nm T h C S sf) {i : Nat} {x : Value} {L' : Array Slot} {pc pc' : Nat} {L : Array Slot} {st : List Value} (hd : decode bytes pc = .ok (.astore i, 2)) (hp : pc + 2 = pc') (hv : x.isRef = true) (hl : storeLocals L i x = some L') (k : Go p e below P (T.setTop (mkF m pc' L' (st)))) : Go p e below P (T.setTop (mkF m pc L (x :: st))) := by
  subst hp
  exact Go.st (fun t kk => XS.astore H.here H.exec (g := mkF m pc L (x :: st)) rfl (H.dec hd) rfl hv hl kk) k
theorem G.iinc (H : Hs p l e R s m args below meth c Z a0 EL cw own n0 bytes maxL ret nm T h C S sf) {i : Nat} {cst : Int} {x v : Int32} {L' : Array Slot} {pc pc' : Nat} {L : Array Slot} {st : List Value} (hd : decode bytes pc = .ok (.iinc i cst, 3)) (hp : pc + 3 = pc') (hl : L[i]? = some (.val (.int x))) (hv : x + Int32.ofInt cst = v) (hl' : storeLocals L i (.int v) = some L') (k : Go p e below P (T.setTop (mkF m pc' L' (st)))) : Go p e below P (T.setTop (mkF m pc L (st))) := by
  subst hp; subst hv
  exact Go.st (fun t kk => XS.iinc H.here H.exec (g := mkF m pc L (st)) rfl (H.dec hd) hl hl' kk) k
theorem G.goto (H : Hs p l e R s m args below meth c Z a0 EL cw own n0 bytes maxL ret nm T h C S sf) {o : Int} {pc pc' : Nat} {L : Array Slot} {st : List Value} (hd : decode bytes pc = .ok (.goto o, 3)) (ho : 0 ≤ (pc : Int) + o) (hp : ((pc : Int) + o).toNat = pc') (k : Go p e below P (T.setTop (mkF m pc' L (st)))) : Go p e below P (T.setTop (mkF m pc L (st))) :=
  Go.st (fun t kk => XS.goto H.here H.exec (g := mkF m pc L (st)) rfl (pc0 := pc) rfl (H.dec hd) ho hp kk) k
theorem G.ifYes (H : Hs p l e R s m args below meth c Z a0 EL cw own n0 bytes maxL ret nm T h C S sf) {cd : ClassFile.Cond} {x : Int32} {o : Int} {pc pc' : Nat} {L : Array Slot} {st : List Value} (hd : decode bytes pc = .ok (.ifCond cd o, 3)) (hc : ifCond.holds cd x = true) (ho : 0 ≤ (pc : Int) + o) (hp : ((pc : Int) + o).toNat = pc') (k : Go p e below P (T.setTop (mkF m pc' L (st)))) : Go p e below P (T.setTop (mkF m pc L (.int x :: st))) :=
  Go.st (fun t kk => XS.ifYes H.here H.exec (g := mkF m pc L (.int x :: st)) rfl (pc0 := pc) rfl (H.dec hd) rfl hc ho hp kk) k
theorem G.icmpYes (H : Hs p l e R s m args below meth c Z a0 EL cw own n0 bytes maxL ret nm T h C S sf) {cd : ClassFile.Cond} {x y : Int32} {o : Int} {pc pc' : Nat} {L : Array Slot} {st : List Value} (hd : decode bytes pc = .ok (.if_icmp cd o, 3)) (hc : if_icmp.holds cd x y = true) (ho : 0 ≤ (pc : Int) + o) (hp : ((pc : Int) + o).toNat = pc') (k : Go p e below P (T.setTop (mkF m pc' L (st)))) : Go p e below P (T.setTop (mkF m pc L (.int y :: .int x :: st))) :=
  Go.st (fun t kk => XS.icmpYes H.here H.exec (g := mkF m pc L (.int y :: .int x :: st)) rfl (pc0 := pc) rfl (H.dec hd) rfl hc ho hp kk) k
theorem G.ifnullYes (H : Hs p l e R s m args below meth c Z a0 EL cw own n0 bytes maxL ret nm T h C S sf) {o : Int} {pc pc' : Nat} {L : Array Slot} {st : List Value} (hd : decode bytes pc = .ok (.ifnull o, 3)) (ho : 0 ≤ (pc : Int) + o) (hp : ((pc : Int) + o).toNat = pc') (k : Go p e below P (T.setTop (mkF m pc' L (st)))) : Go p e below P (T.setTop (mkF m pc L (.null :: st))) :=
  Go.st (fun t kk => XS.ifnullYes H.here H.exec (g := mkF m pc L (.null :: st)) rfl (pc0 := pc) rfl (H.dec hd) rfl ho hp kk) k
theorem G.ifnonnullYes (H : Hs p l e R s m args below meth c Z a0 EL cw own n0 bytes maxL ret nm T h C S sf) {b : Addr} {o : Int} {pc pc' : Nat} {L : Array Slot} {st : List Value} (hd : decode bytes pc = .ok (.ifnonnull o, 3)) (ho : 0 ≤ (pc : Int) + o) (hp : ((pc : Int) + o).toNat = pc') (k : Go p e below P (T.setTop (mkF m pc' L (st)))) : Go p e below P (T.setTop (mkF m pc L (.ref b :: st))) :=
  Go.st (fun t kk => XT.ifnonnullYes H.here H.exec (g := mkF m pc L (.ref b :: st)) rfl (pc0 := pc) rfl (H.dec hd) rfl ho hp kk) k
theorem G.acmpYes (H : Hs p l e R s m args below meth c Z a0 EL cw own n0 bytes maxL ret nm T h C S sf) {cd : ClassFile.ACond} {x y : Value} {o : Int} {pc pc' : Nat} {L : Array Slot} {st : List Value} (hd : decode bytes pc = .ok (.if_acmp cd o, 3)) (hx' : x.isRef = true) (hy' : y.isRef = true) (hc : XT.acmp cd x y = true) (ho : 0 ≤ (pc : Int) + o) (hp : ((pc : Int) + o).toNat = pc') (k : Go p e below P (T.setTop (mkF m pc' L (st)))) : Go p e below P (T.setTop (mkF m pc L (y :: x :: st))) :=
  Go.st (fun t kk => XT.acmpYes H.here H.exec (g := mkF m pc L (y :: x :: st)) rfl (pc0 := pc) rfl (H.dec hd) rfl hx' hy' hc ho hp kk) k
theorem G.ifNo (H : Hs p l e R s m args below meth c Z a0 EL cw own n0 bytes maxL ret nm T h C S sf) {cd : ClassFile.Cond} {o : Int} {x : Int32} {pc pc' : Nat} {L : Array Slot} {st : List Value} (hd : decode bytes pc = .ok (.ifCond cd o, 3)) (hp : pc + 3 = pc') (hc : ifCond.holds cd x = false) (k : Go p e below P (T.setTop (mkF m pc' L (st)))) : Go p e below P (T.setTop (mkF m pc L (.int x :: st))) := by
  subst hp
  exact Go.st (fun t kk => XS.ifNo H.here H.exec (g := mkF m pc L (.int x :: st)) rfl (H.dec hd) rfl hc kk) k
theorem G.icmpNo (H : Hs p l e R s m args below meth c Z a0 EL cw own n0 bytes maxL ret nm T h C S sf) {cd : ClassFile.Cond} {o : Int} {x y : Int32} {pc pc' : Nat} {L : Array Slot} {st : List Value} (hd : decode bytes pc = .ok (.if_icmp cd o, 3)) (hp : pc + 3 = pc') (hc : if_icmp.holds cd x y = false) (k : Go p e below P (T.setTop (mkF m pc' L (st)))) : Go p e below P (T.setTop (mkF m pc L (.int y :: .int x :: st))) := by
  subst hp
  exact Go.st (fun t kk => XS.icmpNo H.here H.exec (g := mkF m pc L (.int y :: .int x :: st)) rfl (H.dec hd) rfl hc kk) k
theorem G.ifnullNo (H : Hs p l e R s m args below meth c Z a0 EL cw own n0 bytes maxL ret nm T h C S sf) {o : Int} {b : Addr} {pc pc' : Nat} {L : Array Slot} {st : List Value} (hd : decode bytes pc = .ok (.ifnull o, 3)) (hp : pc + 3 = pc') (k : Go p e below P (T.setTop (mkF m pc' L (st)))) : Go p e below P (T.setTop (mkF m pc L (.ref b :: st))) := by
  subst hp
  exact Go.st (fun t kk => XS.ifnullNo H.here H.exec (g := mkF m pc L (.ref b :: st)) rfl (H.dec hd) rfl kk) k
theorem G.ifnonnullNo (H : Hs p l e R s m args below meth c Z a0 EL cw own n0 bytes maxL ret nm T h C S sf) {o : Int} {pc pc' : Nat} {L : Array Slot} {st : List Value} (hd : decode bytes pc = .ok (.ifnonnull o, 3)) (hp : pc + 3 = pc') (k : Go p e below P (T.setTop (mkF m pc' L (st)))) : Go p e below P (T.setTop (mkF m pc L (.null :: st))) := by
  subst hp
  exact Go.st (fun t kk => XT.ifnonnullNo H.here H.exec (g := mkF m pc L (.null :: st)) rfl (H.dec hd) rfl kk) k
theorem G.acmpNo (H : Hs p l e R s m args below meth c Z a0 EL cw own n0 bytes maxL ret nm T h C S sf) {cd : ClassFile.ACond} {o : Int} {x y : Value} {pc pc' : Nat} {L : Array Slot} {st : List Value} (hd : decode bytes pc = .ok (.if_acmp cd o, 3)) (hp : pc + 3 = pc') (hx' : x.isRef = true) (hy' : y.isRef = true) (hc : XT.acmp cd x y = false) (k : Go p e below P (T.setTop (mkF m pc' L (st)))) : Go p e below P (T.setTop (mkF m pc L (y :: x :: st))) := by
  subst hp
  exact Go.st (fun t kk => XT.acmpNo H.here H.exec (g := mkF m pc L (y :: x :: st)) rfl (H.dec hd) rfl hx' hy' hc kk) k
theorem G.tswIn (H : Hs p l e R s m args below meth c Z a0 EL cw own n0 bytes maxL ret nm T h C S sf) {dflt low high : Int} {offs : Array Int} {len : Nat} {o : Int} {i : Int32} {pc pc' : Nat} {L : Array Slot} {st : List Value} (hd : decode bytes pc = .ok (.tableswitch dflt low high offs, len)) (hin : ¬ (i.toInt < low ∨ i.toInt > high)) (hoff : offs[(i.toInt - low).toNat]? = some o) (ho : 0 ≤ (pc : Int) + o) (hp : ((pc : Int) + o).toNat = pc') (k : Go p e below P (T.setTop (mkF m pc' L st))) : Go p e below P (T.setTop (mkF m pc L (.int i :: st))) :=
  Go.st (fun t kk => XS.tswIn H.here H.exec (g := mkF m pc L (.int i :: st)) rfl (pc0 := pc) rfl (H.dec hd) rfl hin hoff ho hp kk) k
theorem G.tswOut (H : Hs p l e R s m args below meth c Z a0 EL cw own n0 bytes maxL ret nm T h C S sf) {dflt low high : Int} {offs : Array Int} {len : Nat} {i : Int32} {pc pc' : Nat} {L : Array Slot} {st : List Value} (hd : decode bytes pc = .ok (.tableswitch dflt low high offs, len)) (hout : i.toInt < low ∨ i.toInt > high) (ho : 0 ≤ (pc : Int) + dflt) (hp : ((pc : Int) + dflt).toNat = pc') (k : Go p e below P (T.setTop (mkF m pc' L st))) : Go p e below P (T.setTop (mkF m pc L (.int i :: st))) :=
  Go.st (fun t kk => XS.tswOut H.here H.exec (g := mkF m pc L (.int i :: st)) rfl (pc0 := pc) rfl (H.dec hd) rfl hout ho hp kk) k
/-! ## what makes or writes -/
theorem Hs.ext {T' : State} {h' : Heap} {C' S' : Nat} {vm0 : Vm} {k0 : Nat} {locs : List Loc} (H : Hs p l e R s m args below meth c Z a0 EL cw own n0 bytes maxL ret nm T h C S sf) (X' : Stand p l e R (s.setVm vm0) m args below meth c T' locs C' S') (e' : T'.heap = h') (E : Ext h h') (h2 : s.Since vm0 k0) (h3 : k0 ≤ h.size) (h4 : Z.Warmed39 vm0) (h5 : vm0.findClass own = some m.cls) (h6 : Fr n0 locs) (h7 : CHr Z EL s.vm s.heap vm0 h) (h8 : ∀ x ∈ sf, x < h.size ∧ Safe Z EL vm0 h x) (h9 : cw ∨ s.WarmedH vm0) (hO : Old Z n0 h) (hlt : h.size < h'.size) : Hs p l e R s m args below meth c Z a0 EL cw own n0 bytes maxL ret nm T' h' C' S' (h.size :: sf) :=
  ⟨H.1, vm0, k0, locs, X', e', h2, Nat.le_trans h3 E.1, h4, h5, h6, h7.trans (CHr.ext E h7.1), fun x hx => by
    rcases List.mem_cons.mp hx with rfl | hx
    · exact ⟨hlt, Safe.ext E h7.1 (Safe.new (Nat.le_refl _))⟩
    · exact ⟨Nat.lt_of_lt_of_le (h8 x hx).1 E.1, Safe.ext E h7.1 (h8 x hx).2⟩, h9, hO.ext E⟩
theorem G.new (H : Hs p l e R s m args below meth c Z a0 EL cw own n0 bytes maxL ret nm T h C S sf) {K : String} {index n : Nat} (w : (Cond.classLink own index K).before a0 Z = true) (wi : (Cond.instantiable K n).before a0 Z = true) (wz : (Cond.initialized K).before a0 Z = true) {pc pc' : Nat} {L : Array Slot} {st : List Value} (hd : decode bytes pc = .ok (.new index, 3)) (hp : pc + 3 = pc') (hc : C + 1 ≤ R.cells) (hl : S + n ≤ R.slots)
    (k : ∀ T' h' a, a = h.size → Hs p l e R s m args below meth c Z a0 EL cw own n0 bytes maxL ret nm T' h' (C + 1) (S + n) (a :: sf) → Ext h h' → Exa Z h' a K → (∀ {O nm' d : String} {ty : FieldType}, Laid Z a0 K O nm' d → parseFieldDescriptor d = some ty → Fld Z h' a O nm' d (defaultValue ty)) → Go p e below P (T'.setTop (mkF m pc' L (.ref a :: st)))) : Go p e below P (T.setTop (mkF m pc L st)) := by
  subst hp
  obtain ⟨hM, vm0, k0, locs, X, h1, h2, h3, h4, h5, h6, h7, h8, h9, hO⟩ := id H
  obtain ⟨T', h', X', e', E, A, D, -, st'⟩ := RoadKit.newO X H.exec h4 h5 w wi wz h1 (g := mkF m pc L st) rfl (H.dec hd) hc hl
  exact Go.st st' (k T' h' _ rfl (H.ext X' e' E h2 h3 h4 h5 h6 h7 h8 h9 hO A.lt) E A D)
theorem G.newP (H : Hs p l e R s m args below meth c Z a0 EL cw own n0 bytes maxL ret nm T h C S sf) {aty : ArrayType} (w : (Cond.arrayClass (newarray.typeOf aty)).before a0 Z = true) {z : Int32} {pc pc' : Nat} {L : Array Slot} {st : List Value} (hd : decode bytes pc = .ok (.newarray aty, 2)) (hp : pc + 2 = pc') (hn : ¬ z < 0) {cap : Nat} (hcap : z.toNatClampNeg ≤ cap) (hb : cap * 8 ≤ 536870912) (hc : C + 1 ≤ R.cells) (hl : S + cap ≤ R.slots) {vs : List Value} (hvs : List.replicate z.toNatClampNeg (defaultValue (newarray.typeOf aty)) = vs)
    (k : ∀ T' h' a kc, a = h.size → Hs p l e R s m args below meth c Z a0 EL cw own n0 bytes maxL ret nm T' h' (C + 1) (S + cap) (a :: sf) → Ext h h' → Arv Z h' a kc (newarray.typeOf aty) z vs (defaultValue (newarray.typeOf aty)) → Go p e below P (T'.setTop (mkF m pc' L (.ref a :: st)))) : Go p e below P (T.setTop (mkF m pc L (.int z :: st))) := by
  subst hp
  obtain ⟨hM, vm0, k0, locs, X, h1, h2, h3, h4, h5, h6, h7, h8, h9, hO⟩ := id H
  obtain ⟨T', h', cA, X', e', E, A, st'⟩ := RoadKit.newP X H.exec h4 w h1 (g := mkF m pc L (.int z :: st)) rfl (H.dec hd) rfl hn hcap hb hc hl
  refine Go.st st' (k T' h' _ cA rfl (H.ext X' e' E h2 h3 h4 h5 h6 h7 h8 h9 hO A.lt) E ?_)
  subst hvs
  exact (Arv.new A hn).pad (fun i => by simpa using pad_rep [] (defaultValue (newarray.typeOf aty)) z.toNatClampNeg i)
theorem G.newR (H : Hs p l e R s m args below meth c Z a0 EL cw own n0 bytes maxL ret nm T h C S sf) {K : String} {index : Nat} (w1 : (Cond.classLink own index K).before a0 Z = true) (w2 : (Cond.arrayOver (.object K)).before a0 Z = true) {z : Int32} {pc pc' : Nat} {L : Array Slot} {st : List Value} (hd : decode bytes pc = .ok (.anewarray index, 3)) (hp : pc + 3 = pc') (hn : ¬ z < 0) {cap : Nat} (hcap : z.toNatClampNeg ≤ cap) (hb : cap * 8 ≤ 536870912) (hc : C + 1 ≤ R.cells) (hl : S + cap ≤ R.slots) {vs : List Value} (hvs : List.replicate z.toNatClampNeg Value.null = vs) {ad : String} (had : "[" ++ (FieldType.object K).toString = ad)
    (k : ∀ T' h' a kc, a = h.size → Hs p l e R s m args below meth c Z a0 EL cw own n0 bytes maxL ret nm T' h' (C + 1) (S + cap) (a :: sf) → Ext h h' → Arv Z h' a kc (.object K) z vs .null → Exa Z h' a ad → Ovr Z kc K → Go p e below P (T'.setTop (mkF m pc' L (.ref a :: st)))) : Go p e below P (T.setTop (mkF m pc L (.int z :: st))) := by
  subst hp
  obtain ⟨hM, vm0, k0, locs, X, h1, h2, h3, h4, h5, h6, h7, h8, h9, hO⟩ := id H
  obtain ⟨T', h', cA, X', e', E, A, EX, O, st'⟩ := RoadKit.newRE X H.exec h4 h5 w1 w2 h1 (g := mkF m pc L (.int z :: st)) rfl (H.dec hd) rfl hn hcap hb hc hl had
  refine Go.st st' (k T' h' _ cA rfl (H.ext X' e' E h2 h3 h4 h5 h6 h7 h8 h9 hO A.lt) E ?_ EX O)
  subst hvs
  exact (Arv.new A hn).pad (fun i => by show (List.replicate z.toNatClampNeg Value.null).getD i Value.null = ([] : List Value).getD i Value.null; simpa using pad_rep [] Value.null z.toNatClampNeg i)
theorem Hs.wr {T' : State} {h' : Heap} {vm0 : Vm} {k0 : Nat} {locs : List Loc} {a : Addr} {sl : Nat} {v : Value} (H : Hs p l e R s m args below meth c Z a0 EL cw own n0 bytes maxL ret nm T h C S sf) (X' : Stand p l e R (s.setVm vm0) m args below meth c T' (locs ++ [⟨a, sl⟩]) C S) (e' : T'.heap = h') (W : Wr h h' a sl v) (q : n0 ≤ a) (sa : Safe Z EL vm0 h a) (h2 : s.Since vm0 k0) (h3 : k0 ≤ h.size) (h4 : Z.Warmed39 vm0) (h5 : vm0.findClass own = some m.cls) (h6 : Fr n0 locs) (h7 : CHr Z EL s.vm s.heap vm0 h) (h8 : ∀ x ∈ sf, x < h.size ∧ Safe Z EL vm0 h x) (h9 : cw ∨ s.WarmedH vm0) (hO : Old Z n0 h) : Hs p l e R s m args below meth c Z a0 EL cw own n0 bytes maxL ret nm T' h' C S sf :=
  ⟨H.1, vm0, k0, locs ++ [⟨a, sl⟩], X', e', h2, by rw [W.size]; exact h3, h4, h5, Fr.snoc X' h6 q, h7.trans (CHr.wr W sa h7.1), fun x hx => ⟨by rw [W.size]; exact (h8 x hx).1, Safe.wr W sa h7.1 (h8 x hx).2⟩, h9, hO.wr W q⟩
theorem G.putF (H : Hs p l e R s m args below meth c Z a0 EL cw own n0 bytes maxL ret nm T h C S sf) {R0 O n d K : String} {index kk : Nat} {ty : FieldType} (w : (Cond.fieldLink own index R0 n d).before a0 Z = true) (via : Via Z R0 O n d) {a : Addr} {v old : Value} (F : Fld Z h a O n d old) (E : Exa Z h a K) (Ly : (Cond.lays K O n d).before a0 Z = true ∨ ((Cond.laysFinal K O n d).before a0 Z = true ∧ own = O ∧ nm = "<init>")) (wi : (Cond.instantiable K kk).before a0 Z = true) (hty : parseFieldDescriptor d = some ty) (hn : narrow ty v = v) (hf : fits ty v = true) (hq : n0 ≤ a) (hsf : Sf Z EL h sf a) {pc pc' : Nat} {L : Array Slot} {st : List Value} (hd : decode bytes pc = .ok (.putfield index, 3)) (hp : pc + 3 = pc')
    (k : ∀ T' h', Hs p l e R s m args below meth c Z a0 EL cw own n0 bytes maxL ret nm T' h' C S sf → Wr h h' a (RoadKit.slotOf Z O n d) v → Go p e below P (T'.setTop (mkF m pc' L st))) : Go p e below P (T.setTop (mkF m pc L (v :: .ref a :: st))) := by
  subst hp
  obtain ⟨hM, vm0, k0, locs, X, h1, h2, h3, h4, h5, h6, h7, h8, h9, hO⟩ := id H
  obtain ⟨T', h', X', e', W, st'⟩ := RoadKit.putF X H.exec h4 (host := "") h5 (Or.inl w) via h1 F E (Ly.imp id (fun q => ⟨q.1, q.2.1, hM.2.2.2.2.2.2.1.trans q.2.2⟩)) wi hty hn hf (g := mkF m pc L (v :: .ref a :: st)) rfl rfl (H.dec hd)
  exact Go.st st' (k T' h' (H.wr X' e' W hq (hsf.safe h4 h8) h2 h3 h4 h5 h6 h7 h8 h9 hO) W)
theorem G.stI (H : Hs p l e R s m args below meth c Z a0 EL cw own n0 bytes maxL ret nm T h C S sf) {a : Addr} {kc : ClassId} {z : Int32} {vs : List Value} {dv : Value} (A : Arv Z h a kc .int z vs dv) {j x : Int32} (hj : ¬ j < 0 ∧ j < z) {i : Nat} (hi : j.toNatClampNeg = i) (hlt : i < vs.length) (hq : n0 ≤ a) {pc pc' : Nat} {L : Array Slot} {st : List Value} (hd : decode bytes pc = .ok (.iastore, 1)) (hp : pc + 1 = pc')
    (k : ∀ T' h', Hs p l e R s m args below meth c Z a0 EL cw own n0 bytes maxL ret nm T' h' C S sf → Wr h h' a i (.int x) → Arv Z h' a kc .int z (vs.set i (.int x)) dv → Go p e below P (T'.setTop (mkF m pc' L st))) : Go p e below P (T.setTop (mkF m pc L (.int x :: .int j :: .ref a :: st))) := by
  subst hp; subst hi
  obtain ⟨hM, vm0, k0, locs, X, h1, h2, h3, h4, h5, h6, h7, h8, h9, hO⟩ := id H
  obtain ⟨cl, Ar, q1, S1, q3, H1, G1⟩ := A
  obtain ⟨T', h', X', e', W, st'⟩ := RoadKit.stI X H.exec h4 h1 Ar (inb_of S1 hj) (g := mkF m pc L (.int x :: .int j :: .ref a :: st)) rfl rfl (H.dec hd)
  exact Go.st st' (k T' h' (H.wr X' e' W hq (Safe.arr h4.alike Ar (by decide)) h2 h3 h4 h5 h6 h7 h8 h9 hO) W (Arv.set Ar q1 S1 q3 H1 G1 rfl W _ rfl hlt))
theorem G.stC (H : Hs p l e R s m args below meth c Z a0 EL cw own n0 bytes maxL ret nm T h C S sf) {a : Addr} {kc : ClassId} {z : Int32} {vs : List Value} {dv : Value} (A : Arv Z h a kc .char z vs dv) {j x : Int32} (hj : ¬ j < 0 ∧ j < z) {i : Nat} (hi : j.toNatClampNeg = i) (hlt : i < vs.length) (hq : n0 ≤ a) {y : Int32} (hy : nar .char x = y) {pc pc' : Nat} {L : Array Slot} {st : List Value} (hd : decode bytes pc = .ok (.castore, 1)) (hp : pc + 1 = pc')
    (k : ∀ T' h', Hs p l e R s m args below meth c Z a0 EL cw own n0 bytes maxL ret nm T' h' C S sf → Wr h h' a i (.int y) → Arv Z h' a kc .char z (vs.set i (.int y)) dv → Go p e below P (T'.setTop (mkF m pc' L st))) : Go p e below P (T.setTop (mkF m pc L (.int x :: .int j :: .ref a :: st))) := by
  subst hp; subst hi; subst hy
  obtain ⟨hM, vm0, k0, locs, X, h1, h2, h3, h4, h5, h6, h7, h8, h9, hO⟩ := id H
  obtain ⟨cl, Ar, q1, S1, q3, H1, G1⟩ := A
  obtain ⟨T', h', X', e', W, st'⟩ := RoadKit.stC X H.exec h4 h1 Ar (inb_of S1 hj) (g := mkF m pc L (.int x :: .int j :: .ref a :: st)) rfl rfl (H.dec hd)
  exact Go.st st' (k T' h' (H.wr X' e' W hq (Safe.arr h4.alike Ar (by decide)) h2 h3 h4 h5 h6 h7 h8 h9 hO) W (Arv.set Ar q1 S1 q3 H1 G1 (fits_nar_char x) W _ rfl hlt))
theorem G.stB (H : Hs p l e R s m args below meth c Z a0 EL cw own n0 bytes maxL ret nm T h C S sf) {a : Addr} {kc : ClassId} {z : Int32} {vs : List Value} {dv : Value} (A : Arv Z h a kc .byte z vs dv) {j x : Int32} (hj : ¬ j < 0 ∧ j < z) {i : Nat} (hi : j.toNatClampNeg = i) (hlt : i < vs.length) (hq : n0 ≤ a) (hsf : Sf Z EL h sf a) {y : Int32} (hy : nar .byte x = y) {pc pc' : Nat} {L : Array Slot} {st : List Value} (hd : decode bytes pc = .ok (.bastore, 1)) (hp : pc + 1 = pc')
    (k : ∀ T' h', Hs p l e R s m args below meth c Z a0 EL cw own n0 bytes maxL ret nm T' h' C S sf → Wr h h' a i (.int y) → Arv Z h' a kc .byte z (vs.set i (.int y)) dv → Go p e below P (T'.setTop (mkF m pc' L st))) : Go p e below P (T.setTop (mkF m pc L (.int x :: .int j :: .ref a :: st))) := by
  subst hp; subst hi; subst hy
  obtain ⟨hM, vm0, k0, locs, X, h1, h2, h3, h4, h5, h6, h7, h8, h9, hO⟩ := id H
  obtain ⟨cl, Ar, q1, S1, q3, H1, G1⟩ := A
  obtain ⟨T', h', X', e', W, st'⟩ := RoadKit.stB X H.exec h4 h1 Ar (inb_of S1 hj) (g := mkF m pc L (.int x :: .int j :: .ref a :: st)) rfl rfl (H.dec hd)
  exact Go.st st' (k T' h' (H.wr X' e' W hq (hsf.safe h4 h8) h2 h3 h4 h5 h6 h7 h8 h9 hO) W (Arv.set Ar q1 S1 q3 H1 G1 (fits_nar_byte x) W _ rfl hlt))
theorem G.stR (H : Hs p l e R s m args below meth c Z a0 EL cw own n0 bytes maxL ret nm T h C S sf) {a : Addr} {kc : ClassId} {ty : FieldType} {z : Int32} {vs : List Value} {dv : Value} (A : Arv Z h a kc ty z vs dv) (hty : ty.isReference = true) {j : Int32} {v : Value} (F : Sto Z h a v) (hv : v.isRef = true) (hj : ¬ j < 0 ∧ j < z) {i : Nat} (hi : j.toNatClampNeg = i) (hlt : i < vs.length) (hq : n0 ≤ a) {pc pc' : Nat} {L : Array Slot} {st : List Value} (hd : decode bytes pc = .ok (.aastore, 1)) (hp : pc + 1 = pc')
    (k : ∀ T' h', Hs p l e R s m args below meth c Z a0 EL cw own n0 bytes maxL ret nm T' h' C S sf → Wr h h' a i v → Arv Z h' a kc ty z (vs.set i v) dv → Go p e below P (T'.setTop (mkF m pc' L st))) : Go p e below P (T.setTop (mkF m pc L (v :: .int j :: .ref a :: st))) := by
  subst hp; subst hi
  obtain ⟨hM, vm0, k0, locs, X, h1, h2, h3, h4, h5, h6, h7, h8, h9, hO⟩ := id H
  obtain ⟨cl, Ar, q1, S1, q3, H1, G1⟩ := A
  obtain ⟨T', h', X', e', W, st'⟩ := RoadKit.stR X H.exec h4 h1 Ar (inb_of S1 hj) hty F (g := mkF m pc L (v :: .int j :: .ref a :: st)) rfl rfl (H.dec hd)
  exact Go.st st' (k T' h' (H.wr X' e' W hq (Safe.arr h4.alike Ar (by intro q; rw [q] at hty; cases hty)) h2 h3 h4 h5 h6 h7 h8 h9 hO) W (Arv.set Ar q1 S1 q3 H1 G1 (by rcases ref_cases hv with rfl | ⟨b, rfl⟩ <;> cases ty <;> first | rfl | cases hty) W _ rfl hlt))
/-! ## a String constant -/
theorem Hs.rebase {T' : State} {h' : Heap} {C' S' : Nat} {vm0 : Vm} {k1 : Nat} {locs : List Loc} (H : Hs p l e R s m args below meth c Z a0 EL cw own n0 bytes maxL ret nm T h C S sf) (hcw : cw) (X' : Stand p l e R (s.setVm T'.vm) m args below meth c T' locs C' S') (e' : T'.heap = h') (h2 : s.Since T'.vm k1) (h3 : k1 ≤ h'.size) (h4 : Z.Warmed39 T'.vm) (h5 : T'.vm.findClass own = some m.cls) (h6 : Fr n0 locs) (h7 : CHr Z EL s.vm s.heap vm0 h) (h7' : CHr Z EL vm0 h T'.vm h') (h8 : ∀ x ∈ sf, x < h.size ∧ Safe Z EL vm0 h x) (hO : Old Z n0 h') : Hs p l e R s m args below meth c Z a0 EL cw own n0 bytes maxL ret nm T' h' C' S' sf :=
  ⟨H.1, T'.vm, k1, locs, X', e', h2, h3, h4, h5, h6, h7.trans h7', fun x hx => ⟨Nat.lt_of_lt_of_le (h8 x hx).1 h7'.2.1, h7'.safe (h8 x hx).1 (h8 x hx).2⟩, Or.inl hcw, hO⟩
theorem G.ldcS (H : Hs p l e R s m args below meth c Z a0 EL cw own n0 bytes maxL ret nm T h C S sf) (hcw : cw) (wS : ∀ a ∈ Bundle.stringAtoms, a.before a0 Z = true) {index : Nat} {text : String} (w : (Cond.stringLink own index text).before a0 Z = true) (hmem : (own, index) ∈ EL) {vs : List Value} {z : Int32} (ht : (∀ c ∈ text.toList, c.toNat < 256) ∧ text.toList.map (fun c => Value.int (Jvm.Lit.byteI c.toNat.toUInt16)) = vs) (hz : ¬ z < 0) (hl : z.toNatClampNeg = vs.length) {n : Nat} (hn : 4 * text.toList.length ≤ n) (hbig : n ≤ 536870912) (hc : C + 2 ≤ R.cells) (hl' : S + (n + 4) ≤ R.slots) {pc pc' : Nat} {L : Array Slot} {st : List Value} (hd : decode bytes pc = .ok (.ldc index, 2)) (hp : pc + 2 = pc')
    (k : ∀ T' h' a b kb, Hs p l e R s m args below meth c Z a0 EL cw own n0 bytes maxL ret nm T' h' (C + 2) (S + (n + 4)) sf → Ext h h' → Exa Z h' a "java/lang/String" → Fld Z h' a "java/lang/String" "coder" "B" (.int 0) → Fld Z h' a "java/lang/String" "value" "[B" (.ref b) → Arv Z h' b kb .byte z vs (.int 0) → (∀ x ∈ sf, x ≠ a ∧ x ≠ b) → Go p e below P (T'.setTop (mkF m pc' L (.ref a :: st)))) : Go p e below P (T.setTop (mkF m pc L st)) := by
  subst hp
  obtain ⟨hM, vm0, k0, locs, X, h1, h2, h3, h4, h5, h6, h7, h8, h9, hO⟩ := id H
  obtain ⟨a, T', h', k1, b, kb, X', e', E, s2, s3, s4, s5, F1, F2, F3, F4, -, -, h7', -, hne, st'⟩ := RoadKit.ldcCH X H.exec h4 h5 w wS h1 h2 h3 hM.2.1 hmem h7.1 ht hz hl (g := mkF m pc L st) rfl (H.dec hd) hn hbig hc hl'
  exact Go.st st' (k T' h' a b kb (H.rebase hcw X' e' s2 s3 s4 s5 h6 h7 h7' h8 (hO.ext E)) E F1 F2 F3 F4 (fun x hx => hne x (h7'.safe (h8 x hx).1 (h8 x hx).2)))
theorem G.ldcO (H : Hs p l e R s m args below meth c Z a0 EL cw own n0 bytes maxL ret nm T h C S sf) (hcw : cw) (wS : ∀ a ∈ Bundle.stringAtoms, a.before a0 Z = true) {index : Nat} {text : String} (w : (Cond.stringLink own index text).before a0 Z = true) {n : Nat} (hn : 4 * text.toList.length ≤ n) (hbig : n ≤ 536870912) (hc : C + 2 ≤ R.cells) (hl' : S + (n + 4) ≤ R.slots) {pc pc' : Nat} {L : Array Slot} {st : List Value} (hd : decode bytes pc = .ok (.ldc index, 2)) (hp : pc + 2 = pc')
    (k : ∀ T' h' a, Hs p l e R s m args below meth c Z a0 EL cw own n0 bytes maxL ret nm T' h' (C + 2) (S + (n + 4)) sf → Ext h h' → Go p e below P (T'.setTop (mkF m pc' L (.ref a :: st)))) : Go p e below P (T.setTop (mkF m pc L st)) := by
  subst hp
  obtain ⟨hM, vm0, k0, locs, X, h1, h2, h3, h4, h5, h6, h7, h8, h9, hO⟩ := id H
  obtain ⟨a, T', h', k1, X', e', E, s2, s3, s4, s5, h7', -, st'⟩ := RoadKit.ldcOH X H.exec h4 h5 w wS h1 h2 h3 hM.2.1 h7.1 (g := mkF m pc L st) rfl (H.dec hd) hn hbig hc hl'
  exact Go.st st' (k T' h' a (H.rebase hcw X' e' s2 s3 s4 s5 h6 h7 h7' h8 (hO.ext E)) E)
/-! ## the end of a method -/
def FinP (s : State) (below : List Frame) (Z : State) (EL : List (String × Nat)) (cw : Prop) (n0 Cm Sm : Nat) (Q : Option Value → Heap → List Addr → Prop) : State → Outcome → Prop := fun u o =>
  u.status = .running ∧ Ended u below o ∧ ∃ v L so, o = .returned v ∧ Q v u.heap so ∧ Old Z n0 u.heap ∧ Fr n0 L ∧ CHr Z EL s.vm s.heap u.vm u.heap ∧ (∀ x ∈ so, x < u.heap.size ∧ Safe Z EL u.vm u.heap x) ∧ ReturnedEndW s o u L Cm Sm ∧ (cw ∨ FrameEnd s o u L Cm Sm)
theorem Hs.leave (H : Hs p l e R s m args below meth c Z a0 EL cw own n0 bytes maxL ret nm T h C S sf) {Cm Sm : Nat} {Q : Option Value → Heap → List Addr → Prop} {v : Option Value} {so : List Addr} (hv : ret = none → v = none) (hQ : Q v h so) (hso : ∀ x ∈ so, x ∈ sf) (hC : C ≤ Cm) (hS : S ≤ Sm) :
    ∃ fs, (∀ (f : JFrame) (acts : List Action), f.method = m → f.locked = none → f.entered = [] → (doReturn e (T.setTop f) acts v).1 = T.setFrames fs) ∧ FinP s below Z EL cw n0 Cm Sm Q (T.setFrames fs) (.returned v) := by
  obtain ⟨hM, vm0, k0, locs, X, h1, h2, h3, h4, h5, h6, h7, h8, h9, hO⟩ := H
  obtain ⟨-, hEL, -, -, hret, hlocks, -, -⟩ := hM
  obtain ⟨fs, hr, hrun, hended, hW, hsame⟩ := X.leave (v := v) (fun q => hv (hret.symm.trans q)) hlocks
  have hk : k0 ≤ (T.setFrames fs).heap.size := by show k0 ≤ T.heap.size; rw [h1]; exact h3
  obtain ⟨w1, w2, w3⟩ := h2.ended (U := T.setFrames fs) hW hk hsame
  have A := CHv.at X h4 hEL h7.1
  refine ⟨fs, hr, hrun, hended, v, locs, so, rfl, ?_, ?_, h6, ?_, ?_, ⟨⟨v, rfl⟩, w1, w2, w3.mono hC hS⟩, ?_⟩
  · show Q v T.heap so; rw [h1]; exact hQ
  · show Old Z n0 T.heap; rw [h1]; exact hO
  · show CHr Z EL s.vm s.heap T.vm T.heap; rw [h1]; exact h7.trans A
  · intro x hx
    show x < T.heap.size ∧ Safe Z EL T.vm T.heap x
    rw [h1]; exact ⟨(h8 x (hso x hx)).1, A.safe (h8 x (hso x hx)).1 (h8 x (hso x hx)).2⟩
  · exact h9.imp id (fun q => ⟨⟨v, rfl⟩, State.WarmedH.trans (t := s.setVm vm0) q hW, w3.mono hC hS⟩)
theorem G.retG (H : Hs p l e R s m args below meth c Z a0 EL cw own n0 bytes maxL ret nm T h C S sf) {Cm Sm : Nat} {Q : Option Value → Heap → List Addr → Prop} {so : List Addr} {pc : Nat} {L : Array Slot} {w : Value} {t : FieldType} {i : Instr} {rest : List Value} (hret : ret = some t) (hn : narrow t w = w)
    (hi : (i = .ireturn ∧ (t = .int ∨ t = .boolean ∨ t = .byte ∨ t = .char ∨ t = .short) ∧ ∃ z, w = .int z) ∨ (i = .lreturn ∧ t = .long ∧ ∃ z, w = .long z) ∨ (i = .dreturn ∧ t = .double ∧ ∃ z, w = .double z) ∨ (i = .freturn ∧ t = .float ∧ ∃ z, w = .float z) ∨ (i = .areturn ∧ t.isReference = true ∧ w.isRef = true))
    (hd : decode bytes pc = .ok (i, 1)) (hso : ∀ x ∈ so, x ∈ sf) (hC : C ≤ Cm) (hS : S ≤ Sm) (hQ : Q (some w) h so) : Go p e below (FinP s below Z EL cw n0 Cm Sm Q) (T.setTop (mkF m pc L (w :: rest))) := by
  obtain ⟨fs, hr, hF⟩ := H.leave (Q := Q) (v := some w) (Cm := Cm) (Sm := Sm) (fun q => by rw [hret] at q; cases q) hQ hso hC hS
  obtain ⟨hM, vm0, k0, locs, X, -⟩ := id H
  exact ⟨_, _, retOut X H.exec (hM.2.2.2.2.1.trans hret) hn hi (H.dec hd) hr, hF⟩
theorem G.retI (H : Hs p l e R s m args below meth c Z a0 EL cw own n0 bytes maxL ret nm T h C S sf) {Cm Sm : Nat} {Q : Option Value → Heap → List Addr → Prop} {so : List Addr} {pc : Nat} {L : Array Slot} {z : Int32} {rest : List Value} (hret : ret = some .int) (hd : decode bytes pc = .ok (.ireturn, 1)) (hso : ∀ x ∈ so, x ∈ sf) (hC : C ≤ Cm) (hS : S ≤ Sm) (hQ : Q (some (.int z)) h so) : Go p e below (FinP s below Z EL cw n0 Cm Sm Q) (T.setTop (mkF m pc L (.int z :: rest))) :=
  G.retG H hret rfl (Or.inl ⟨rfl, Or.inl rfl, z, rfl⟩) hd hso hC hS hQ
theorem G.retN (H : Hs p l e R s m args below meth c Z a0 EL cw own n0 bytes maxL ret nm T h C S sf) {Cm Sm : Nat} {Q : Option Value → Heap → List Addr → Prop} {so : List Addr} {pc : Nat} {L : Array Slot} {z : Int32} {t : FieldType} {rest : List Value} (hret : ret = some t) (ht : t = .boolean ∨ t = .byte ∨ t = .char ∨ t = .short) (hd : decode bytes pc = .ok (.ireturn, 1)) (hso : ∀ x ∈ so, x ∈ sf) (hC : C ≤ Cm) (hS : S ≤ Sm) (hQ : Q (some (.int (nar t z))) h so) : Go p e below (FinP s below Z EL cw n0 Cm Sm Q) (T.setTop (mkF m pc L (.int z :: rest))) := by
  obtain ⟨fs, hr, hF⟩ := H.leave (Q := Q) (v := some (.int (nar t z))) (Cm := Cm) (Sm := Sm) (fun q => by rw [hret] at q; cases q) hQ hso hC hS
  obtain ⟨hM, vm0, k0, locs, X, -⟩ := id H
  exact ⟨_, _, RoadKit.retN X H.exec (hM.2.2.2.2.1.trans hret) ht (H.dec hd) hr, hF⟩
theorem G.retA (H : Hs p l e R s m args below meth c Z a0 EL cw own n0 bytes maxL ret nm T h C S sf) {Cm Sm : Nat} {Q : Option Value → Heap → List Addr → Prop} {so : List Addr} {pc : Nat} {L : Array Slot} {w : Value} {t : FieldType} {rest : List Value} (hret : ret = some t) (ht : t.isReference = true) (hw : w.isRef = true) (hd : decode bytes pc = .ok (.areturn, 1)) (hso : ∀ x ∈ so, x ∈ sf) (hC : C ≤ Cm) (hS : S ≤ Sm) (hQ : Q (some w) h so) : Go p e below (FinP s below Z EL cw n0 Cm Sm Q) (T.setTop (mkF m pc L (w :: rest))) :=
  G.retG H hret (by rcases ref_cases hw with rfl | ⟨a, rfl⟩ <;> cases t <;> first | rfl | cases ht) (Or.inr (Or.inr (Or.inr (Or.inr ⟨rfl, ht, hw⟩)))) hd hso hC hS hQ
theorem G.retV (H : Hs p l e R s m args below meth c Z a0 EL cw own n0 bytes maxL ret nm T h C S sf) {Cm Sm : Nat} {Q : Option Value → Heap → List Addr → Prop} {so : List Addr} {pc : Nat} {L : Array Slot} (hret : ret = none) (hd : decode bytes pc = .ok (.return_, 1)) (hso : ∀ x ∈ so, x ∈ sf) (hC : C ≤ Cm) (hS : S ≤ Sm) (hQ : Q none h so) : Go p e below (FinP s below Z EL cw n0 Cm Sm Q) (T.setTop (mkF m pc L [])) := by
  obtain ⟨fs, hr, hF⟩ := H.leave (Q := Q) (v := none) (Cm := Cm) (Sm := Sm) (fun _ => rfl) hQ hso hC hS
  obtain ⟨hM, vm0, k0, locs, X, -⟩ := id H
  exact ⟨_, _, X.returnOut H.exec (hM.2.2.2.2.1.trans hret) (H.dec hd) hr, hF⟩
/-! ## a method's contract -/
def Met (Z : State) (a0 : Array Value) (EL : List (String × Nat)) (cw : Prop) (n0 : Nat) (l : Launch) (y : MethodName) (bytes : ByteArray) (maxL : Nat) (ret : Option FieldType) (rm : Room) (as' : Array Value) (h : Heap) (sfI : List Addr) (Q : Option Value → Heap → List Addr → Prop) : Prop :=
  ∀ ws, MetFree l y (head1 (Cond.code y bytes maxL ret :: ws) rm) (fun a U => a = as' ∧ Z.Warmed39 U.vm ∧ U.heap = h ∧ CHv Z EL U.vm h ∧ ∀ x ∈ sfI, x < h.size ∧ Safe Z EL U.vm h x) (fun _ _ _ _ _ => True)
    (fun _ U o U' => ∃ v L so, o = .returned v ∧ Q v U'.heap so ∧ Old Z n0 U'.heap ∧ Fr n0 L ∧ CHr Z EL U.vm U.heap U'.vm U'.heap ∧ (∀ x ∈ so, x < U'.heap.size ∧ Safe Z EL U'.vm U'.heap x) ∧ ReturnedEndW U o U' L rm.cells rm.slots ∧ (cw ∨ FrameEnd U o U' L rm.cells rm.slots))
theorem Met.of {y : MethodName} {rm : Room} {as' : Array Value} {sfI : List Addr} {Q : Option Value → Heap → List Addr → Prop} {L0 : Array Slot} (hEL : EW Z a0 EL) (hpn : plainFor y = true) (hO : Old Z n0 h) (hL : Jvm.Sym.laidSlots as'.toList ++ List.replicate (maxL - (Jvm.Sym.laidSlots as'.toList).length) .unset = L0.toList)
    (body : ∀ (p : Program) (e : Env) (s : State) (m : MethodId) (below : List Frame) (meth : Method) (c : Code) (T : State), Hs p l e rm s m as' below meth c Z a0 EL cw y.cls n0 bytes maxL ret y.name T h 0 0 sfI → Go p e below (FinP s below Z EL cw n0 rm.cells rm.slots Q) (T.setTop (mkF m 0 L0 []))) : Met Z a0 EL cw n0 l y bytes maxL ret rm as' h sfI Q := by
  intro ws
  refine MetFree.of_bodySF hpn hisR ?_
  intro p e s m args below meth c s₁ Bd hml hP hK
  obtain ⟨rfl, hZ, hh, hC, hs⟩ := hP
  have X0 : Stand p l e rm (s.setVm s.vm) m args below meth c s₁ [] 0 0 := Stand.of_body Bd
  have e0 : s₁.heap = h := by rw [← hh, Bd.state]; rfl
  have H : Hs p l e rm s m args below meth c Z a0 EL cw y.cls n0 bytes maxL ret y.name s₁ h 0 0 sfI :=
    ⟨⟨Bd.exec, hEL, Bd.bytes, hml, Bd.returns, Bd.notSynchronized, (name_of_methodNamed Bd.named Bd.method).1, by rw [hh, ← hO.1]; exact hO.2.1⟩, s.vm, s.heap.size, [], X0, e0, (State.WarmedH.refl s).since _, by rw [hh]; exact Nat.le_refl _, hZ, findClass_of_methodNamed Bd.named, Fr.nil n0, by rw [hh]; exact CHr.refl hC, hs, Or.inr (State.WarmedH.refl s), hO⟩
  obtain ⟨u, o, h1, h2, h3, v, L, so, r1, r2, rO, r3, r4, r5, r6, r7⟩ := body p e s m below meth c s₁ H
  exact ⟨u, o, (XT.entry hL).trans h1, h2, h3, v, L, so, r1, r2, rO, r3, r4, r5, r6, r7⟩
theorem Met.backS {y : MethodName} {rm : Room} {as' : Array Value} {sfI : List Addr} {Q : Option Value → Heap → List Addr → Prop} {vm0 : Vm} {len W : Nat} (M : Met Z a0 EL cw n0 l y bytes maxL ret rm as' h sfI Q) (hEL : EW Z a0 EL) (hZ : Z.Warmed39 vm0) (wc : (Cond.code y bytes maxL ret).before a0 Z = true) (wz : (Cond.initialized y.cls).before a0 Z = true) (hf : rm.frames + 1 ≤ R.frames) (hl : W + (maxL + 11) + rm.locals ≤ R.locals) (H : CHv Z EL vm0 h) (hs : ∀ x ∈ sfI, x < h.size ∧ Safe Z EL vm0 h x) :
    BackS l R p e below (s.setVm vm0) args y len W (fun A a => a = as' ∧ A.U.heap = h ∧ A.cells + rm.cells ≤ R.cells ∧ A.slots + rm.slots ≤ R.slots)
      (fun A _ v B => ∃ L so, Q v B.U.heap so ∧ Old Z n0 B.U.heap ∧ Fr n0 L ∧ B.locs = A.locs ++ L ∧ B.cells = A.cells + rm.cells ∧ B.slots = A.slots + rm.slots ∧ CHr Z EL vm0 h B.U.vm B.U.heap ∧ (∀ x ∈ so, x < B.U.heap.size ∧ Safe Z EL B.U.vm B.U.heap x) ∧ (cw ∨ (s.setVm vm0).WarmedH B.U.vm)) :=
  BackS.of_freeW (bytes := bytes) (maxL := maxL) (ret := ret)
    (E := fun _ first o t L k n => k = rm.cells ∧ n = rm.slots ∧ ∃ v so, o = .returned v ∧ Q v t.heap so ∧ Old Z n0 t.heap ∧ Fr n0 L ∧ CHr Z EL first.vm first.heap t.vm t.heap ∧ (∀ x ∈ so, x < t.heap.size ∧ Safe Z EL t.vm t.heap x) ∧ (cw ∨ first.WarmedH t.vm))
    (M []) hf hl
    (fun m meth c A a Y hp => have hU : Z.Warmed39 A.U.vm := wtrans (s := s.setVm vm0) hZ Y.warmed
      ⟨by show (Cond.and _ .tt).before a A.U = true; rw [Cond.before_and, mv hU wc]; rfl, mv hU wc, mv hU wz, hp.2.2.1, hp.2.2.2⟩)
    (fun m meth c A a g mk Y hp => by
      have A1 := CHv.at Y hZ hEL H
      exact ⟨hp.1, wtrans (s := s.setVm vm0) hZ Y.warmed, hp.2.1, A1.1, fun x hx => ⟨(hs x hx).1, A1.safe (hs x hx).1 (hs x hx).2⟩⟩)
    (fun _ _ _ _ _ _ _ _ _ => trivial)
    (fun _ _ _ _ ⟨v, L, so, h1, h2, hO, h3, h4, h5, h6, h7⟩ => ⟨L, _, _, h6, rfl, rfl, v, so, h1, h2, hO, h3, h4, h5, h7.imp id (fun q => q.2.1)⟩)
    (fun m meth c A a g mk v t L k n Y hp _ _ ⟨e1, e2, v', so, e3, e4, eO, e5, e6, e7, e8⟩ => by
      cases e3; subst e1 e2
      refine ⟨L, so, e4, eO, e5, rfl, rfl, rfl, (CHv.at Y hZ hEL H).trans ?_, e7, e8.imp id (fun q => State.WarmedH.trans (t := A.U) Y.warmed q)⟩
      rw [← hp.2.1]; exact e6)
/-- behind a call -/
theorem Hs.behind {vm0 vm₁ : Vm} {k0 : Nat} {locs : List Loc} {B : Pt} {L' : List Loc} {so : List Addr} {kc ks : Nat} (H : Hs p l e R s m args below meth c Z a0 EL cw own n0 bytes maxL ret nm T h C S sf) (h2 : s.Since vm0 k0) (h3 : k0 ≤ h.size) (h4 : Z.Warmed39 vm0) (h5 : vm0.findClass own = some m.cls) (h6 : Fr n0 locs) (h7 : CHr Z EL s.vm s.heap vm0 h) (h8 : ∀ x ∈ sf, x < h.size ∧ Safe Z EL vm0 h x) (h9 : cw ∨ s.WarmedH vm0)
    (X' : Stand p l e R ((s.setVm vm0).setVm B.U.vm) m args below meth c B.U B.locs B.cells B.slots) (hS : (s.setVm vm0).Since B.U.vm B.U.heap.size) (hg : h.size ≤ B.U.heap.size) (r1 : Fr n0 L') (r2 : B.locs = locs ++ L') (r3 : B.cells = C + kc) (r4 : B.slots = S + ks) (r5 : CHr Z EL vm0 h B.U.vm B.U.heap) (r6 : ∀ x ∈ so, x < B.U.heap.size ∧ Safe Z EL B.U.vm B.U.heap x) (r7 : cw ∨ (s.setVm vm0).WarmedH B.U.vm) (rO : Old Z n0 B.U.heap) : Hs p l e R s m args below meth c Z a0 EL cw own n0 bytes maxL ret nm B.U B.U.heap (C + kc) (S + ks) (so ++ sf) := by
  obtain ⟨Y, y1, y2, y3⟩ := rebS (Z := Z) (own := own) h2 h3 X' hS hg h4 h5
  refine ⟨H.1, B.U.vm, B.U.heap.size, B.locs, by rw [← r3, ← r4]; exact Y, rfl, y1, Nat.le_refl _, y2, y3, by rw [r2]; exact Fr.app h6 r1, h7.trans r5, fun x hx => ?_, ?_, rO⟩
  · rcases List.mem_append.mp hx with hx | hx
    · exact r6 x hx
    · exact ⟨Nat.lt_of_lt_of_le (h8 x hx).1 hg, r5.safe (h8 x hx).1 (h8 x hx).2⟩
  · rcases h9 with q | q
    · exact Or.inl q
    · exact r7.imp id (fun r => State.WarmedH.trans (t := s.setVm vm0) q r)
theorem G.callS (H : Hs p l e R s m args below meth c Z a0 EL cw own n0 bytes maxL ret nm T h C S sf) {y : MethodName} {yb : ByteArray} {ym : Nat} {yr : Option FieldType} {rm : Room} {as' : Array Value} {sfI : List Addr} {Q : Option Value → Heap → List Addr → Prop} (M : Met Z a0 EL cw n0 l y yb ym yr rm as' h sfI Q) {index : Nat} (w1 : (Cond.methodLink own index y).before a0 Z = true) (w2 : (Cond.static y).before a0 Z = true) (wz : (Cond.initialized y.cls).before a0 Z = true) (wc : (Cond.code y yb ym yr).before a0 Z = true) (hy : y.cls ≠ "java/lang/invoke/MethodHandle" ∧ y.cls ≠ "java/lang/invoke/VarHandle")
    {argsL rest st : List Value} {W : Nat} {pc pc' : Nat} {L : Array Slot} (hL : L.size = maxL) (has : argsL.toArray = as') (hlen : ∀ sig, parseMethodDescriptor y.desc = some sig → argsL.length = sig.parameters.length) (hst : st = argsL.reverse ++ rest) (hW : (rest.map fun v => v.category).sum = W) (hd : decode bytes pc = .ok (.invokestatic index, 3)) (hp : pc + 3 = pc') (hf : rm.frames + 1 ≤ R.frames) (hl : W + (ym + 11) + rm.locals ≤ R.locals) (hc : C + rm.cells ≤ R.cells) (hsl : S + rm.slots ≤ R.slots) (hsf : ∀ x ∈ sfI, x ∈ sf)
    (k : ∀ T' h' v so, Hs p l e R s m args below meth c Z a0 EL cw own n0 bytes maxL ret nm T' h' (C + rm.cells) (S + rm.slots) (so ++ sf) → Q v h' so → Go p e below P (T'.setTop (mkF m pc' L (v.toList ++ rest)))) : Go p e below P (T.setTop (mkF m pc L st)) := by
  subst hp; subst has
  obtain ⟨hM, vm0, k0, locs, X, h1, h2, h3, h4, h5, h6, h7, h8, h9, hO⟩ := id H
  obtain ⟨v, vm₁, B, hw, X', hS, hg, ⟨L', so, q1, rO, r1, r2, r3, r4, r5, r6, r7⟩, st'⟩ := RoadKit.callSS X H.exec h5 (mvT (s := s.setVm vm0) h4 w1) (mvT (s := s.setVm vm0) h4 w2) (mvT (s := s.setVm vm0) h4 wz) (mvT (s := s.setVm vm0) h4 wc) hy (M.backS (W := W) hM.2.1 h4 wc wz hf hl h7.1 (fun x hx => h8 x (hsf x hx))) (g := mkF m pc L st) rfl (by rw [hM.2.2.2.1]; exact hL) hlen hst (by show 2 * 0 + _ ≤ _; omega) (H.dec hd) (fun _ _ => ⟨rfl, h1, hc, hsl⟩)
  rw [h1] at hg
  exact Go.tr st' (k _ _ v so (H.behind (vm₁ := vm₁) h2 h3 h4 h5 h6 h7 h8 h9 X' hS hg r1 r2 r3 r4 r5 r6 r7 rO) q1)
theorem G.callI (H : Hs p l e R s m args below meth c Z a0 EL cw own n0 bytes maxL ret nm T h C S sf) {y : MethodName} {yb : ByteArray} {ym : Nat} {rm : Room} {as' : Array Value} {sfI : List Addr} {Q : Option Value → Heap → List Addr → Prop} (M : Met Z a0 EL cw n0 l y yb ym none rm as' h sfI Q) {index : Nat} (hy1 : y.name = "<init>") (w1 : (Cond.methodLink own index y).before a0 Z = true) (w2 : (Cond.instanceMethod y).before a0 Z = true) (wz : (Cond.initialized y.cls).before a0 Z = true) (wc : (Cond.code y yb ym none).before a0 Z = true) (hy : y.cls ≠ "java/lang/invoke/MethodHandle" ∧ y.cls ≠ "java/lang/invoke/VarHandle")
    {a : Addr} {argsL rest st : List Value} {W : Nat} {pc pc' : Nat} {L : Array Slot} (hL : L.size = maxL) (has : (Value.ref a :: argsL).toArray = as') (hlen : ∀ sig, parseMethodDescriptor y.desc = some sig → argsL.length = sig.parameters.length) (hst : st = argsL.reverse ++ .ref a :: rest) (hW : (rest.map fun v => v.category).sum = W) (hd : decode bytes pc = .ok (.invokespecial index, 3)) (hp : pc + 3 = pc') (hf : rm.frames + 1 ≤ R.frames) (hl : W + (ym + 11) + rm.locals ≤ R.locals) (hc : C + rm.cells ≤ R.cells) (hsl : S + rm.slots ≤ R.slots) (hsf : ∀ x ∈ sfI, x ∈ sf)
    (k : ∀ T' h' v so, Hs p l e R s m args below meth c Z a0 EL cw own n0 bytes maxL ret nm T' h' (C + rm.cells) (S + rm.slots) (so ++ sf) → Q v h' so → Go p e below P (T'.setTop (mkF m pc' L (v.toList ++ rest)))) : Go p e below P (T.setTop (mkF m pc L st)) := by
  subst hp; subst has
  obtain ⟨hM, vm0, k0, locs, X, h1, h2, h3, h4, h5, h6, h7, h8, h9, hO⟩ := id H
  obtain ⟨v, vm₁, B, hw, X', hS, hg, ⟨L', so, q1, rO, r1, r2, r3, r4, r5, r6, r7⟩, st'⟩ := X.specialBackS H.exec hy1 h5 (mvT (s := s.setVm vm0) h4 w1) (mvT (s := s.setVm vm0) h4 w2) (mvT (s := s.setVm vm0) h4 wc) hy (M.backS (W := W) hM.2.1 h4 wc wz hf hl h7.1 (fun x hx => h8 x (hsf x hx))) (g := mkF m pc L st) rfl (by rw [hM.2.2.2.1]; exact hL) (Steps.refl _) (a := a) hlen hst (by show 2 * 0 + _ ≤ _; omega) (H.dec hd) (fun _ _ => ⟨rfl, h1, hc, hsl⟩)
  rw [h1] at hg
  exact Go.tr st' (k _ _ v so (H.behind (vm₁ := vm₁) h2 h3 h4 h5 h6 h7 h8 h9 X' hS hg r1 r2 r3 r4 r5 r6 r7 rO) q1)
theorem G.callV (H : Hs p l e R s m args below meth c Z a0 EL cw own n0 bytes maxL ret nm T h C S sf) {y z : MethodName} {D : String} {yb : ByteArray} {ym : Nat} {yr : Option FieldType} {rm : Room} {as' : Array Value} {sfI : List Addr} {Q : Option Value → Heap → List Addr → Prop} (M : Met Z a0 EL cw n0 l z yb ym yr rm as' h sfI Q) {index : Nat} (w1 : (Cond.methodLink own index y).before a0 Z = true) (w2 : (Cond.declares y).before a0 Z = true) (wn : ∀ s' : State, Z.Warmed39 s'.vm → NotFace s' y) (w3 : (Cond.selects D y z).before a0 Z = true) (w4 : (Cond.instanceMethod z).before a0 Z = true) (wz : (Cond.initialized z.cls).before a0 Z = true) (wc : (Cond.code z yb ym yr).before a0 Z = true) (hy : y.cls ≠ "java/lang/invoke/MethodHandle" ∧ y.cls ≠ "java/lang/invoke/VarHandle")
    {a : Addr} (E : Exa Z h a D) {argsL rest st : List Value} {W : Nat} {pc pc' : Nat} {L : Array Slot} (hL : L.size = maxL) (has : (Value.ref a :: argsL).toArray = as') (hlen : ∀ sig, parseMethodDescriptor y.desc = some sig → argsL.length = sig.parameters.length) (hst : st = argsL.reverse ++ .ref a :: rest) (hW : (rest.map fun v => v.category).sum = W) (hd : decode bytes pc = .ok (.invokevirtual index, 3)) (hp : pc + 3 = pc') (hf : rm.frames + 1 ≤ R.frames) (hl : W + (ym + 11) + rm.locals ≤ R.locals) (hc : C + rm.cells ≤ R.cells) (hsl : S + rm.slots ≤ R.slots) (hsf : ∀ x ∈ sfI, x ∈ sf)
    (k : ∀ T' h' v so, Hs p l e R s m args below meth c Z a0 EL cw own n0 bytes maxL ret nm T' h' (C + rm.cells) (S + rm.slots) (so ++ sf) → Q v h' so → Go p e below P (T'.setTop (mkF m pc' L (v.toList ++ rest)))) : Go p e below P (T.setTop (mkF m pc L st)) := by
  subst hp; subst has
  obtain ⟨hM, vm0, k0, locs, X, h1, h2, h3, h4, h5, h6, h7, h8, h9, hO⟩ := id H
  obtain ⟨cq, kq, qa, qb, qc⟩ := isOf (s := s.setVm vm0) h4 h1 E
  obtain ⟨v, vm₁, B, hw, X', hS, hg, ⟨L', so, q1, rO, r1, r2, r3, r4, r5, r6, r7⟩, st'⟩ := X.virtualBackS H.exec h5 (mvT (s := s.setVm vm0) h4 w1) (mvT (s := s.setVm vm0) h4 w2) (wn (s.setVm vm0) h4) (mvT (s := s.setVm vm0) h4 w3) (mvT (s := s.setVm vm0) h4 w4) hy (M.backS (W := W) hM.2.1 h4 wc wz hf hl h7.1 (fun x hx => h8 x (hsf x hx))) qa qc (g := mkF m pc L st) rfl (by rw [hM.2.2.2.1]; exact hL) (Steps.refl _) hlen hst (by show 2 * 0 + _ ≤ _; omega) (H.dec hd) (fun _ _ => ⟨rfl, h1, hc, hsl⟩)
  rw [h1] at hg
  exact Go.tr st' (k _ _ v so (H.behind (vm₁ := vm₁) h2 h3 h4 h5 h6 h7 h8 h9 X' hS hg r1 r2 r3 r4 r5 r6 r7 rO) q1)
theorem nf_sel {y : MethodName} {D : String} (w : (Cond.selects D y y).before a0 Z = true) : ∀ s' : State, Z.Warmed39 s'.vm → NotFace s' y := fun s' hZ => notFace_of_selects (args := #[]) (mvT (s := s') hZ w)
/-! ## numbers -/
theorem own_and255 (x : Int32) : ¬ (x &&& 255) < 0 ∧ ¬ (255 : Int32) < (x &&& 255) := by
  have h : (x &&& 255).toBitVec.toNat < 256 := by
    simp only [Int32.toBitVec_and, BitVec.toNat_and]
    exact Nat.lt_succ_of_le Nat.and_le_right
  have h2 : (x &&& 255).toInt = ((x &&& 255).toBitVec.toNat : Int) := by
    show (x &&& 255).toBitVec.toInt = _
    rw [BitVec.toInt_eq_toNat_of_lt (by omega)]
  rw [Int32.lt_iff_toInt_lt, Int32.lt_iff_toInt_lt, h2]
  have e0 : (0 : Int32).toInt = 0 := rfl
  have e1 : (255 : Int32).toInt = 255 := rfl
  omega
theorem own_u16 {x : Int32} (h : ¬ x < 0 ∧ ¬ (255 : Int32) < x) : ¬ x < 0 ∧ ¬ (65535 : Int32) < x := by
  obtain ⟨h0, h1⟩ := h
  rw [Int32.lt_iff_toInt_lt] at h0 h1
  refine ⟨by rw [Int32.lt_iff_toInt_lt]; exact h0, ?_⟩
  rw [Int32.lt_iff_toInt_lt]
  have e1 : (255 : Int32).toInt = 255 := rfl
  have e2 : (65535 : Int32).toInt = 65535 := rfl
  omega
theorem own_c16 {x : Int32} (h : ¬ x < 0 ∧ ¬ (65535 : Int32) < x) : x.toUInt32.toUInt16.toUInt32.toInt32 = x := by
  obtain ⟨h0, h1⟩ := h
  rw [Int32.lt_iff_toInt_lt] at h0 h1
  have e0 : (0 : Int32).toInt = 0 := rfl
  have e2 : (65535 : Int32).toInt = 65535 := rfl
  have hb : x.toBitVec.toNat < 65536 := by
    have q : x.toBitVec.toInt = x.toInt := rfl
    have r := BitVec.toInt_eq_toNat_cond x.toBitVec
    split at r <;> omega
  apply Int32.toBitVec_inj.mp
  apply BitVec.eq_of_toNat_eq
  have e : x.toUInt32.toUInt16.toUInt32.toInt32.toBitVec.toNat = x.toUInt32.toUInt16.toUInt32.toNat := rfl
  rw [e, UInt16.toNat_toUInt32, UInt32.toNat_toUInt16]
  show x.toBitVec.toNat % 2 ^ 16 = _
  omega
theorem own_narC {x : Int32} (h : ¬ x < 0 ∧ ¬ (65535 : Int32) < x) : nar .char x = x := own_c16 h
theorem own_bool {x : Int32} (h : x = 0 ∨ x = 1) : nar .boolean x = x := by rcases h with rfl | rfl <;> rfl
theorem own_and255L (x : Int64) : ¬ (x &&& 255).toInt32 < 0 ∧ ¬ (255 : Int32) < (x &&& 255).toInt32 := by
  have h : (x &&& 255).toBitVec.toNat < 256 := by
    simp only [Int64.toBitVec_and, BitVec.toNat_and]
    exact Nat.lt_succ_of_le Nat.and_le_right
  have h1 : (x &&& 255).toInt32.toBitVec.toNat = (x &&& 255).toBitVec.toNat := by
    rw [Int64.toBitVec_toInt32, BitVec.signExtend_eq_setWidth_of_le _ (by decide), BitVec.toNat_setWidth]
    exact Nat.mod_eq_of_lt (by omega)
  have h2 : (x &&& 255).toInt32.toInt = ((x &&& 255).toInt32.toBitVec.toNat : Int) := by
    show (x &&& 255).toInt32.toBitVec.toInt = _
    rw [BitVec.toInt_eq_toNat_of_lt (by omega)]
  rw [Int32.lt_iff_toInt_lt, Int32.lt_iff_toInt_lt, h2, h1]
  have e0 : (0 : Int32).toInt = 0 := rfl
  have e1 : (255 : Int32).toInt = 255 := rfl
  omega
theorem own_rem {x : Int32} {k : Int32} (hk : 0 < k.toInt) : 0 ≤ ((x &&& 2147483647) % k).toInt ∧ ((x &&& 2147483647) % k).toInt < k.toInt := by
  have h : (x &&& 2147483647).toBitVec.toNat < 2 ^ 31 := by
    simp only [Int32.toBitVec_and, BitVec.toNat_and]
    exact Nat.lt_of_le_of_lt Nat.and_le_right (by decide)
  have h2 : (x &&& 2147483647).toInt = ((x &&& 2147483647).toBitVec.toNat : Int) := by
    show (x &&& 2147483647).toBitVec.toInt = _
    rw [BitVec.toInt_eq_toNat_of_lt (by omega)]
  rw [Int32.toInt_mod, h2]
  exact ⟨Int.tmod_nonneg _ (by omega), Int.tmod_lt_of_pos _ hk⟩
/-! ## small words -/
theorem sto_of {a y : Addr} {kc : ClassId} {ty : FieldType} {z : Int32} {vs : List Value} {dv : Value} {K : String} (A : Arv Z h a kc ty z vs dv) (O : Ovr Z kc K) (I : Ins Z h y K true) : Sto Z h a (.ref y) := by
  obtain ⟨cl, Ar, q, -⟩ := A; exact Sto.ofV Ar q O I
theorem own_pnZ {x : Int32} (h : x = 0 ∨ x = 1) : narrow .boolean (.int x) = .int x := by rcases h with rfl | rfl <;> rfl
theorem own_pfZ {x : Int32} (h : x = 0 ∨ x = 1) : fits .boolean (.int x) = true := by rcases h with rfl | rfl <;> rfl
theorem own_pnC {x : Int32} (h : ¬ x < 0 ∧ ¬ (65535 : Int32) < x) : narrow .char (.int x) = .int x := by
  show Value.int (x.toUInt32.toUInt16.toUInt32.toInt32) = _; rw [own_c16 h]
theorem own_pfC {x : Int32} (h : ¬ x < 0 ∧ ¬ (65535 : Int32) < x) : fits .char (.int x) = true := by
  have q := fits_nar_char x; rw [own_narC h] at q; exact q
theorem own_pnA {v : Value} {ty : FieldType} (hv : v.isRef = true) (ht : ty.isReference = true) : narrow ty v = v := by
  rcases ref_cases hv with rfl | ⟨a, rfl⟩ <;> cases ty <;> first | rfl | cases ht
theorem own_pfA {v : Value} {ty : FieldType} (hv : v.isRef = true) (ht : ty.isReference = true) : fits ty v = true := by
  rcases ref_cases hv with rfl | ⟨a, rfl⟩ <;> cases ty <;> first | rfl | cases ht
theorem cb0 : ∀ c ∈ ([] : List Int32), ¬ c < 0 ∧ ¬ (255 : Int32) < c := fun _ q => nomatch q
theorem cbS {x : Int32} {xs : List Int32} (q : ¬ x < 0 ∧ ¬ (255 : Int32) < x) (r : ∀ c ∈ xs, ¬ c < 0 ∧ ¬ (255 : Int32) < c) : ∀ c ∈ x :: xs, ¬ c < 0 ∧ ¬ (255 : Int32) < c := fun c hc => by
  rcases List.mem_cons.mp hc with rfl | hc
  · exact q
  · exact r c hc
/-- a Latin-1 String and its bytes -/
def Str (Z : State) (h : Heap) (a t : Addr) (kb : ClassId) (cs : List Int32) : Prop :=
  Exa Z h a "java/lang/String" ∧ Fld Z h a "java/lang/String" "coder" "B" (.int 0) ∧ Fld Z h a "java/lang/String" "value" "[B" (.ref t) ∧ Arv Z h t kb .byte (Int32.ofNat cs.length) (cs.map fun c => Value.int c.toInt8.toInt32) (.int 0) ∧ (∀ c ∈ cs, ¬ c < 0 ∧ ¬ (255 : Int32) < c) ∧ cs.length ≤ 4000
theorem Str.ext {h' : Heap} {a t : Addr} {kb : ClassId} {cs : List Int32} (E : Ext h h') (F : Str Z h a t kb cs) : Str Z h' a t kb cs := ⟨F.1.ext E, F.2.1.ext E, F.2.2.1.ext E, F.2.2.2.1.ext E, F.2.2.2.2⟩
theorem Str.keep {h' : Heap} {a t : Addr} {kb : ClassId} {cs : List Int32} {ws : List Addr} (F : Str Z h a t kb cs) (K : Keep h h' ws) (q : a ∉ ws) (r : t ∉ ws) : Str Z h' a t kb cs := ⟨F.1.keep K, F.2.1.keep K q, F.2.2.1.keep K q, F.2.2.2.1.keep K r, F.2.2.2.2⟩
theorem Str.other {h' : Heap} {a t w : Addr} {sl : Nat} {v : Value} {kb : ClassId} {cs : List Int32} (W : Wr h h' w sl v) (F : Str Z h a t kb cs) (q : a ≠ w) (r : t ≠ w) : Str Z h' a t kb cs := ⟨F.1.wr W, F.2.1.other W (Or.inl q), F.2.2.1.other W (Or.inl q), F.2.2.2.1.other W r, F.2.2.2.2⟩
theorem own_fldeq {args : Array Value} {t : Term} {K n d : String} {i : Int32} {x : Addr} (ev : t.eval args Z none [] Z = some (.ref x)) (hq : (Cond.eq (Term.field t K n d) (Term.int i)).value args Z none Z [] = some true) : Fld Z Z.heap x K n d (.int i) := by
  obtain ⟨u, w, hu, hw, k1, k2⟩ := cmp_v (Or.inl hq)
  have e1 : (Term.int i).eval args Z none [] Z = some (.int i) := Term.int_eval i
  cases e1.symm.trans hw
  obtain ⟨z, rfl⟩ := k2
  have e2 : z = i := gotT (Cond.eq_ints hu e1) hq
  subst e2
  exact Fld.start ((fld_at ev).symm.trans hu)
theorem arv_tyne {a b : Addr} {k1 k2 : ClassId} {t1 t2 : FieldType} {z1 z2 : Int32} {v1 v2 : List Value} {d1 d2 : Value} (A : Arv Z h a k1 t1 z1 v1 d1) (B : Arv Z h b k2 t2 z2 v2 d2) (q : t1 ≠ t2) : a ≠ b := fun e => by
  subst e
  obtain ⟨c1, ⟨a1, ⟨a2, kA, a3, compA, a4⟩, -⟩, -⟩ := A
  obtain ⟨c2, ⟨b1, ⟨b2, kB, b3, compB, b4⟩, -⟩, -⟩ := B
  cases a1.symm.trans b1
  cases a3.symm.trans b3
  have := a4.symm.trans b4
  injection this with _ e
  exact q e
/-! ## a call that a law of the pasted kind pays, the heap as it was -/
theorem G.pureV (H : Hs p l e R s m args below meth c Z a0 EL cw own n0 bytes maxL ret nm T h C S sf) {y : MethodName} {D : String} {Qv : Option Value → Prop} {as' : Array Value} {W : Nat} (hB : ∀ s' : State, Z.Warmed39 s'.vm → Back l R p e below s' args y 3 W (fun P a => a = as' ∧ P.U.heap = h ∧ P.cells + 0 ≤ R.cells ∧ P.slots + 0 ≤ R.slots) (fun P _ v B => ∃ L, (Qv v ∧ L = [] ∧ B.U.heap = h) ∧ B.locs = P.locs ++ L ∧ B.cells = P.cells + 0 ∧ B.slots = P.slots + 0))
    {index : Nat} (w1 : (Cond.methodLink own index y).before a0 Z = true) (w2 : (Cond.declares y).before a0 Z = true) (w3 : (Cond.selects D y y).before a0 Z = true) (w4 : (Cond.instanceMethod y).before a0 Z = true) (hy : y.cls ≠ "java/lang/invoke/MethodHandle" ∧ y.cls ≠ "java/lang/invoke/VarHandle")
    {a : Addr} (E : Exa Z h a D) {argsL rest st : List Value} {pc pc' : Nat} {L : Array Slot} (hL : L.size = maxL) (has : (Value.ref a :: argsL).toArray = as') (hlen : ∀ sig, parseMethodDescriptor y.desc = some sig → argsL.length = sig.parameters.length) (hst : st = argsL.reverse ++ .ref a :: rest) (hW : (rest.map fun v => v.category).sum = W) (hd : decode bytes pc = .ok (.invokevirtual index, 3)) (hp : pc + 3 = pc') (hc : C ≤ R.cells) (hsl : S ≤ R.slots)
    (k : ∀ T' v, Hs p l e R s m args below meth c Z a0 EL cw own n0 bytes maxL ret nm T' h C S sf → Qv v → Go p e below P (T'.setTop (mkF m pc' L (v.toList ++ rest)))) : Go p e below P (T.setTop (mkF m pc L st)) := by
  subst hp; subst has
  obtain ⟨hM, vm0, k0, locs, X, h1, h2, h3, h4, h5, h6, h7, h8, h9, hO⟩ := id H
  obtain ⟨cq, kq, qa, qb, qc⟩ := isOf (s := s.setVm vm0) h4 h1 E
  obtain ⟨v, vm₁, B, hw, X', ⟨L', ⟨q1, q2, q3⟩, r2, r3, r4⟩, st'⟩ := X.virtualBack H.exec h5 (mvT (s := s.setVm vm0) h4 w1) (mvT (s := s.setVm vm0) h4 w2) (notFace_of_selects (args := #[]) (mvT (s := s.setVm vm0) h4 w3)) (mvT (s := s.setVm vm0) h4 w3) (mvT (s := s.setVm vm0) h4 w4) hy (hB (s.setVm vm0) h4) qa qc (g := mkF m pc L st) rfl (by rw [hM.2.2.2.1]; exact hL) (Steps.refl _) hlen hst (by show 2 * 0 + _ ≤ _; omega) (H.dec hd) (fun _ _ => ⟨rfl, h1, hc, hsl⟩)
  subst q2
  refine Go.tr st' (k B.U v ⟨hM, vm0, k0, locs, ?_, q3, h2, h3, h4, h5, h6, h7, h8, h9, hO⟩ q1)
  have e1 : B.locs = locs := by rw [r2]; exact List.append_nil _
  have e2 : B.cells = C := r3
  have e3 : B.slots = S := r4
  rw [← e1, ← e2, ← e3]; exact X'
end Kit
end Jvm.OwnKit
/- laws to paste: Road.backV (cut by pick.py; bodies as the Statement names them) -/
namespace Jvm.Pilot.@@N@@
namespace StrChars
open Jvm Sem ClassFile Op Lib Jvm.Stand Jvm.Free.XT Jvm.Free.ALB Jvm.Free.JM Jvm.Free
open Jvm.Lib.Cold (StaticIs)
/-- a char array whose places are chars -/
def Ch (a : Addr) (A : Cell) (U : State) : Prop := Arr .char a A U ∧ Typed .char A
theorem Ch.mv {a : Addr} {A : Cell} {U U' : State} (h : Ch a A U) (hal : U.vm.Alike U'.vm) (hh : U'.heap = U.heap) : Ch a A U' := ⟨h.1.mv hal hh, h.2⟩
theorem Ch.keep {a : Addr} {A : Cell} {U U' : State} (h : Ch a A U) (hal : U.vm.Alike U'.vm) (hk : U'.heap[a]? = some A) : Ch a A U' := ⟨h.1.keep hal hk, h.2⟩
/-- what place i of a char[]'s cell holds -/
def cv (A : Cell) (i : Nat) : Int32 := match A.slots[i]? with | some (.int x) => x | _ => 0
theorem Ch.get {a : Addr} {A : Cell} {U : State} (h : Ch a A U) {i : Nat} (hi : i < A.slots.size) : A.slots[i]? = some (.int (cv A i)) := by
  have e := Array.getElem?_eq_getElem hi
  have f := h.2 i _ e
  unfold cv; rw [e]
  generalize A.slots[i] = v at f
  cases v <;> simp [fits] at f ⊢
/-- the byte that i2b leaves of a char -/
def lo8 (x : Int32) : Int32 := x.toInt8.toInt32
theorem fits_lo8 (y : Int32) : fits .byte (.int (lo8 y)) = true := by
  have h1 := y.toInt8.le_toInt
  have h2 := y.toInt8.toInt_lt
  simp only [lo8, fits, Bool.and_eq_true, decide_eq_true_eq, Int32.le_iff_toInt_le, Int8.toInt_toInt32, show (-128 : Int32).toInt = -128 from by decide, show (127 : Int32).toInt = 127 from by decide]
  omega
/-- A' is A but that each place j of lo .. hi - 1 holds f j -/
def Laid (A A' : Cell) (lo hi : Nat) (f : Nat → Value) : Prop := A'.cls = A.cls ∧ A'.vm = A.vm ∧ A'.slots.size = A.slots.size ∧ ∀ i, A'.slots[i]? = if lo ≤ i ∧ i < hi then some (f i) else A.slots[i]?
theorem Laid.zero (A : Cell) (lo : Nat) (f : Nat → Value) : Laid A A lo (lo + 0) f := ⟨rfl, rfl, rfl, fun i => by rw [if_neg (by omega)]⟩
theorem Laid.step {A Ak : Cell} {lo k : Nat} {f : Nat → Value} {v : Value} (h : Laid A Ak lo k f) (hlo : lo ≤ k) (hk : k < Ak.slots.size) (hv : v = f k) : Laid A (Ak.setSlot k v) lo (k + 1) f := by
  refine ⟨h.1, h.2.1, by simpa [Cell.setSlot] using h.2.2.1, fun i => ?_⟩
  by_cases e : k = i
  · subst e; rw [Cell.slots_setSlot_self v hk, if_pos (by omega), hv]
  · rw [Cell.slots_setSlot_ne v e, h.2.2.2 i]
    by_cases q : lo ≤ i ∧ i < k
    · rw [if_pos q, if_pos (by omega)]
    · rw [if_neg q, if_neg (by omega)]
def U16 : String := "java/lang/StringUTF16"
namespace Cmp5
def yN : MethodName := ⟨"java/lang/StringUTF16", "compress", "([CI[BII)I"⟩
abbrev yB : ByteArray := jdk_52_method_21_code
theorem d0 : decode yB 0 = .ok (.iconst 0, 1) := by decide +kernel
theorem d1 : decode yB 1 = .ok (.istore 5, 2) := by decide +kernel
theorem d3 : decode yB 3 = .ok (.iload 5, 2) := by decide +kernel
theorem d5 : decode yB 5 = .ok (.iload 4, 2) := by decide +kernel
theorem d7 : decode yB 7 = .ok (.if_icmp (.ge) 37, 3) := by decide +kernel
theorem d10 : decode yB 10 = .ok (.aload_n 0, 1) := by decide +kernel
theorem d11 : decode yB 11 = .ok (.iload_n 1, 1) := by decide +kernel
theorem d12 : decode yB 12 = .ok (.caload, 1) := by decide +kernel
theorem d13 : decode yB 13 = .ok (.istore 6, 2) := by decide +kernel
theorem d15 : decode yB 15 = .ok (.iload 6, 2) := by decide +kernel
theorem d17 : decode yB 17 = .ok (.sipush 255, 3) := by decide +kernel
theorem d20 : decode yB 20 = .ok (.if_icmp (.le) 6, 3) := by decide +kernel
theorem d26 : decode yB 26 = .ok (.aload_n 2, 1) := by decide +kernel
theorem d27 : decode yB 27 = .ok (.iload_n 3, 1) := by decide +kernel
theorem d28 : decode yB 28 = .ok (.iload 6, 2) := by decide +kernel
theorem d30 : decode yB 30 = .ok (.i2b, 1) := by decide +kernel
theorem d31 : decode yB 31 = .ok (.bastore, 1) := by decide +kernel
theorem d32 : decode yB 32 = .ok (.iinc 1 1, 3) := by decide +kernel
theorem d35 : decode yB 35 = .ok (.iinc 3 1, 3) := by decide +kernel
theorem d38 : decode yB 38 = .ok (.iinc 5 1, 3) := by decide +kernel
theorem d41 : decode yB 41 = .ok (.goto (-38), 3) := by decide +kernel
theorem d44 : decode yB 44 = .ok (.iload 4, 2) := by decide +kernel
theorem d46 : decode yB 46 = .ok (.ireturn, 1) := by decide +kernel
def site : List Cond := []
def tab : Cond := tabOf yN yB 7 (some .int) site
def P (b : Addr) (A : Cell) (d : Addr) (B : Cell) (o q len : Nat) (args : Array Value) (s : State) : Prop := args = #[.ref b, .int (Int32.ofNat o), .ref d, .int (Int32.ofNat q), .int (Int32.ofNat len)] ∧ Ch b A s ∧ Arr .byte d B s ∧ b ≠ d ∧ o + len ≤ A.slots.size ∧ q + len ≤ B.slots.size ∧ ∀ i, i < len → ¬ 255 < cv A (o + i)
def E (b : Addr) (A : Cell) (d : Addr) (B : Cell) (o q len : Nat) (r : Option Value) (s u : State) : Prop := r = some (.int (Int32.ofNat len)) ∧ ∃ B', Put d B' s u ∧ Laid B B' q (q + len) (fun j => Value.int (lo8 (cv A (o + (j - q)))))
/-- no char of the range above 255: len; the places written hold each char's low byte -/
theorem law (l : Launch) (b : Addr) (A : Cell) (d : Addr) (B : Cell) (o q len : Nat) : Law l yN 5 5 0 0 yB 7 (some .int) site (P b A d B o q len) (E b A d B o q len) (copyLocs d q len) 0 0 := by
  refine Law.of_walk (plainFor_of_name (by decide +kernel)) (by decide +kernel) (by decide +kernel) (by decide) (fun _ _ h => by rw [h.1]; rfl) (fun _ U U' hal hh h => ⟨h.1, h.2.1.mv hal hh, h.2.2.1.mv hal hh, h.2.2.2⟩) (fun r U U' V V' h1 hal h2 h => ⟨h.1, h.2.elim fun B' q => ⟨B', q.1.mv h1 h2, q.2⟩⟩) ?_
  intro p e s m args below meth c s₁ X0 hexec hbytes hml hret hlk hnm hown hh0 W hP
  obtain ⟨rfl, hA, hB, hne, l1, l2, hp⟩ := hP
  have c1 : Steps p.tables e below (s₁.setTop (entryFrame m #[.ref b, .int (Int32.ofNat o), .ref d, .int (Int32.ofNat q), .int (Int32.ofNat len)] 7)) (s₁.setTop (mkF m 0 #[.val (.ref b), .val (.int (Int32.ofNat o)), .val (.ref d), .val (.int (Int32.ofNat q)), .val (.int (Int32.ofNat len)), .unset, .unset] [])) := entry rfl
  have hA0 := hA.1.mv X0.warmed.alike hh0
  have hB0 := hB.mv X0.warmed.alike hh0
  have a31 := hA.1.2.2.2
  have c2 : Steps p.tables e below (s₁.setTop (entryFrame m #[.ref b, .int (Int32.ofNat o), .ref d, .int (Int32.ofNat q), .int (Int32.ofNat len)] 7)) (s₁.setTop (mkF m 3 #[.val (.ref b), .val (.int (Int32.ofNat o)), .val (.ref d), .val (.int (Int32.ofNat q)), .val (.int (Int32.ofNat len)), .val (.int 0), .unset] [])) := c1.trans (by
    refine iconstV X0.here hexec rfl 0 (hb hbytes d0) (by decide) ?_
    refine XS.istore X0.here hexec rfl (hb hbytes d1) rfl rfl ?_
    exact Steps.refl _)
  have loop : ∀ (r i : Nat), i + r = len → ∀ (z : Slot), (z = .unset ∨ ∃ w, z = .val w ∧ w.category = 1) → ∀ (Tl : State) (Bk : Cell), Stand p l e { frames := 0, locals := 0, cells := 0, slots := 0 } s m #[.ref b, .int (Int32.ofNat o), .ref d, .int (Int32.ofNat q), .int (Int32.ofNat len)] below meth c Tl ([] ++ copyLocs d q i) 0 0 → Put d Bk s₁ Tl → Laid B Bk q (q + i) (fun j => Value.int (lo8 (cv A (o + (j - q))))) →
      Steps p.tables e below (s₁.setTop (entryFrame m #[.ref b, .int (Int32.ofNat o), .ref d, .int (Int32.ofNat q), .int (Int32.ofNat len)] 7)) (Tl.setTop (mkF m 3 #[.val (.ref b), .val (.int (Int32.ofNat (o + i))), .val (.ref d), .val (.int (Int32.ofNat (q + i))), .val (.int (Int32.ofNat len)), .val (.int (Int32.ofNat i)), z] [])) → ∃ (T' : State) (B' : Cell) (z' : Slot), Stand p l e { frames := 0, locals := 0, cells := 0, slots := 0 } s m #[.ref b, .int (Int32.ofNat o), .ref d, .int (Int32.ofNat q), .int (Int32.ofNat len)] below meth c T' ([] ++ copyLocs d q len) 0 0 ∧ Put d B' s₁ T' ∧ Laid B B' q (q + len) (fun j => Value.int (lo8 (cv A (o + (j - q))))) ∧
      Steps p.tables e below (s₁.setTop (entryFrame m #[.ref b, .int (Int32.ofNat o), .ref d, .int (Int32.ofNat q), .int (Int32.ofNat len)] 7)) (T'.setTop (mkF m 3 #[.val (.ref b), .val (.int (Int32.ofNat (o + len))), .val (.ref d), .val (.int (Int32.ofNat (q + len))), .val (.int (Int32.ofNat len)), .val (.int (Int32.ofNat len)), z'] [])) := by
    intro r
    induction r with
    | zero =>
      intro i hi z hz Tl Bk Xl pl fl cl
      have hil : i = len := by omega
      rw [hil] at Xl fl cl
      exact ⟨Tl, Bk, z, Xl, pl, fl, cl⟩
    | succ r ih =>
      intro i hi z hz Tl Bk Xl pl fl cl
      have all := X0.warmed.alike.symm.trans Xl.warmed.alike
      have hAl := hA0.keep all (pl.other hne hA0.1)
      have hBk := hB0.like all pl.1 fl.1 fl.2.1 fl.2.2.1
      have hlt : q + i < Bk.slots.size := by rw [fl.2.2.1]; omega
      have c3 : Steps p.tables e below (s₁.setTop (entryFrame m #[.ref b, .int (Int32.ofNat o), .ref d, .int (Int32.ofNat q), .int (Int32.ofNat len)] 7)) (Tl.setTop (mkF m 12 #[.val (.ref b), .val (.int (Int32.ofNat (o + i))), .val (.ref d), .val (.int (Int32.ofNat (q + i))), .val (.int (Int32.ofNat len)), .val (.int (Int32.ofNat i)), z] [.int (Int32.ofNat (o + i)), .ref b])) := cl.trans (by
        refine XS.iload Xl.here hexec rfl (hb hbytes d3) rfl ?_
        refine XS.iload Xl.here hexec rfl (hb hbytes d5) rfl ?_
        refine XS.icmpNo Xl.here hexec rfl (hb hbytes d7) rfl (ii_ge_f (lt32 (by omega) (by omega))) ?_
        refine XS.aloadN Xl.here hexec rfl (hb hbytes d10) rfl rfl ?_
        refine XS.iloadN Xl.here hexec rfl (hb hbytes d11) rfl ?_
        exact Steps.refl _)
      have c4 : Steps p.tables e below (s₁.setTop (entryFrame m #[.ref b, .int (Int32.ofNat o), .ref d, .int (Int32.ofNat q), .int (Int32.ofNat len)] 7)) (Tl.setTop (mkF m 13 #[.val (.ref b), .val (.int (Int32.ofNat (o + i))), .val (.ref d), .val (.int (Int32.ofNat (q + i))), .val (.int (Int32.ofNat len)), .val (.int (Int32.ofNat i)), z] [.int (cv A (o + i))])) := c3.trans (by
        refine Xl.aget hexec hAl rfl (hA.get (i := o + i) (by omega)) rfl rfl (hb hbytes d12) ?_
        exact Steps.refl _)
      have c5 : Steps p.tables e below (s₁.setTop (entryFrame m #[.ref b, .int (Int32.ofNat o), .ref d, .int (Int32.ofNat q), .int (Int32.ofNat len)] 7)) (Tl.setTop (mkF m 15 #[.val (.ref b), .val (.int (Int32.ofNat (o + i))), .val (.ref d), .val (.int (Int32.ofNat (q + i))), .val (.int (Int32.ofNat len)), .val (.int (Int32.ofNat i)), .val (.int (cv A (o + i)))] [])) := c4.trans (by
        refine XS.istoreS Xl.here hexec rfl (hb hbytes d13) rfl rfl hz ?_
        exact Steps.refl _)
      have c6 : Steps p.tables e below (s₁.setTop (entryFrame m #[.ref b, .int (Int32.ofNat o), .ref d, .int (Int32.ofNat q), .int (Int32.ofNat len)] 7)) (Tl.setTop (mkF m 31 #[.val (.ref b), .val (.int (Int32.ofNat (o + i))), .val (.ref d), .val (.int (Int32.ofNat (q + i))), .val (.int (Int32.ofNat len)), .val (.int (Int32.ofNat i)), .val (.int (cv A (o + i)))] [.int (lo8 (cv A (o + i))), .int (Int32.ofNat (q + i)), .ref d])) := c5.trans (by
        refine XS.iload Xl.here hexec rfl (hb hbytes d15) rfl ?_
        refine sipushV Xl.here hexec rfl 255 (hb hbytes d17) (by decide) ?_
        refine XS.icmpYes Xl.here hexec rfl (pc0 := 20) rfl (hb hbytes d20) rfl (ii_le_t (hp i (by omega))) (by decide) rfl ?_
        refine XS.aloadN Xl.here hexec rfl (hb hbytes d26) rfl rfl ?_
        refine XS.iloadN Xl.here hexec rfl (hb hbytes d27) rfl ?_
        refine XS.iload Xl.here hexec rfl (hb hbytes d28) rfl ?_
        refine i2b Xl.here hexec rfl (hb hbytes d30) rfl ?_
        exact Steps.refl _)
      obtain ⟨T7, X7, p7, st7⟩ := Xl.aput hexec hBk rfl hlt rfl (fits_lo8 (cv A (o + i))) (g := (mkF m 31 #[.val (.ref b), .val (.int (Int32.ofNat (o + i))), .val (.ref d), .val (.int (Int32.ofNat (q + i))), .val (.int (Int32.ofNat len)), .val (.int (Int32.ofNat i)), .val (.int (cv A (o + i)))] [.int (lo8 (cv A (o + i))), .int (Int32.ofNat (q + i)), .ref d])) rfl (rest := []) rfl (hb hbytes d31)
      have c8 : Steps p.tables e below (s₁.setTop (entryFrame m #[.ref b, .int (Int32.ofNat o), .ref d, .int (Int32.ofNat q), .int (Int32.ofNat len)] 7)) (T7.setTop (mkF m 32 #[.val (.ref b), .val (.int (Int32.ofNat (o + i))), .val (.ref d), .val (.int (Int32.ofNat (q + i))), .val (.int (Int32.ofNat len)), .val (.int (Int32.ofNat i)), .val (.int (cv A (o + i)))] [])) := c6.trans (st7 _ (Steps.refl _))
      have c9 : Steps p.tables e below (s₁.setTop (entryFrame m #[.ref b, .int (Int32.ofNat o), .ref d, .int (Int32.ofNat q), .int (Int32.ofNat len)] 7)) (T7.setTop (mkF m 3 #[.val (.ref b), .val (.int (Int32.ofNat (o + i) + 1)), .val (.ref d), .val (.int (Int32.ofNat (q + i) + 1)), .val (.int (Int32.ofNat len)), .val (.int (Int32.ofNat i + 1)), .val (.int (cv A (o + i)))] [])) := c8.trans (by
        refine iincV X7.here hexec rfl 1 (hb hbytes d32) (by decide) rfl rfl ?_
        refine iincV X7.here hexec rfl 1 (hb hbytes d35) (by decide) rfl rfl ?_
        refine iincV X7.here hexec rfl 1 (hb hbytes d38) (by decide) rfl rfl ?_
        refine XS.goto X7.here hexec rfl (pc0 := 41) rfl (hb hbytes d41) (by decide) rfl ?_
        exact Steps.refl _)
      have c10 : Steps p.tables e below (s₁.setTop (entryFrame m #[.ref b, .int (Int32.ofNat o), .ref d, .int (Int32.ofNat q), .int (Int32.ofNat len)] 7)) (T7.setTop (mkF m 3 #[.val (.ref b), .val (.int (Int32.ofNat (o + (i + 1)))), .val (.ref d), .val (.int (Int32.ofNat (q + (i + 1)))), .val (.int (Int32.ofNat len)), .val (.int (Int32.ofNat (i + 1))), .val (.int (cv A (o + i)))] [])) := by
        have := c9
        rw [succ32, succ32, succ32] at this
        exact this
      exact ih (i + 1) (by omega) _ (Or.inr ⟨_, rfl, rfl⟩) T7 _ (by rw [copyLocs_step, ← List.append_assoc]; exact X7) (pl.trans p7) (fl.step (by omega) hlt (by simp)) c10
  obtain ⟨T9, B9, z9, X9, p9, f9, g9⟩ := loop len 0 (by omega) .unset (Or.inl rfl) s₁ B (by simpa [copyLocs] using X0) ⟨hB0.1, fun _ _ => rfl, rfl⟩ (Laid.zero _ _ _) c2
  have c11 : Steps p.tables e below (s₁.setTop (entryFrame m #[.ref b, .int (Int32.ofNat o), .ref d, .int (Int32.ofNat q), .int (Int32.ofNat len)] 7)) (T9.setTop (mkF m 46 #[.val (.ref b), .val (.int (Int32.ofNat (o + len))), .val (.ref d), .val (.int (Int32.ofNat (q + len))), .val (.int (Int32.ofNat len)), .val (.int (Int32.ofNat len)), z9] [.int (Int32.ofNat len)])) := g9.trans (by
    refine XS.iload X9.here hexec rfl (hb hbytes d3) rfl ?_
    refine XS.iload X9.here hexec rfl (hb hbytes d5) rfl ?_
    refine XS.icmpYes X9.here hexec rfl (pc0 := 7) rfl (hb hbytes d7) rfl (ii_ge_t (nlt32 (by omega) (Nat.le_refl _))) (by decide) rfl ?_
    refine XS.iload X9.here hexec rfl (hb hbytes d44) rfl ?_
    exact Steps.refl _)
  exact ⟨T9, some (.int (Int32.ofNat len)), _, _, _, X9, by simp, rfl, rfl, (fun h => by cases h), ⟨rfl, B9, p9.from hh0, f9⟩, fun fs hl => c11.trans (X9.ireturnOut hexec hret rfl (Or.inl rfl) (hb hbytes d46) hl)⟩
end Cmp5
namespace Cmp3
def yN : MethodName := ⟨"java/lang/StringUTF16", "compress", "([CII)[B"⟩
abbrev yB : ByteArray := jdk_52_method_16_code
theorem d0 : decode yB 0 = .ok (.iload_n 2, 1) := by decide +kernel
theorem d1 : decode yB 1 = .ok (.newarray .byte, 2) := by decide +kernel
theorem d3 : decode yB 3 = .ok (.astore_n 3, 1) := by decide +kernel
theorem d4 : decode yB 4 = .ok (.aload_n 0, 1) := by decide +kernel
theorem d5 : decode yB 5 = .ok (.iload_n 1, 1) := by decide +kernel
theorem d6 : decode yB 6 = .ok (.aload_n 3, 1) := by decide +kernel
theorem d7 : decode yB 7 = .ok (.iconst 0, 1) := by decide +kernel
theorem d8 : decode yB 8 = .ok (.iload_n 2, 1) := by decide +kernel
theorem d9 : decode yB 9 = .ok (.invokestatic 115, 3) := by decide +kernel
theorem d12 : decode yB 12 = .ok (.istore 4, 2) := by decide +kernel
theorem d14 : decode yB 14 = .ok (.iload 4, 2) := by decide +kernel
theorem d16 : decode yB 16 = .ok (.iload_n 2, 1) := by decide +kernel
theorem d17 : decode yB 17 = .ok (.if_icmp (.eq) 40, 3) := by decide +kernel
theorem d57 : decode yB 57 = .ok (.aload_n 3, 1) := by decide +kernel
theorem d58 : decode yB 58 = .ok (.areturn, 1) := by decide +kernel
def site : List Cond := [.arrayClass .byte, Cmp5.tab] ++ staticW U16 115 Cmp5.yN
def tab : Cond := tabOf yN yB 6 (some (.array .byte)) site
def P (b : Addr) (A : Cell) (o len : Nat) (args : Array Value) (s : State) : Prop := args = #[.ref b, .int (Int32.ofNat o), .int (Int32.ofNat len)] ∧ Ch b A s ∧ o + len ≤ A.slots.size ∧ len ≤ 536870912 ∧ ∀ i, i < len → ¬ 255 < cv A (o + i)
def E (b : Addr) (A : Cell) (o len : Nat) (r : Option Value) (s u : State) : Prop := NewArr .byte "[B" len (fun j => .int (lo8 (cv A (o + j)))) r s u ∧ u.heap.size = s.heap.size + 1
/-- no char of the range above 255: a new byte[] of their low bytes -/
theorem law (l : Launch) (b : Addr) (A : Cell) (o len : Nat) : Law l yN 3 3 1 18 yB 6 (some (.array .byte)) site (P b A o len) (E b A o len) [] 1 len := by
  refine Law.of_walk (plainFor_of_name (by decide +kernel)) (by decide +kernel) (by decide +kernel) (by decide) (fun _ _ h => by rw [h.1]; rfl) (fun _ U U' hal hh h => ⟨h.1, h.2.1.mv hal hh, h.2.2⟩) (fun r U U' V V' h1 hal h2 h => ⟨NewArr.mv r U U' V V' h1 hal h2 h.1, by rw [h1, h2]; exact h.2⟩) ?_
  intro p e s m args below meth c s₁ X0 hexec hbytes hml hret hlk hnm hown hh0 W hP
  obtain ⟨rfl, hA, l1, l2, hp⟩ := hP
  have a31 := hA.1.2.2.2
  have c1 : Steps p.tables e below (s₁.setTop (entryFrame m #[.ref b, .int (Int32.ofNat o), .int (Int32.ofNat len)] 6)) (s₁.setTop (mkF m 0 #[.val (.ref b), .val (.int (Int32.ofNat o)), .val (.int (Int32.ofNat len)), .unset, .unset, .unset] [])) := entry rfl
  have c2 : Steps p.tables e below (s₁.setTop (entryFrame m #[.ref b, .int (Int32.ofNat o), .int (Int32.ofNat len)] 6)) (s₁.setTop (mkF m 1 #[.val (.ref b), .val (.int (Int32.ofNat o)), .val (.int (Int32.ofNat len)), .unset, .unset, .unset] [.int (Int32.ofNat len)])) := c1.trans (by
    refine XS.iloadN X0.here hexec rfl (hb hbytes d0) rfl ?_
    exact Steps.refl _)
  obtain ⟨T3, B3, X3, ba3, bs3, bv3, bh3, bf3, st3⟩ := X0.anew hexec (atype := .byte) (wk W (.arrayClass .byte)) rfl (by show len * 1 ≤ _; omega) (by omega) (g := (mkF m 1 #[.val (.ref b), .val (.int (Int32.ofNat o)), .val (.int (Int32.ofNat len)), .unset, .unset, .unset] [.int (Int32.ofNat len)])) rfl (hb hbytes d1) (rest := []) rfl (Nat.le_refl _) (by show 0 + len ≤ len; omega)
  rw [hh0] at ba3 st3
  have kp3 : XT.Kept s T3 := (XT.Kept.of_eq hh0).push bh3
  have hA3 := hA.keep X3.warmed.alike (kp3 _ _ hA.1.1)
  have hne : b ≠ s.heap.size := hA.1.ne
  have c4 : Steps p.tables e below (s₁.setTop (entryFrame m #[.ref b, .int (Int32.ofNat o), .int (Int32.ofNat len)] 6)) (T3.setTop (mkF m 3 #[.val (.ref b), .val (.int (Int32.ofNat o)), .val (.int (Int32.ofNat len)), .unset, .unset, .unset] [.ref s.heap.size])) := c2.trans (st3 _ (Steps.refl _))
  have c5 : Steps p.tables e below (s₁.setTop (entryFrame m #[.ref b, .int (Int32.ofNat o), .int (Int32.ofNat len)] 6)) (T3.setTop (mkF m 9 #[.val (.ref b), .val (.int (Int32.ofNat o)), .val (.int (Int32.ofNat len)), .val (.ref s.heap.size), .unset, .unset] [.int (Int32.ofNat len), .int 0, .ref s.heap.size, .int (Int32.ofNat o), .ref b])) := c4.trans (by
    refine XS.astoreN X3.here hexec rfl (hb hbytes d3) rfl rfl rfl ?_
    refine XS.aloadN X3.here hexec rfl (hb hbytes d4) rfl rfl ?_
    refine XS.iloadN X3.here hexec rfl (hb hbytes d5) rfl ?_
    refine XS.aloadN X3.here hexec rfl (hb hbytes d6) rfl rfl ?_
    refine iconstV X3.here hexec rfl 0 (hb hbytes d7) (by decide) ?_
    refine XS.iloadN X3.here hexec rfl (hb hbytes d8) rfl ?_
    exact Steps.refl _)
  obtain ⟨v6, T6, X6, E6, g6⟩ := X3.callS hexec (Cmp5.law l b A s.heap.size B3 o 0 len) hown (wks W (staticW U16 115 Cmp5.yN)) (wk W Cmp5.tab) (W := 0) (Nat.le_of_ble_eq_true rfl) (Nat.le_of_ble_eq_true rfl) (Nat.le_refl _) (by show 0 + len + 0 ≤ len; omega) (g := (mkF m 9 #[.val (.ref b), .val (.int (Int32.ofNat o)), .val (.int (Int32.ofNat len)), .val (.ref s.heap.size), .unset, .unset] [.int (Int32.ofNat len), .int (Int32.ofNat 0), .ref s.heap.size, .int (Int32.ofNat o), .ref b])) rfl (by rw [hml]; rfl) c5 (argsL := [.ref b, .int (Int32.ofNat o), .ref s.heap.size, .int (Int32.ofNat 0), .int (Int32.ofNat len)]) (rest := []) rfl rfl (by show 2 * 0 + 0 ≤ _; decide) (hb hbytes d9) (⟨rfl, hA3, ba3, hne, l1, by rw [bs3]; simp, hp⟩)
  obtain ⟨rfl, B6, p6, f6⟩ := E6
  have c7 : Steps p.tables e below (s₁.setTop (entryFrame m #[.ref b, .int (Int32.ofNat o), .int (Int32.ofNat len)] 6)) (T6.setTop (mkF m 12 #[.val (.ref b), .val (.int (Int32.ofNat o)), .val (.int (Int32.ofNat len)), .val (.ref s.heap.size), .unset, .unset] [.int (Int32.ofNat len)])) := g6
  have c8 : Steps p.tables e below (s₁.setTop (entryFrame m #[.ref b, .int (Int32.ofNat o), .int (Int32.ofNat len)] 6)) (T6.setTop (mkF m 58 #[.val (.ref b), .val (.int (Int32.ofNat o)), .val (.int (Int32.ofNat len)), .val (.ref s.heap.size), .val (.int (Int32.ofNat len)), .unset] [.ref s.heap.size])) := c7.trans (by
    refine XS.istore X6.here hexec rfl (hb hbytes d12) rfl rfl ?_
    refine XS.iload X6.here hexec rfl (hb hbytes d14) rfl ?_
    refine XS.iloadN X6.here hexec rfl (hb hbytes d16) rfl ?_
    refine XS.icmpYes X6.here hexec rfl (pc0 := 17) rfl (hb hbytes d17) rfl (ii_eq_t rfl) (by decide) rfl ?_
    refine XS.aloadN X6.here hexec rfl (hb hbytes d57) rfl rfl ?_
    exact Steps.refl _)
  have X8 := X6.wide (L' := []) (cells' := 1) (slots' := len) (fun x hx hlt => by
    simp only [List.nil_append, copyLocs, List.mem_map, List.mem_range] at hx
    obtain ⟨i, -, rfl⟩ := hx
    exact absurd hlt (Nat.lt_irrefl _)) (Nat.le_refl _) (by omega)
  exact ⟨T6, some (.ref s.heap.size), _, _, _, X8, rfl, rfl, rfl, (fun h => by cases h), ⟨⟨rfl, B6, ba3.like (X3.warmed.alike.symm.trans X6.warmed.alike) p6.1 f6.1 f6.2.1 f6.2.2.1, f6.2.1.trans bv3, by rw [X6.warmed.alike.findClass, f6.1]; exact bf3, by rw [f6.2.2.1, bs3]; simp, fun j hj => by rw [f6.2.2.2 j, if_pos (by omega)]; rfl, kp3.put p6 (Nat.le_refl _)⟩, by rw [p6.2.2, bh3, hh0]; simp⟩, fun fs hl => c8.trans (X8.areturnOut hexec rfl hret rfl (hb hbytes d58) hl)⟩
end Cmp3
namespace CodL
def yN : MethodName := ⟨"java/lang/StringUTF16", "coderFromArrayLen", "([BI)B"⟩
abbrev yB : ByteArray := jdk_52_method_15_code
theorem d0 : decode yB 0 = .ok (.iload_n 1, 1) := by decide +kernel
theorem d1 : decode yB 1 = .ok (.aload_n 0, 1) := by decide +kernel
theorem d2 : decode yB 2 = .ok (.arraylength, 1) := by decide +kernel
theorem d3 : decode yB 3 = .ok (.isub, 1) := by decide +kernel
theorem d4 : decode yB 4 = .ok (.bipush 31, 2) := by decide +kernel
theorem d6 : decode yB 6 = .ok (.iushr, 1) := by decide +kernel
theorem d7 : decode yB 7 = .ok (.i2b, 1) := by decide +kernel
theorem d8 : decode yB 8 = .ok (.ireturn, 1) := by decide +kernel
def site : List Cond := []
def tab : Cond := tabOf yN yB 2 (some .byte) site
def P (d : Addr) (B : Cell) (args : Array Value) (s : State) : Prop := args = #[.ref d, .int (Int32.ofNat B.slots.size)] ∧ Arr .byte d B s
def E (r : Option Value) (s u : State) : Prop := XT.PureE (some (.int 0)) r s u
/-- an array as long as the number of chars: LATIN1 -/
theorem law (l : Launch) (d : Addr) (B : Cell) : Law l yN 2 2 0 0 yB 2 (some .byte) site (P d B) E [] 0 0 := by
  refine Law.of_walk (plainFor_of_name (by decide +kernel)) (by decide +kernel) (by decide +kernel) (by decide) (fun _ _ h => by rw [h.1]; rfl) (fun _ U U' hal hh h => ⟨h.1, h.2.mv hal hh⟩) (fun r U U' V V' h1 hal h2 h => XT.PureE.mv r U U' V V' h1 hal h2 h) ?_
  intro p e s m args below meth c s₁ X0 hexec hbytes hml hret hlk hnm hown hh0 W hP
  obtain ⟨rfl, hB⟩ := hP
  have hB0 := hB.mv X0.warmed.alike hh0
  have c1 : Steps p.tables e below (s₁.setTop (entryFrame m #[.ref d, .int (Int32.ofNat B.slots.size)] 2)) (s₁.setTop (mkF m 0 #[.val (.ref d), .val (.int (Int32.ofNat B.slots.size))] [])) := entry rfl
  have c2 : Steps p.tables e below (s₁.setTop (entryFrame m #[.ref d, .int (Int32.ofNat B.slots.size)] 2)) (s₁.setTop (mkF m 2 #[.val (.ref d), .val (.int (Int32.ofNat B.slots.size))] [.ref d, .int (Int32.ofNat B.slots.size)])) := c1.trans (by
    refine XS.iloadN X0.here hexec rfl (hb hbytes d0) rfl ?_
    refine XS.aloadN X0.here hexec rfl (hb hbytes d1) rfl rfl ?_
    exact Steps.refl _)
  have c3 : Steps p.tables e below (s₁.setTop (entryFrame m #[.ref d, .int (Int32.ofNat B.slots.size)] 2)) (s₁.setTop (mkF m 8 #[.val (.ref d), .val (.int (Int32.ofNat B.slots.size))] [.int (lo8 (ushr (Int32.ofNat B.slots.size - Int32.ofNat B.slots.size) 31))])) := c2.trans (by
    refine X0.alen hexec hB0 rfl rfl (hb hbytes d2) ?_
    refine XS.isub X0.here hexec rfl (hb hbytes d3) rfl ?_
    refine bipushV X0.here hexec rfl 31 (hb hbytes d4) (by decide) ?_
    refine iushr X0.here hexec rfl (hb hbytes d6) rfl ?_
    refine i2b X0.here hexec rfl (hb hbytes d7) rfl ?_
    exact Steps.refl _)
  have e0 : lo8 (ushr (Int32.ofNat B.slots.size - Int32.ofNat B.slots.size) 31) = 0 := by rw [Int32.sub_self]; decide
  rw [e0] at c3
  exact ⟨s₁, some (.int 0), _, _, _, X0, rfl, rfl, rfl, (fun h => by cases h), ⟨rfl, hh0⟩, fun fs hl => c3.trans (X0.ireturnOut hexec hret rfl (Or.inr (Or.inr (Or.inl rfl))) (hb hbytes d8) hl)⟩
end CodL
/-- the String at a is Latin-1 over a new byte[] (the heap's one new cell): the low bytes of the len chars of A from o on; every cell but a is kept -/
def Got (a : Addr) (D : Cell) (fV fC : Field) (A : Cell) (o len : Nat) (r : Option Value) (s u : State) : Prop := r = none ∧ ∃ D' V : Cell, Blank "java/lang/String" a D' u ∧ Same D D' [fV.slot, fC.slot] ∧ D'.slots[fV.slot]? = some (.ref s.heap.size) ∧ D'.slots[fC.slot]? = some (.int 0) ∧ Arr .byte s.heap.size V u ∧ V.vm = .none ∧ u.vm.findClass "[B" = some V.cls ∧ V.slots.size = len ∧ (∀ j, j < len → V.slots[j]? = some (.int (lo8 (cv A (o + j))))) ∧ (∀ (y : Addr) (c : Cell), y ≠ a → s.heap[y]? = some c → u.heap[y]? = some c) ∧ u.heap.size = s.heap.size + 1
theorem Got.mv {a : Addr} {D A : Cell} {fV fC : Field} {o len : Nat} : ∀ r (U U' V V' : State), U'.heap = U.heap → V.vm.Alike V'.vm → V'.heap = V.heap → Got a D fV fC A o len r U V → Got a D fV fC A o len r U' V' :=
  fun r U U' V V' h1 hal h2 ⟨e0, D', X, a1, a2, a3, a4, a5, a6, a7, a8, a9, a10, a11⟩ => ⟨e0, D', X, a1.mv hal h2, a2, by rw [h1]; exact a3, a4, by rw [h1]; exact a5.mv hal h2, a6, by rw [hal.findClass]; exact a7, a8, a9, by rw [h1, h2]; exact a10, by rw [h1, h2]; exact a11⟩
namespace New4
def yN : MethodName := ⟨"java/lang/String", "<init>", "([CIILjava/lang/Void;)V"⟩
abbrev yB : ByteArray := jdk_42_method_149_code
theorem d0 : decode yB 0 = .ok (.aload_n 0, 1) := by decide +kernel
theorem d1 : decode yB 1 = .ok (.invokespecial 1, 3) := by decide +kernel
theorem d4 : decode yB 4 = .ok (.iload_n 3, 1) := by decide +kernel
theorem d5 : decode yB 5 = .ok (.ifCond (.ne) 22, 3) := by decide +kernel
theorem d27 : decode yB 27 = .ok (.getstatic 38, 3) := by decide +kernel
theorem d30 : decode yB 30 = .ok (.ifCond (.eq) 28, 3) := by decide +kernel
theorem d33 : decode yB 33 = .ok (.aload_n 1, 1) := by decide +kernel
theorem d34 : decode yB 34 = .ok (.iload_n 2, 1) := by decide +kernel
theorem d35 : decode yB 35 = .ok (.iload_n 3, 1) := by decide +kernel
theorem d36 : decode yB 36 = .ok (.invokestatic 177, 3) := by decide +kernel
theorem d39 : decode yB 39 = .ok (.astore 5, 2) := by decide +kernel
theorem d41 : decode yB 41 = .ok (.aload_n 0, 1) := by decide +kernel
theorem d42 : decode yB 42 = .ok (.aload 5, 2) := by decide +kernel
theorem d44 : decode yB 44 = .ok (.iload_n 3, 1) := by decide +kernel
theorem d45 : decode yB 45 = .ok (.invokestatic 47, 3) := by decide +kernel
theorem d48 : decode yB 48 = .ok (.putfield 15, 3) := by decide +kernel
theorem d51 : decode yB 51 = .ok (.aload_n 0, 1) := by decide +kernel
theorem d52 : decode yB 52 = .ok (.aload 5, 2) := by decide +kernel
theorem d54 : decode yB 54 = .ok (.putfield 9, 3) := by decide +kernel
theorem d57 : decode yB 57 = .ok (.return_, 1) := by decide +kernel
def site : List Cond := [.fieldLink "java/lang/String" 38 "java/lang/String" "COMPACT_STRINGS" "Z", Cmp3.tab, CodL.tab, .laysFinal "java/lang/String" "java/lang/String" "value" "[B", .fieldLink "java/lang/String" 9 "java/lang/String" "value" "[B", .laysFinal "java/lang/String" "java/lang/String" "coder" "B", .fieldLink "java/lang/String" 15 "java/lang/String" "coder" "B"] ++ objW "java/lang/String" 1 ++ staticW "java/lang/String" 177 Cmp3.yN ++ staticW "java/lang/String" 47 CodL.yN
def tab : Cond := tabOf yN yB 6 none site
def P (a : Addr) (D : Cell) (fV fC : Field) (b : Addr) (A : Cell) (z : Int32) (o len : Nat) (args : Array Value) (s : State) : Prop := args = #[.ref a, .ref b, .int (Int32.ofNat o), .int (Int32.ofNat len), .null] ∧ Blank "java/lang/String" a D s ∧ Found "java/lang/String" "value" "[B" fV s ∧ Found "java/lang/String" "coder" "B" fC s ∧ Ch b A s ∧ StaticIs s "java/lang/String" "COMPACT_STRINGS" "Z" (.int z) ∧ ¬ z = 0 ∧ 0 < len ∧ o + len ≤ A.slots.size ∧ len ≤ 536870912 ∧ ∀ i, i < len → ¬ 255 < cv A (o + i)
def E (a : Addr) (D : Cell) (fV fC : Field) (A : Cell) (o len : Nat) (r : Option Value) (s u : State) : Prop := Got a D fV fC A o len r s u
/-- len > 0, no char of the range above 255: a Latin-1 String of their low bytes -/
theorem law (l : Launch) (a : Addr) (D : Cell) (fV fC : Field) (b : Addr) (A : Cell) (z : Int32) (o len : Nat) : Law l yN 5 4 2 35 yB 6 none site (P a D fV fC b A z o len) (E a D fV fC A o len) [⟨a, fC.slot⟩, ⟨a, fV.slot⟩] 1 len := by
  refine Law.of_walk (plainFor_of_name (by decide +kernel)) (by decide +kernel) (by decide +kernel) (by decide) (fun _ _ h => by rw [h.1]; rfl) (fun _ U U' hal hh h => ⟨h.1, h.2.1.mv hal hh, h.2.2.1.al hal, h.2.2.2.1.al hal, h.2.2.2.2.1.mv hal hh, h.2.2.2.2.2.1.there hal hh, h.2.2.2.2.2.2⟩) (fun r U U' V V' h1 hal h2 h => Got.mv r U U' V V' h1 hal h2 h) ?_
  intro p e s m args below meth c s₁ X0 hexec hbytes hml hret hlk hnm hown hh0 W hP
  obtain ⟨rfl, hB, f1, f2, hA, s1, hz, l0, l1, l2, hp⟩ := hP
  have a31 := hA.1.2.2.2
  have c1 : Steps p.tables e below (s₁.setTop (entryFrame m #[.ref a, .ref b, .int (Int32.ofNat o), .int (Int32.ofNat len), .null] 6)) (s₁.setTop (mkF m 0 #[.val (.ref a), .val (.ref b), .val (.int (Int32.ofNat o)), .val (.int (Int32.ofNat len)), .val .null, .unset] [])) := entry rfl
  have c2 : Steps p.tables e below (s₁.setTop (entryFrame m #[.ref a, .ref b, .int (Int32.ofNat o), .int (Int32.ofNat len), .null] 6)) (s₁.setTop (mkF m 1 #[.val (.ref a), .val (.ref b), .val (.int (Int32.ofNat o)), .val (.int (Int32.ofNat len)), .val .null, .unset] [.ref a])) := c1.trans (by
    refine XS.aloadN X0.here hexec rfl (hb hbytes d0) rfl rfl ?_
    exact Steps.refl _)
  obtain ⟨T3, X3, q3, st3⟩ := X0.oinit hexec hown (wks W (objW "java/lang/String" 1)) (g := (mkF m 1 #[.val (.ref a), .val (.ref b), .val (.int (Int32.ofNat o)), .val (.int (Int32.ofNat len)), .val .null, .unset] [.ref a])) rfl (by rw [hml]; rfl) (rest := []) rfl (hb hbytes d1) (W := 0) (by show 2 * 0 + 0 ≤ _; decide) (Nat.le_of_ble_eq_true rfl) (Nat.le_of_ble_eq_true rfl)
  have hh3 := q3.trans hh0
  have c4 : Steps p.tables e below (s₁.setTop (entryFrame m #[.ref a, .ref b, .int (Int32.ofNat o), .int (Int32.ofNat len), .null] 6)) (T3.setTop (mkF m 27 #[.val (.ref a), .val (.ref b), .val (.int (Int32.ofNat o)), .val (.int (Int32.ofNat len)), .val .null, .unset] [])) := (c2.trans (st3 _ (Steps.refl _))).trans (by
    refine XS.iloadN X3.here hexec rfl (hb hbytes d4) rfl ?_
    refine XS.ifYes X3.here hexec rfl (pc0 := 5) rfl (hb hbytes d5) rfl (i0_ne_t (nz32 (by omega) l0)) (by decide) rfl ?_
    exact Steps.refl _)
  obtain ⟨T5, X5, q5, st5⟩ := X3.sget hexec hown (wk W (.fieldLink "java/lang/String" 38 "java/lang/String" "COMPACT_STRINGS" "Z")) s1 (fun _ _ h => by rw [hh3]; exact h) (g := (mkF m 27 #[.val (.ref a), .val (.ref b), .val (.int (Int32.ofNat o)), .val (.int (Int32.ofNat len)), .val .null, .unset] [])) rfl (hb hbytes d27)
  have hh5 := q5.trans hh3
  have c6 : Steps p.tables e below (s₁.setTop (entryFrame m #[.ref a, .ref b, .int (Int32.ofNat o), .int (Int32.ofNat len), .null] 6)) (T5.setTop (mkF m 30 #[.val (.ref a), .val (.ref b), .val (.int (Int32.ofNat o)), .val (.int (Int32.ofNat len)), .val .null, .unset] [.int z])) := c4.trans (st5 _ (Steps.refl _))
  have c7 : Steps p.tables e below (s₁.setTop (entryFrame m #[.ref a, .ref b, .int (Int32.ofNat o), .int (Int32.ofNat len), .null] 6)) (T5.setTop (mkF m 36 #[.val (.ref a), .val (.ref b), .val (.int (Int32.ofNat o)), .val (.int (Int32.ofNat len)), .val .null, .unset] [.int (Int32.ofNat len), .int (Int32.ofNat o), .ref b])) := c6.trans (by
    refine XS.ifNo X5.here hexec rfl (hb hbytes d30) rfl (i0_eq_f hz) ?_
    refine XS.aloadN X5.here hexec rfl (hb hbytes d33) rfl rfl ?_
    refine XS.iloadN X5.here hexec rfl (hb hbytes d34) rfl ?_
    refine XS.iloadN X5.here hexec rfl (hb hbytes d35) rfl ?_
    exact Steps.refl _)
  obtain ⟨v8, T8, X8, E8, g8⟩ := X5.callS hexec (Cmp3.law l b A o len) hown (wks W (staticW "java/lang/String" 177 Cmp3.yN)) (wk W Cmp3.tab) (W := 0) (Nat.le_of_ble_eq_true rfl) (Nat.le_of_ble_eq_true rfl) (Nat.le_refl _) (by show 0 + len ≤ len; omega) (g := (mkF m 36 #[.val (.ref a), .val (.ref b), .val (.int (Int32.ofNat o)), .val (.int (Int32.ofNat len)), .val .null, .unset] [.int (Int32.ofNat len), .int (Int32.ofNat o), .ref b])) rfl (by rw [hml]; rfl) c7 (argsL := [.ref b, .int (Int32.ofNat o), .int (Int32.ofNat len)]) (rest := []) rfl rfl (by show 2 * 0 + 0 ≤ _; decide) (hb hbytes d36) (⟨rfl, hA.mv X5.warmed.alike hh5, l1, l2, hp⟩)
  obtain ⟨e8, z8⟩ := E8
  obtain ⟨rfl, N, n1, n2, n3, n4, n5, n6⟩ := NewArr.mv _ T5 s _ _ hh5.symm (Vm.Alike.refl _) rfl e8
  rw [hh5] at z8
  have hB1 := hB.keep X8.warmed.alike (n6 _ _ hB.1)
  have hne : s.heap.size ≠ a := (Nat.ne_of_lt (Array.getElem?_eq_some_iff.mp hB.1).1).symm
  have c9 : Steps p.tables e below (s₁.setTop (entryFrame m #[.ref a, .ref b, .int (Int32.ofNat o), .int (Int32.ofNat len), .null] 6)) (T8.setTop (mkF m 39 #[.val (.ref a), .val (.ref b), .val (.int (Int32.ofNat o)), .val (.int (Int32.ofNat len)), .val .null, .unset] [.ref s.heap.size])) := g8
  have c10 : Steps p.tables e below (s₁.setTop (entryFrame m #[.ref a, .ref b, .int (Int32.ofNat o), .int (Int32.ofNat len), .null] 6)) (T8.setTop (mkF m 45 #[.val (.ref a), .val (.ref b), .val (.int (Int32.ofNat o)), .val (.int (Int32.ofNat len)), .val .null, .val (.ref s.heap.size)] [.int (Int32.ofNat N.slots.size), .ref s.heap.size, .ref a])) := by
    have hc : Steps p.tables e below (s₁.setTop (entryFrame m #[.ref a, .ref b, .int (Int32.ofNat o), .int (Int32.ofNat len), .null] 6)) (T8.setTop (mkF m 45 #[.val (.ref a), .val (.ref b), .val (.int (Int32.ofNat o)), .val (.int (Int32.ofNat len)), .val .null, .val (.ref s.heap.size)] [.int (Int32.ofNat len), .ref s.heap.size, .ref a])) := c9.trans (by
      refine XS.astore X8.here hexec rfl (hb hbytes d39) rfl rfl rfl ?_
      refine XS.aloadN X8.here hexec rfl (hb hbytes d41) rfl rfl ?_
      refine XS.aload X8.here hexec rfl (hb hbytes d42) rfl rfl ?_
      refine XS.iloadN X8.here hexec rfl (hb hbytes d44) rfl ?_
      exact Steps.refl _)
    rw [n4]; exact hc
  obtain ⟨v11, T11, X11, E11, g11⟩ := X8.callS hexec (CodL.law l s.heap.size N) hown (wks W (staticW "java/lang/String" 47 CodL.yN)) (wk W CodL.tab) (W := 1) (Nat.le_of_ble_eq_true rfl) (Nat.le_of_ble_eq_true rfl) (Nat.le_refl _) (by show 0 + len + 0 ≤ len; omega) (g := (mkF m 45 #[.val (.ref a), .val (.ref b), .val (.int (Int32.ofNat o)), .val (.int (Int32.ofNat len)), .val .null, .val (.ref s.heap.size)] [.int (Int32.ofNat N.slots.size), .ref s.heap.size, .ref a])) rfl (by rw [hml]; rfl) c10 (argsL := [.ref s.heap.size, .int (Int32.ofNat N.slots.size)]) (rest := [.ref a]) rfl rfl (by show 2 * 0 + (1 + 0) ≤ _; decide) (hb hbytes d45) (⟨rfl, n1⟩)
  obtain ⟨rfl, q11⟩ := E11
  have hB11 := hB1.mv (X8.warmed.alike.symm.trans X11.warmed.alike) q11
  have c12 : Steps p.tables e below (s₁.setTop (entryFrame m #[.ref a, .ref b, .int (Int32.ofNat o), .int (Int32.ofNat len), .null] 6)) (T11.setTop (mkF m 48 #[.val (.ref a), .val (.ref b), .val (.int (Int32.ofNat o)), .val (.int (Int32.ofNat len)), .val .null, .val (.ref s.heap.size)] [.int 0, .ref a])) := g11
  obtain ⟨T13, X13, p13, bl13, sl13, st13⟩ := X11.finit hexec hown (wk W (.fieldLink "java/lang/String" 15 "java/lang/String" "coder" "B")) (Or.inr ⟨_, (wk W (.laysFinal "java/lang/String" "java/lang/String" "coder" "B"))⟩) (Or.inl ⟨rfl, hnm⟩) f2 (Or.inl rfl) hB11 (t := .byte) (by decide +kernel) rfl (g := (mkF m 48 #[.val (.ref a), .val (.ref b), .val (.int (Int32.ofNat o)), .val (.int (Int32.ofNat len)), .val .null, .val (.ref s.heap.size)] [.int 0, .ref a])) rfl (rest := []) rfl (hb hbytes d48)
  have c14 : Steps p.tables e below (s₁.setTop (entryFrame m #[.ref a, .ref b, .int (Int32.ofNat o), .int (Int32.ofNat len), .null] 6)) (T13.setTop (mkF m 54 #[.val (.ref a), .val (.ref b), .val (.int (Int32.ofNat o)), .val (.int (Int32.ofNat len)), .val .null, .val (.ref s.heap.size)] [.ref s.heap.size, .ref a])) := (c12.trans (st13 _ (Steps.refl _))).trans (by
    refine XS.aloadN X13.here hexec rfl (hb hbytes d51) rfl rfl ?_
    refine XS.aload X13.here hexec rfl (hb hbytes d52) rfl rfl ?_
    exact Steps.refl _)
  obtain ⟨T15, X15, p15, bl15, sl15, st15⟩ := X13.finit hexec hown (wk W (.fieldLink "java/lang/String" 9 "java/lang/String" "value" "[B")) (Or.inr ⟨_, (wk W (.laysFinal "java/lang/String" "java/lang/String" "value" "[B"))⟩) (Or.inl ⟨rfl, hnm⟩) f1 (Or.inl rfl) bl13 (t := (.array .byte)) (by decide +kernel) rfl (g := (mkF m 54 #[.val (.ref a), .val (.ref b), .val (.int (Int32.ofNat o)), .val (.int (Int32.ofNat len)), .val .null, .val (.ref s.heap.size)] [.ref s.heap.size, .ref a])) rfl (rest := []) rfl (hb hbytes d54)
  have c16 : Steps p.tables e below (s₁.setTop (entryFrame m #[.ref a, .ref b, .int (Int32.ofNat o), .int (Int32.ofNat len), .null] 6)) (T15.setTop (mkF m 57 #[.val (.ref a), .val (.ref b), .val (.int (Int32.ofNat o)), .val (.int (Int32.ofNat len)), .val .null, .val (.ref s.heap.size)] [])) := c14.trans (st15 _ (Steps.refl _))
  have ap := apart (Or.inr ⟨_, (wk W (.laysFinal "java/lang/String" "java/lang/String" "value" "[B"))⟩) (Or.inr ⟨_, (wk W (.laysFinal "java/lang/String" "java/lang/String" "coder" "B"))⟩) f1 f2 (t₁ := .array .byte) (t₂ := .byte) (by decide +kernel) (by decide +kernel) (by decide)
  have al := X8.warmed.alike.symm.trans X15.warmed.alike
  have n7 : T11.heap[s.heap.size]? = some N := by rw [q11]; exact n1.1
  exact ⟨T15, none, _, _, _, X15, by simp, rfl, by omega, (fun _ => rfl), ⟨rfl, _, N, bl15, ((Same.refl D _).set _ (by simp)).set _ (by simp), sl15, (Cell.slots_setSlot_ne _ ap).trans sl13, n1.keep al (p15.other hne (p13.other hne n7)), n2, by rw [al.findClass]; exact n3, n4, n5, fun y c h1 h2 => p15.other h1 (p13.other h1 (by rw [q11]; exact n6 y c h2)), by rw [p15.2.2, p13.2.2, q11]; exact z8⟩, fun fs hl => c16.trans (X15.returnOut hexec hret (hb hbytes d57) hl)⟩
end New4
namespace New1
def yN : MethodName := ⟨"java/lang/String", "<init>", "([C)V"⟩
abbrev yB : ByteArray := jdk_42_method_3_code
theorem d0 : decode yB 0 = .ok (.aload_n 0, 1) := by decide +kernel
theorem d1 : decode yB 1 = .ok (.aload_n 1, 1) := by decide +kernel
theorem d2 : decode yB 2 = .ok (.iconst 0, 1) := by decide +kernel
theorem d3 : decode yB 3 = .ok (.aload_n 1, 1) := by decide +kernel
theorem d4 : decode yB 4 = .ok (.arraylength, 1) := by decide +kernel
theorem d5 : decode yB 5 = .ok (.aconst_null, 1) := by decide +kernel
theorem d6 : decode yB 6 = .ok (.invokespecial 27, 3) := by decide +kernel
theorem d9 : decode yB 9 = .ok (.return_, 1) := by decide +kernel
def site : List Cond := [New4.tab] ++ initW "java/lang/String" 27 New4.yN
def tab : Cond := tabOf yN yB 2 none site
def P (a : Addr) (D : Cell) (fV fC : Field) (b : Addr) (A : Cell) (z : Int32) (args : Array Value) (s : State) : Prop := args = #[.ref a, .ref b] ∧ Blank "java/lang/String" a D s ∧ Found "java/lang/String" "value" "[B" fV s ∧ Found "java/lang/String" "coder" "B" fC s ∧ Ch b A s ∧ StaticIs s "java/lang/String" "COMPACT_STRINGS" "Z" (.int z) ∧ ¬ z = 0 ∧ 0 < A.slots.size ∧ A.slots.size ≤ 536870912 ∧ ∀ i, i < A.slots.size → ¬ 255 < cv A i
def E (a : Addr) (D : Cell) (fV fC : Field) (A : Cell) (r : Option Value) (s u : State) : Prop := Got a D fV fC A 0 A.slots.size r s u
/-- new String(chars), not empty, no char above 255: a Latin-1 String of their low bytes -/
theorem law (l : Launch) (a : Addr) (D : Cell) (fV fC : Field) (b : Addr) (A : Cell) (z : Int32) : Law l yN 2 1 3 52 yB 2 none site (P a D fV fC b A z) (E a D fV fC A) [⟨a, fC.slot⟩, ⟨a, fV.slot⟩] 1 A.slots.size := by
  refine Law.of_walk (plainFor_of_name (by decide +kernel)) (by decide +kernel) (by decide +kernel) (by decide) (fun _ _ h => by rw [h.1]; rfl) (fun _ U U' hal hh h => ⟨h.1, h.2.1.mv hal hh, h.2.2.1.al hal, h.2.2.2.1.al hal, h.2.2.2.2.1.mv hal hh, h.2.2.2.2.2.1.there hal hh, h.2.2.2.2.2.2⟩) (fun r U U' V V' h1 hal h2 h => Got.mv r U U' V V' h1 hal h2 h) ?_
  intro p e s m args below meth c s₁ X0 hexec hbytes hml hret hlk hnm hown hh0 W hP
  obtain ⟨rfl, hB, f1, f2, hA, s1, hz, l0, l2, hp⟩ := hP
  have c1 : Steps p.tables e below (s₁.setTop (entryFrame m #[.ref a, .ref b] 2)) (s₁.setTop (mkF m 0 #[.val (.ref a), .val (.ref b)] [])) := entry rfl
  have c2 : Steps p.tables e below (s₁.setTop (entryFrame m #[.ref a, .ref b] 2)) (s₁.setTop (mkF m 6 #[.val (.ref a), .val (.ref b)] [.null, .int (Int32.ofNat A.slots.size), .int 0, .ref b, .ref a])) := c1.trans (by
    refine XS.aloadN X0.here hexec rfl (hb hbytes d0) rfl rfl ?_
    refine XS.aloadN X0.here hexec rfl (hb hbytes d1) rfl rfl ?_
    refine iconstV X0.here hexec rfl 0 (hb hbytes d2) (by decide) ?_
    refine XS.aloadN X0.here hexec rfl (hb hbytes d3) rfl rfl ?_
    refine X0.alen hexec (hA.1.mv X0.warmed.alike hh0) rfl rfl (hb hbytes d4) ?_
    refine XS.aconstNull X0.here hexec rfl (hb hbytes d5) ?_
    exact Steps.refl _)
  obtain ⟨v3, T3, X3, E3, g3⟩ := X0.callN hexec (New4.law l a D fV fC b A z 0 A.slots.size) rfl hown (wks W (initW "java/lang/String" 27 New4.yN)) (W New4.tab (by simp only [site, List.mem_cons, List.mem_append, true_or, or_true])) (W := 0) (Nat.le_of_ble_eq_true rfl) (Nat.le_of_ble_eq_true rfl) (Nat.le_refl _) (by show 0 + A.slots.size ≤ A.slots.size; omega) (g := (mkF m 6 #[.val (.ref a), .val (.ref b)] [.null, .int (Int32.ofNat A.slots.size), .int (Int32.ofNat 0), .ref b, .ref a])) rfl (by rw [hml]; rfl) c2 (argsL := [.ref b, .int (Int32.ofNat 0), .int (Int32.ofNat A.slots.size), .null]) (rest := []) rfl rfl (by show 2 * 0 + 0 ≤ _; decide) (hb hbytes d6) (⟨rfl, hB.mv X0.warmed.alike hh0, f1.al X0.warmed.alike, f2.al X0.warmed.alike, hA.mv X0.warmed.alike hh0, s1.there X0.warmed.alike hh0, hz, l0, by omega, l2, fun i hi => by rw [Nat.zero_add]; exact hp i hi⟩)
  have e0 := Got.mv _ s₁ s _ _ hh0.symm (Vm.Alike.refl _) rfl E3
  obtain rfl := e0.1
  have c4 : Steps p.tables e below (s₁.setTop (entryFrame m #[.ref a, .ref b] 2)) (T3.setTop (mkF m 9 #[.val (.ref a), .val (.ref b)] [])) := g3
  exact ⟨T3, none, _, _, _, X3, by simp, rfl, by omega, (fun _ => rfl), e0, fun fs hl => c4.trans (X3.returnOut hexec hret (hb hbytes d9) hl)⟩
theorem pays {l : Launch} {R : Room} {p : Program} {e : Env} {below : List Frame} {s : State} {sargs : Array Value} {len W : Nat} (a : Addr) (D : Cell) (fV fC : Field) (b : Addr) (A : Cell) (z : Int32) (htab : tab.before sargs s = true) (hfr : 4 ≤ R.frames) (hlo : W + 65 ≤ R.locals) :
    Back l R p e below s sargs yN len W (fun A₁ a₁ => A₁.cells + 1 ≤ R.cells ∧ A₁.slots + A.slots.size ≤ R.slots ∧ P a D fV fC b A z a₁ A₁.U) (fun A₁ _ v₁ B₁ => E a D fV fC A v₁ A₁.U B₁.U ∧ B₁.locs = A₁.locs ++ [⟨a, fC.slot⟩, ⟨a, fV.slot⟩] ∧ B₁.cells = A₁.cells + 1 ∧ B₁.slots = A₁.slots + A.slots.size) :=
  (law l a D fV fC b A z).pays htab hfr (by omega)
end New1
end StrChars
namespace StrChars.Road
open Jvm Sem ClassFile Op Lib Jvm.Stand Jvm.Free Jvm.Free.XT
open Jvm.Lib.Cold (StaticIs)
abbrev ST : String := "java/lang/String"
/-- every table word that New1's law asks, flat -/
abbrev words : List Jvm.Cond := [.code New1.yN New1.yB 2 none, .initialized ST, .methodLink ST 27 New4.yN, .instanceMethod New4.yN,
  .code New4.yN New4.yB 6 none, .fieldLink ST 38 ST "COMPACT_STRINGS" "Z", .laysFinal ST ST "value" "[B", .fieldLink ST 9 ST "value" "[B", .laysFinal ST ST "coder" "B", .fieldLink ST 15 ST "coder" "B",
  .methodLink ST 1 Lib.objectInit, .instanceMethod Lib.objectInit, .code Lib.objectInit ⟨#[0xb1]⟩ 1 none, .methodLink ST 177 Cmp3.yN, .static Cmp3.yN, .methodLink ST 47 CodL.yN, .static CodL.yN,
  .code Cmp3.yN Cmp3.yB 6 (some (.array .byte)), .initialized U16, .arrayClass .byte, .methodLink U16 115 Cmp5.yN, .static Cmp5.yN, .code Cmp5.yN Cmp5.yB 7 (some .int), .code CodL.yN CodL.yB 2 (some .byte)]
theorem tab_of {a : Array Value} {s : State} (h : ∀ w ∈ words, w.before a s = true) : New1.tab.before a s = true := by
  have h5 : Cmp5.tab.before a s = true := unparts (wk h (.code Cmp5.yN Cmp5.yB 7 (some .int))) (wks h (.initialized Cmp5.yN.cls :: Cmp5.site))
  have hc : CodL.tab.before a s = true := unparts (wk h (.code CodL.yN CodL.yB 2 (some .byte))) (wks h (.initialized CodL.yN.cls :: CodL.site))
  have q5 : ∀ w ∈ Cmp5.tab :: words, w.before a s = true := fun w hw => (List.mem_cons.mp hw).elim (fun e => e ▸ h5) (h w)
  have h3 : Cmp3.tab.before a s = true := unparts (wk q5 (.code Cmp3.yN Cmp3.yB 6 (some (.array .byte)))) (wks q5 (.initialized Cmp3.yN.cls :: Cmp3.site))
  have q3 : ∀ w ∈ Cmp3.tab :: CodL.tab :: words, w.before a s = true := fun w hw => (List.mem_cons.mp hw).elim (fun e => e ▸ h3) fun hw => (List.mem_cons.mp hw).elim (fun e => e ▸ hc) (h w)
  have h4 : New4.tab.before a s = true := unparts (wk q3 (.code New4.yN New4.yB 6 none)) (wks q3 (.initialized New4.yN.cls :: New4.site))
  have q4 : ∀ w ∈ New4.tab :: words, w.before a s = true := fun w hw => (List.mem_cons.mp hw).elim (fun e => e ▸ h4) (h w)
  exact unparts (wk q4 (.code New1.yN New1.yB 2 none)) (wks q4 (.initialized New1.yN.cls :: New1.site))
/-- the words ride from the start Z to the walk's own state -/
theorem moved {Z s : State} {a0 args : Array Value} (hZ : Z.Warmed39 s.vm) (hw : ∀ d ∈ words, d.before a0 Z = true) : ∀ d ∈ words, d.before args s = true := fun d hd => by
  have q := hw d hd
  have t : ∀ d ∈ words, d = .arrayClass .byte ∨ (d.onTables && d.keepsFace) = true := by decide +kernel
  rcases t d hd with rfl | t
  · exact RoadKit.mvA hZ q
  · exact RoadKit.mv hZ q t
/-- WHAT COMES BACK, over the tables of the start Z: h the heap at the call, h' behind it -/
def Q (Z : State) (x : Addr) (A : Cell) (h : Heap) (v : Option Value) (h' : Heap) (L : List Loc) : Prop := v = none ∧ (∀ y ∈ L, y.base = x) ∧ RoadKit.Keep h h' [x] ∧ h'.size = h.size + 1 ∧ RoadKit.Exa Z h' x ST ∧ RoadKit.Fld Z h' x ST "value" "[B" (.ref h.size) ∧ RoadKit.Fld Z h' x ST "coder" "B" (.int 0) ∧
  (∃ V : Cell, RoadKit.Arr Z h' h.size V .byte ∧ V.vm = .none ∧ Z.vm.findClass "[B" = some V.cls ∧ V.slots.size = A.slots.size ∧ ∀ j, j < A.slots.size → V.slots[j]? = some (.int (lo8 (cv A j)))) ∧
  ∀ (O n d : String) (w : Value), RoadKit.Fld Z h x O n d w → RoadKit.slotOf Z O n d ≠ RoadKit.slotOf Z ST "value" "[B" → RoadKit.slotOf Z O n d ≠ RoadKit.slotOf Z ST "coder" "B" → RoadKit.Fld Z h' x O n d w
/-- **new String(chars) AT A CALL, IN THE ROAD'S FORM**: for specialBack behind newO: x the fresh String, b the char[] with the cell A -/
theorem back {p : Program} {l : Launch} {e : Env} {R : Room} {s : State} {args : Array Value} {below : List Frame} {len W : Nat} {Z : State} {a0 : Array Value} {h : Heap} (hZ : Z.Warmed39 s.vm) (hw : ∀ d ∈ words, d.before a0 Z = true) {kI : Nat} (wi : (Jvm.Cond.instantiable ST kI).before a0 Z = true)
    {x b : Addr} {A : Cell} {z : Int32} {v0 c0 : Value} (E : RoadKit.Exa Z h x ST) (V : RoadKit.Fld Z h x ST "value" "[B" v0) (C : RoadKit.Fld Z h x ST "coder" "B" c0) (K : RoadKit.Arr Z h b A .char) (hty : Typed .char A) (S : RoadKit.Sta Z h ST "COMPACT_STRINGS" "Z" (.int z)) (hz : ¬ z = 0)
    (l0 : 0 < A.slots.size) (l2 : A.slots.size ≤ 536870912) (hp : ∀ i, i < A.slots.size → ¬ 255 < cv A i) (hfr : 4 ≤ R.frames) (hlo : W + 65 ≤ R.locals) :
    Back l R p e below s args New1.yN len W (fun P a => a = #[.ref x, .ref b] ∧ P.U.heap = h ∧ P.cells + 1 ≤ R.cells ∧ P.slots + A.slots.size ≤ R.slots)
      (fun P _ v B => ∃ L, Q Z x A h v B.U.heap L ∧ B.locs = P.locs ++ L ∧ B.cells = P.cells + 1 ∧ B.slots = P.slots + A.slots.size) := by
  intro m meth c P g ig mk a X hg hsize hdg hW hn hp'
  obtain ⟨rfl, rfl, r1, r2⟩ := hp'
  have al : Z.vm.Alike P.U.vm := hZ.alike.trans X.warmed.alike
  obtain ⟨D, cfV, kV, iV, fV, hD, gV, stV, knV, obV, asV, slV⟩ := id V
  obtain ⟨D', cfC, kC, iC, fC, hD', gC, stC, -, -, asC, slC⟩ := id C
  cases hD.symm.trans hD'
  obtain ⟨D2, kD, e1, e2, e3, e4, e5⟩ := id E
  cases hD.symm.trans e1
  obtain ⟨c2, k2, i1, i2, i3, -⟩ := Cond.instantiable_spec wi
  cases e2.symm.trans i1
  cases e3.symm.trans i2
  obtain ⟨kU, u1, u2⟩ := al.2.2 _ _ e3
  have hB : Blank ST x D P.U := ⟨hD, ⟨knV, fun q hq => by rw [hq] at obV; cases obV⟩, by rw [al.findClass]; exact e2, kU, u1, by rw [u2]; exact i3, by rw [u2]; exact e5 i3⟩
  have F1 : Found ST "value" "[B" fV P.U := ⟨SBG.found_only al ⟨cfV, kV, iV, gV⟩, stV⟩
  have F2 : Found ST "coder" "B" fC P.U := ⟨SBG.found_only al ⟨cfC, kC, iC, gC⟩, stC⟩
  have hA : Ch b A P.U := ⟨⟨K.1, State.isArrayOf_alike al K.2.1, K.2.2, by omega⟩, hty⟩
  have hS : StaticIs P.U ST "COMPACT_STRINGS" "Z" (.int z) := by
    obtain ⟨cfS, iS, kS, fS, st, cS, t1, t2, t3, t4, t5, t6, t7⟩ := S
    exact StaticIs.there (s := { Z with heap := P.U.heap }) ⟨cfS, iS, kS, fS, st, cS, t1, t2, t3, t4, t5, (fun q => by rw [q] at t6; cases t6), t7⟩ al rfl
  obtain ⟨v, B, X', ⟨⟨hv, E', V', q1, q2, q3, q4, q5, q6, q7, q8, q9, q10, q11⟩, hl, hc, hs⟩, st⟩ := New1.pays x D fV fC b A z (tab_of (moved hZ hw)) hfr hlo m meth c P g ig mk _ X hg hsize hdg hW hn ⟨r1, r2, rfl, hB, F1, F2, hA, hS, hz, l0, l2, hp⟩
  have al' : Z.vm.Alike B.U.vm := hZ.alike.trans X'.warmed.alike
  have hsz : E'.slots.size = D.slots.size := by
    obtain ⟨-, -, -, kB, w1, w2, w3⟩ := q1
    obtain ⟨kB', y1, y2⟩ := al'.2.2 _ _ e3
    rw [q2.2.1] at w1
    cases w1.symm.trans y1
    rw [w3, e5 i3, y2]
  refine ⟨v, B, X', ⟨_, ⟨hv, ?_, ⟨by omega, fun y cy hy hn' => q10 y cy (by simpa using hn') hy, fun y cy hy => ?_⟩, q11, ⟨E', _, q1.1, by rw [q2.2.1]; exact e2, by rw [q2.2.1]; exact e3, by rw [q2.1]; exact obV, fun _ => by rw [hsz]; exact e5 i3⟩,
    ⟨E', cfV, kV, iV, fV, q1.1, gV, stV, by rw [q2.1]; exact knV, by rw [q2.1]; exact obV, by rw [q2.2.1]; exact asV, q3⟩, ⟨E', cfC, kC, iC, fC, q1.1, gC, stC, by rw [q2.1]; exact knV, by rw [q2.1]; exact obV, by rw [q2.2.1]; exact asC, q4⟩,
    ⟨V', ⟨q5.1, State.isArrayOf_alike al'.symm q5.2.1, q5.2.2.1⟩, q6, by rw [← al'.findClass]; exact q7, q8, fun j hj => by have := q9 j hj; rwa [Nat.zero_add] at this⟩, fun O n d w F n1 n2 => ?_⟩, hl, hc, hs⟩, st⟩
  · intro y hy
    simp only [List.mem_cons, List.not_mem_nil, or_false] at hy
    rcases hy with rfl | rfl <;> rfl
  · by_cases q : y = x
    · subst q
      cases hD.symm.trans hy
      exact ⟨E', q1.1, q2.2.1, q2.1, hsz⟩
    · exact ⟨cy, q10 y cy q hy, rfl, rfl, rfl⟩
  · obtain ⟨D3, cf, k, i, f, g1, g2, g3, g4, g5, g6, g7⟩ := F
    cases hD.symm.trans g1
    simp only [RoadKit.slotOf, g2, gV, gC, Option.map_some, Option.getD_some] at n1 n2
    exact ⟨E', cf, k, i, f, q1.1, g2, g3, by rw [q2.1]; exact g4, by rw [q2.1]; exact g5, by rw [q2.2.1]; exact g6, by rw [q2.2.2 f.slot (by simp [n1, n2])]; exact g7⟩
end StrChars.Road
namespace StrChars.Road
open Jvm Sem ClassFile Op Lib Jvm.Stand Jvm.Free Jvm.Free.XT
/-- WHAT COMES BACK, the byte[] as a list of values -/
def QA (Z : State) (x : Addr) (zn : Int32) (cs : List Int32) (h : Heap) (v : Option Value) (h' : Heap) (L : List Loc) : Prop := v = none ∧ (∀ y ∈ L, y.base = x) ∧ RoadKit.Keep h h' [x] ∧ h'.size = h.size + 1 ∧ RoadKit.Exa Z h' x ST ∧ RoadKit.Fld Z h' x ST "value" "[B" (.ref h.size) ∧ RoadKit.Fld Z h' x ST "coder" "B" (.int 0) ∧
  (∃ kb, Z.vm.findClass "[B" = some kb ∧ RoadKit.Arv Z h' h.size kb .byte zn (cs.map fun c => .int (lo8 c)) (.int 0)) ∧
  ∀ (O n d : String) (w : Value), RoadKit.Fld Z h x O n d w → RoadKit.slotOf Z O n d ≠ RoadKit.slotOf Z ST "value" "[B" → RoadKit.slotOf Z O n d ≠ RoadKit.slotOf Z ST "coder" "B" → RoadKit.Fld Z h' x O n d w
/-- **new String(chars) AT A CALL, THE ARRAYS AS LISTS**: the char[] at b holds cs, not empty, no char above 255 -/
theorem backArv {p : Program} {l : Launch} {e : Env} {R : Room} {s : State} {args : Array Value} {below : List Frame} {len W : Nat} {Z : State} {a0 : Array Value} {h : Heap} (hZ : Z.Warmed39 s.vm) (hw : ∀ d ∈ words, d.before a0 Z = true) {kI : Nat} (wi : (Jvm.Cond.instantiable ST kI).before a0 Z = true)
    {x b : Addr} {k : ClassId} {zn z : Int32} {cs : List Int32} {dv v0 c0 : Value} (E : RoadKit.Exa Z h x ST) (V : RoadKit.Fld Z h x ST "value" "[B" v0) (C : RoadKit.Fld Z h x ST "coder" "B" c0) (K : RoadKit.Arv Z h b k .char zn (cs.map Value.int) dv) (S : RoadKit.Sta Z h ST "COMPACT_STRINGS" "Z" (.int z)) (hz : ¬ z = 0)
    (hlen : zn.toNatClampNeg = cs.length) (h0 : 0 < cs.length) (hbig : cs.length ≤ 536870912) (hall : ∀ c ∈ cs, ¬ 255 < c) (hfr : 4 ≤ R.frames) (hlo : W + 65 ≤ R.locals) :
    Back l R p e below s args New1.yN len W (fun P a => a = #[.ref x, .ref b] ∧ P.U.heap = h ∧ P.cells + 1 ≤ R.cells ∧ P.slots + cs.length ≤ R.slots)
      (fun P _ v B => ∃ L, QA Z x zn cs h v B.U.heap L ∧ B.locs = P.locs ++ L ∧ B.cells = P.cells + 1 ∧ B.slots = P.slots + cs.length) := by
  obtain ⟨A, K1, K2, K3, K4, K5, K6⟩ := K
  have e : A.slots.size = cs.length := K3.trans hlen
  have hat : ∀ (i : Nat) (hi : i < cs.length), A.slots[i]? = some (.int cs[i]) := fun i hi => by rw [K5 i (by omega)]; simp [List.getD_eq_getElem?_getD, hi]
  have hcv : ∀ (i : Nat) (hi : i < cs.length), cv A i = cs[i] := fun i hi => by unfold cv; rw [hat i hi]
  have hty : Typed .char A := fun i v hv => by
    have hi : i < A.slots.size := (Array.getElem?_eq_some_iff.mp hv).1
    have q := K5 i hi
    rw [hv] at q
    rw [Option.some.inj q]
    exact K6 i hi
  refine Back.mono (back hZ hw wi E V C K1 hty S hz (by omega) (by omega) (fun i hi => by rw [hcv i (by omega)]; exact hall _ (List.getElem_mem _)) hfr hlo) (fun P a hp => ⟨hp.1, hp.2.1, hp.2.2.1, by rw [e]; exact hp.2.2.2⟩) (fun P a v B hp hq => ?_)
  obtain ⟨L, ⟨q1, q2, q3, q4, q5, q6, q7, ⟨V', v1, v2, v3, v4, v5⟩, q9⟩, hl, hc, hs⟩ := hq
  refine ⟨L, ⟨q1, q2, q3, q4, q5, q6, q7, ⟨V'.cls, v3, V', v1, rfl, by rw [v4, e, hlen], K4, fun i hi => ?_, fun i hi => ?_⟩, q9⟩, hl, hc, by rw [hs, e]⟩
  · have hi' : i < cs.length := by omega
    rw [v5 i (by omega), hcv i hi']; simp [List.getD_eq_getElem?_getD, hi']
  · have hi' : i < cs.length := by omega
    simp only [List.getD_eq_getElem?_getD, List.getElem?_map, List.getElem?_eq_getElem hi', Option.map_some, Option.getD_some]
    exact fits_lo8 _
end StrChars.Road
namespace StrChars.Road
open Jvm Sem ClassFile Op Lib Jvm.Stand Jvm.Free Jvm.Free.XT
/-- WHAT COMES BACK, in the writer's own shape -/
def QV (Z : State) (x : Addr) (N : Int32) (bs : List Int32) (h : Heap) (n0 : Nat) (v : Option Value) (h' : Heap) (L : List Loc) : Prop := v = none ∧ RoadKit.Fr n0 L ∧ RoadKit.Keep h h' [x] ∧ RoadKit.Exa Z h' x ST ∧ RoadKit.Fld Z h' x ST "coder" "B" (.int 0) ∧
  ∃ (t : Addr) (kb : ClassId), n0 ≤ t ∧ h.size ≤ t ∧ ¬ t = x ∧ RoadKit.Fld Z h' x ST "value" "[B" (.ref t) ∧ RoadKit.Arv Z h' t kb .byte N (bs.map Value.int) (.int 0)
/-- **new String(chars) AT A CALL, FOR THE WRITER**: a char[] of n known ints, each 0 to 255 -/
theorem backV {p : Program} {l : Launch} {e : Env} {R : Room} {s : State} {args : Array Value} {below : List Frame} {len W : Nat} {Z : State} {a0 : Array Value} {h : Heap} (hZ : Z.Warmed39 s.vm) (hw : ∀ d ∈ words, d.before a0 Z = true) {kI : Nat} (wi : (Jvm.Cond.instantiable ST kI).before a0 Z = true)
    {x b : Addr} {kC : ClassId} {cs bs : List Int32} {d v0 c0 : Value} {z N : Int32} {n n0 : Nat} (hx0 : n0 ≤ x) (hh0 : n0 ≤ h.size) (E : RoadKit.Exa Z h x ST) (V : RoadKit.Fld Z h x ST "value" "[B" v0) (C : RoadKit.Fld Z h x ST "coder" "B" c0) (K : RoadKit.Arv Z h b kC .char N (cs.map Value.int) d) (S : RoadKit.Sta Z h ST "COMPACT_STRINGS" "Z" (.int z)) (hz : ¬ z = 0)
    (hn : cs.length = n) (hN : N = Int32.ofNat n) (l0 : 0 < n) (l2 : n ≤ 4000) (hp : ∀ c ∈ cs, ¬ c < 0 ∧ ¬ (255 : Int32) < c) (hb : bs = cs.map (fun c => c.toInt8.toInt32)) (hfr : 4 ≤ R.frames) (hlo : W + 65 ≤ R.locals) :
    Back l R p e below s args (⟨"java/lang/String", "<init>", "([C)V"⟩ : MethodName) len W (fun P a => a = #[.ref x, .ref b] ∧ P.U.heap = h ∧ P.cells + 1 ≤ R.cells ∧ P.slots + n ≤ R.slots)
      (fun P _ v B => ∃ L, QV Z x N bs h n0 v B.U.heap L ∧ B.locs = P.locs ++ L ∧ B.cells = P.cells + 1 ∧ B.slots = P.slots + n) := by
  subst hn hN hb
  refine Back.mono (backArv hZ hw wi E V C K S hz (n32 (by omega)) l0 (by omega) (fun c hc => (hp c hc).2) hfr hlo) (fun P a hp => hp) (fun P a v B hp hq => ?_)
  obtain ⟨L, ⟨q1, q2, q3, q4, q5, q6, q7, ⟨kb, v1, v2⟩, q9⟩, hl, hc, hs⟩ := hq
  exact ⟨L, ⟨q1, fun y hy => by rw [q2 y hy]; exact hx0, q3, q5, q7, h.size, kb, hh0, Nat.le_refl _, Nat.ne_of_gt E.lt, q6, by rw [List.map_map]; exact v2⟩, hl, hc, hs⟩
end StrChars.Road
end Jvm.Pilot.@@N@@

namespace Jvm.Pilot.@@N@@
open Jvm Jvm.ClassFile Sem Op Lib Jvm.Free Jvm.Stand Jvm.LawKit Jvm.RoadKit Bundle Jvm.OwnKit
section StrKit
variable {p : Program} {l : Launch} {e : Env} {R : Room} {s : State} {m : MethodId} {args : Array Value} {below : List Frame} {meth : Method} {c : Code} {Z : State} {a0 : Array Value} {EL : List (String × Nat)} {cw : Prop} {own : String} {n0 : Nat} {bytes : ByteArray} {maxL : Nat} {ret : Option FieldType} {nm : String} {T : State} {h : Heap} {C S : Nat} {sf : List Addr} {P : State → Outcome → Prop}
theorem G.newStr (H : Hs p l e R s m args below meth c Z a0 EL cw own n0 bytes maxL ret nm T h C S sf) (hws : ∀ d ∈ StrChars.Road.words, d.before a0 Z = true) {kI : Nat} (wi : (Jvm.Cond.instantiable "java/lang/String" kI).before a0 Z = true) {index : Nat} (w1 : (Jvm.Cond.methodLink own index (⟨"java/lang/String", "<init>", "([C)V"⟩ : MethodName)).before a0 Z = true) (w2 : (Jvm.Cond.instanceMethod (⟨"java/lang/String", "<init>", "([C)V"⟩ : MethodName)).before a0 Z = true)
    {x b : Addr} {kC : ClassId} {cs : List Int32} {d v0 c0 : Value} {z N : Int32} {n : Nat} (g : n0 ≤ x) (E : Exa Z h x "java/lang/String") (V : Fld Z h x "java/lang/String" "value" "[B" v0) (Cd : Fld Z h x "java/lang/String" "coder" "B" c0) (K : Arv Z h b kC .char N (cs.map Value.int) d) (Sc : Sta Z Z.heap "java/lang/String" "COMPACT_STRINGS" "Z" (.int z)) (hz : ¬ z = 0)
    (hn : cs.length = n) (hN : N = Int32.ofNat n) (l0 : 0 < n) (l2 : n ≤ 4000) (hp : ∀ c ∈ cs, ¬ c < 0 ∧ ¬ (255 : Int32) < c) (hsf : Sf Z EL h sf x) {rest : List Value} {W : Nat} {pc pc' : Nat} {L : Array Slot} (hL : L.size = maxL) (hW : (rest.map fun v => v.category).sum = W) (hd : decode bytes pc = .ok (.invokespecial index, 3)) (hp' : pc + 3 = pc') (hfr : 4 ≤ R.frames) (hlo : W + 65 ≤ R.locals) (hc : C + 1 ≤ R.cells) (hsl : S + n ≤ R.slots)
    (k : ∀ T' h' t kb, h.size ≤ t → Hs p l e R s m args below meth c Z a0 EL cw own n0 bytes maxL ret nm T' h' (C + 1) (S + n) (t :: sf) → Keep h h' [x] → Str Z h' x t kb cs → Go p e below P (T'.setTop (mkF m pc' L rest))) : Go p e below P (T.setTop (mkF m pc L (.ref b :: .ref x :: rest))) := by
  subst hp'
  obtain ⟨hM, vm0, k0, locs, X, h1, h2, h3, h4, h5, h6, h7, h8, h9, hO⟩ := id H
  have wc : (Jvm.Cond.code StrChars.New1.yN StrChars.New1.yB 2 none).before a0 Z = true := hws _ (List.mem_of_getElem? (i := 0) rfl)
  obtain ⟨v, vm₁, B, hw, X', ⟨L', ⟨q1, q2, q3, q4, q5, t, kb, q6, q7, q8, q9, q10⟩, r2, r3, r4⟩, st'⟩ := X.specialBack H.exec (y := (⟨"java/lang/String", "<init>", "([C)V"⟩ : MethodName)) rfl h5 (mvT (s := s.setVm vm0) h4 w1) (mvT (s := s.setVm vm0) h4 w2) (mvT (s := s.setVm vm0) h4 wc) (by decide)
    (StrChars.Road.backV (W := W) (s := s.setVm vm0) h4 hws wi g H.le E V Cd K (Sta.ext hO.2 Sc) hz hn hN l0 l2 hp rfl hfr hlo) (g := mkF m pc L (.ref b :: .ref x :: rest)) rfl (by rw [hM.2.2.2.1]; exact hL) (Steps.refl _) (a := x) (argsL := [.ref b]) (rest := rest) (lenOf (show parseMethodDescriptor "([C)V" = some ⟨[.array .char], none⟩ by decide +kernel) rfl) rfl (by show 2 * 0 + _ ≤ _; omega) (H.dec hd) (fun _ _ => ⟨rfl, h1, hc, hsl⟩)
  subst q1
  have sx : ∀ y ∈ [x], Safe Z EL vm0 h y := fun y hy => by rw [List.mem_singleton.mp hy]; exact hsf.safe h4 h8
  have hC := CHr.keep q3 sx h7.1
  refine Go.tr st' (k B.U B.U.heap t kb q7 ⟨hM, vm0, k0, B.locs, by rw [← r3, ← r4]; exact X', rfl, h2, Nat.le_trans h3 q3.1, h4, h5, by rw [r2]; exact Fr.app h6 q2, h7.trans hC, fun y hy => ?_, h9, hO.keep q3 (fun y hy => by rw [List.mem_singleton.mp hy]; exact g)⟩ q3 ⟨q4, q5, q9, ?_, hp, by rw [hn]; exact l2⟩)
  · rcases List.mem_cons.mp hy with rfl | hy
    · exact ⟨q10.lt, Safe.keep q3 sx h7.1 (Safe.new q7)⟩
    · exact ⟨Nat.lt_of_lt_of_le (h8 y hy).1 q3.1, Safe.keep q3 sx h7.1 (h8 y hy).2⟩
  · rw [hn, ← hN]; rw [List.map_map] at q10; exact q10
end StrKit
end Jvm.Pilot.@@N@@
namespace Jvm.Pilot.@@N@@
open Jvm Jvm.ClassFile Sem Op Lib Jvm.Free Jvm.Stand Jvm.LawKit Jvm.RoadKit Bundle Jvm.OwnKit Jvm.Pilot.@@N@@.Jvm.D
def Env1 (Z : State) (a0 : Array Value) (n0 : Nat) (z_COMPACT_STRINGS : Int32) (z_SIOOBE_FORMATTER : Value) (a_PLAIN : Addr) (a_DATED : Addr) (a_DATED_LOCALIZED : Addr) (a_LOCALIZED : Addr) (a_DATE : Addr) (a_STRING : Addr) (a_DECIMAL : Addr) : Prop := (∀ d ∈ tables_1, d.before a0 Z = true) ∧ EW Z a0 [] ∧ Sta Z Z.heap "java/lang/String" "COMPACT_STRINGS" "Z" (.int z_COMPACT_STRINGS) ∧ ¬ z_COMPACT_STRINGS = 0 ∧ Sta Z Z.heap "jdk/internal/util/Preconditions" "SIOOBE_FORMATTER" "Ljava/util/function/BiFunction;" z_SIOOBE_FORMATTER ∧ z_SIOOBE_FORMATTER.isRef = true ∧ Sta Z Z.heap "com/example/tenure/tenure/Attribute$Kind" "PLAIN" "Lcom/example/tenure/tenure/Attribute$Kind;" (.ref a_PLAIN) ∧ Exa Z Z.heap a_PLAIN "com/example/tenure/tenure/Attribute$Kind" ∧ Sta Z Z.heap "com/example/tenure/tenure/Attribute$Kind" "DATED" "Lcom/example/tenure/tenure/Attribute$Kind;" (.ref a_DATED) ∧ Exa Z Z.heap a_DATED "com/example/tenure/tenure/Attribute$Kind" ∧ Fld Z Z.heap a_PLAIN "java/lang/Enum" "ordinal" "I" (.int (0 : Int32)) ∧ Fld Z Z.heap a_DATED "java/lang/Enum" "ordinal" "I" (.int (1 : Int32)) ∧ Sta Z Z.heap "com/example/tenure/tenure/Attribute$Kind" "DATED_LOCALIZED" "Lcom/example/tenure/tenure/Attribute$Kind;" (.ref a_DATED_LOCALIZED) ∧ Exa Z Z.heap a_DATED_LOCALIZED "com/example/tenure/tenure/Attribute$Kind" ∧ Fld Z Z.heap a_DATED_LOCALIZED "java/lang/Enum" "ordinal" "I" (.int (3 : Int32)) ∧ Sta Z Z.heap "com/example/tenure/tenure/Attribute$Kind" "LOCALIZED" "Lcom/example/tenure/tenure/Attribute$Kind;" (.ref a_LOCALIZED) ∧ Exa Z Z.heap a_LOCALIZED "com/example/tenure/tenure/Attribute$Kind" ∧ Fld Z Z.heap a_LOCALIZED "java/lang/Enum" "ordinal" "I" (.int (2 : Int32)) ∧ Sta Z Z.heap "com/example/tenure/tenure/AttributeType" "DATE" "Lcom/example/tenure/tenure/AttributeType;" (.ref a_DATE) ∧ Exa Z Z.heap a_DATE "com/example/tenure/tenure/AttributeType" ∧ Sta Z Z.heap "com/example/tenure/tenure/AttributeType" "STRING" "Lcom/example/tenure/tenure/AttributeType;" (.ref a_STRING) ∧ Exa Z Z.heap a_STRING "com/example/tenure/tenure/AttributeType" ∧ Sta Z Z.heap "com/example/tenure/tenure/AttributeType" "DECIMAL" "Lcom/example/tenure/tenure/AttributeType;" (.ref a_DECIMAL) ∧ Exa Z Z.heap a_DECIMAL "com/example/tenure/tenure/AttributeType" ∧ True
theorem EWl {Z : State} {a0 : Array Value} {n0 : Nat} {z_COMPACT_STRINGS : Int32} {z_SIOOBE_FORMATTER : Value} {a_PLAIN : Addr} {a_DATED : Addr} {a_DATED_LOCALIZED : Addr} {a_LOCALIZED : Addr} {a_DATE : Addr} {a_STRING : Addr} {a_DECIMAL : Addr} (V : Env1 Z a0 n0 z_COMPACT_STRINGS z_SIOOBE_FORMATTER a_PLAIN a_DATED a_DATED_LOCALIZED a_LOCALIZED a_DATE a_STRING a_DECIMAL) : EW Z a0 [] := V.2.1
theorem s_COMPACT_STRINGS {Z : State} {a0 : Array Value} {n0 : Nat} {z_COMPACT_STRINGS : Int32} {z_SIOOBE_FORMATTER : Value} {a_PLAIN : Addr} {a_DATED : Addr} {a_DATED_LOCALIZED : Addr} {a_LOCALIZED : Addr} {a_DATE : Addr} {a_STRING : Addr} {a_DECIMAL : Addr} (V : Env1 Z a0 n0 z_COMPACT_STRINGS z_SIOOBE_FORMATTER a_PLAIN a_DATED a_DATED_LOCALIZED a_LOCALIZED a_DATE a_STRING a_DECIMAL) : Sta Z Z.heap "java/lang/String" "COMPACT_STRINGS" "Z" (.int z_COMPACT_STRINGS) := V.2.2.1
theorem cz {Z : State} {a0 : Array Value} {n0 : Nat} {z_COMPACT_STRINGS : Int32} {z_SIOOBE_FORMATTER : Value} {a_PLAIN : Addr} {a_DATED : Addr} {a_DATED_LOCALIZED : Addr} {a_LOCALIZED : Addr} {a_DATE : Addr} {a_STRING : Addr} {a_DECIMAL : Addr} (V : Env1 Z a0 n0 z_COMPACT_STRINGS z_SIOOBE_FORMATTER a_PLAIN a_DATED a_DATED_LOCALIZED a_LOCALIZED a_DATE a_STRING a_DECIMAL) : ¬ z_COMPACT_STRINGS = 0 := V.2.2.2.1
theorem s_SIOOBE_FORMATTER {Z : State} {a0 : Array Value} {n0 : Nat} {z_COMPACT_STRINGS : Int32} {z_SIOOBE_FORMATTER : Value} {a_PLAIN : Addr} {a_DATED : Addr} {a_DATED_LOCALIZED : Addr} {a_LOCALIZED : Addr} {a_DATE : Addr} {a_STRING : Addr} {a_DECIMAL : Addr} (V : Env1 Z a0 n0 z_COMPACT_STRINGS z_SIOOBE_FORMATTER a_PLAIN a_DATED a_DATED_LOCALIZED a_LOCALIZED a_DATE a_STRING a_DECIMAL) : Sta Z Z.heap "jdk/internal/util/Preconditions" "SIOOBE_FORMATTER" "Ljava/util/function/BiFunction;" z_SIOOBE_FORMATTER := V.2.2.2.2.1
theorem r_SIOOBE_FORMATTER {Z : State} {a0 : Array Value} {n0 : Nat} {z_COMPACT_STRINGS : Int32} {z_SIOOBE_FORMATTER : Value} {a_PLAIN : Addr} {a_DATED : Addr} {a_DATED_LOCALIZED : Addr} {a_LOCALIZED : Addr} {a_DATE : Addr} {a_STRING : Addr} {a_DECIMAL : Addr} (V : Env1 Z a0 n0 z_COMPACT_STRINGS z_SIOOBE_FORMATTER a_PLAIN a_DATED a_DATED_LOCALIZED a_LOCALIZED a_DATE a_STRING a_DECIMAL) : z_SIOOBE_FORMATTER.isRef = true := V.2.2.2.2.2.1
theorem S_a_PLAIN {Z : State} {a0 : Array Value} {n0 : Nat} {z_COMPACT_STRINGS : Int32} {z_SIOOBE_FORMATTER : Value} {a_PLAIN : Addr} {a_DATED : Addr} {a_DATED_LOCALIZED : Addr} {a_LOCALIZED : Addr} {a_DATE : Addr} {a_STRING : Addr} {a_DECIMAL : Addr} (V : Env1 Z a0 n0 z_COMPACT_STRINGS z_SIOOBE_FORMATTER a_PLAIN a_DATED a_DATED_LOCALIZED a_LOCALIZED a_DATE a_STRING a_DECIMAL) : Sta Z Z.heap "com/example/tenure/tenure/Attribute$Kind" "PLAIN" "Lcom/example/tenure/tenure/Attribute$Kind;" (.ref a_PLAIN) := V.2.2.2.2.2.2.1
theorem X_a_PLAIN {Z : State} {a0 : Array Value} {n0 : Nat} {z_COMPACT_STRINGS : Int32} {z_SIOOBE_FORMATTER : Value} {a_PLAIN : Addr} {a_DATED : Addr} {a_DATED_LOCALIZED : Addr} {a_LOCALIZED : Addr} {a_DATE : Addr} {a_STRING : Addr} {a_DECIMAL : Addr} (V : Env1 Z a0 n0 z_COMPACT_STRINGS z_SIOOBE_FORMATTER a_PLAIN a_DATED a_DATED_LOCALIZED a_LOCALIZED a_DATE a_STRING a_DECIMAL) : Exa Z Z.heap a_PLAIN "com/example/tenure/tenure/Attribute$Kind" := V.2.2.2.2.2.2.2.1
theorem S_a_DATED {Z : State} {a0 : Array Value} {n0 : Nat} {z_COMPACT_STRINGS : Int32} {z_SIOOBE_FORMATTER : Value} {a_PLAIN : Addr} {a_DATED : Addr} {a_DATED_LOCALIZED : Addr} {a_LOCALIZED : Addr} {a_DATE : Addr} {a_STRING : Addr} {a_DECIMAL : Addr} (V : Env1 Z a0 n0 z_COMPACT_STRINGS z_SIOOBE_FORMATTER a_PLAIN a_DATED a_DATED_LOCALIZED a_LOCALIZED a_DATE a_STRING a_DECIMAL) : Sta Z Z.heap "com/example/tenure/tenure/Attribute$Kind" "DATED" "Lcom/example/tenure/tenure/Attribute$Kind;" (.ref a_DATED) := V.2.2.2.2.2.2.2.2.1
theorem X_a_DATED {Z : State} {a0 : Array Value} {n0 : Nat} {z_COMPACT_STRINGS : Int32} {z_SIOOBE_FORMATTER : Value} {a_PLAIN : Addr} {a_DATED : Addr} {a_DATED_LOCALIZED : Addr} {a_LOCALIZED : Addr} {a_DATE : Addr} {a_STRING : Addr} {a_DECIMAL : Addr} (V : Env1 Z a0 n0 z_COMPACT_STRINGS z_SIOOBE_FORMATTER a_PLAIN a_DATED a_DATED_LOCALIZED a_LOCALIZED a_DATE a_STRING a_DECIMAL) : Exa Z Z.heap a_DATED "com/example/tenure/tenure/Attribute$Kind" := V.2.2.2.2.2.2.2.2.2.1
theorem F_a_PLAIN_ordinal {Z : State} {a0 : Array Value} {n0 : Nat} {z_COMPACT_STRINGS : Int32} {z_SIOOBE_FORMATTER : Value} {a_PLAIN : Addr} {a_DATED : Addr} {a_DATED_LOCALIZED : Addr} {a_LOCALIZED : Addr} {a_DATE : Addr} {a_STRING : Addr} {a_DECIMAL : Addr} (V : Env1 Z a0 n0 z_COMPACT_STRINGS z_SIOOBE_FORMATTER a_PLAIN a_DATED a_DATED_LOCALIZED a_LOCALIZED a_DATE a_STRING a_DECIMAL) : Fld Z Z.heap a_PLAIN "java/lang/Enum" "ordinal" "I" (.int (0 : Int32)) := V.2.2.2.2.2.2.2.2.2.2.1
theorem F_a_DATED_ordinal {Z : State} {a0 : Array Value} {n0 : Nat} {z_COMPACT_STRINGS : Int32} {z_SIOOBE_FORMATTER : Value} {a_PLAIN : Addr} {a_DATED : Addr} {a_DATED_LOCALIZED : Addr} {a_LOCALIZED : Addr} {a_DATE : Addr} {a_STRING : Addr} {a_DECIMAL : Addr} (V : Env1 Z a0 n0 z_COMPACT_STRINGS z_SIOOBE_FORMATTER a_PLAIN a_DATED a_DATED_LOCALIZED a_LOCALIZED a_DATE a_STRING a_DECIMAL) : Fld Z Z.heap a_DATED "java/lang/Enum" "ordinal" "I" (.int (1 : Int32)) := V.2.2.2.2.2.2.2.2.2.2.2.1
theorem S_a_DATED_LOCALIZED {Z : State} {a0 : Array Value} {n0 : Nat} {z_COMPACT_STRINGS : Int32} {z_SIOOBE_FORMATTER : Value} {a_PLAIN : Addr} {a_DATED : Addr} {a_DATED_LOCALIZED : Addr} {a_LOCALIZED : Addr} {a_DATE : Addr} {a_STRING : Addr} {a_DECIMAL : Addr} (V : Env1 Z a0 n0 z_COMPACT_STRINGS z_SIOOBE_FORMATTER a_PLAIN a_DATED a_DATED_LOCALIZED a_LOCALIZED a_DATE a_STRING a_DECIMAL) : Sta Z Z.heap "com/example/tenure/tenure/Attribute$Kind" "DATED_LOCALIZED" "Lcom/example/tenure/tenure/Attribute$Kind;" (.ref a_DATED_LOCALIZED) := V.2.2.2.2.2.2.2.2.2.2.2.2.1
theorem X_a_DATED_LOCALIZED {Z : State} {a0 : Array Value} {n0 : Nat} {z_COMPACT_STRINGS : Int32} {z_SIOOBE_FORMATTER : Value} {a_PLAIN : Addr} {a_DATED : Addr} {a_DATED_LOCALIZED : Addr} {a_LOCALIZED : Addr} {a_DATE : Addr} {a_STRING : Addr} {a_DECIMAL : Addr} (V : Env1 Z a0 n0 z_COMPACT_STRINGS z_SIOOBE_FORMATTER a_PLAIN a_DATED a_DATED_LOCALIZED a_LOCALIZED a_DATE a_STRING a_DECIMAL) : Exa Z Z.heap a_DATED_LOCALIZED "com/example/tenure/tenure/Attribute$Kind" := V.2.2.2.2.2.2.2.2.2.2.2.2.2.1
theorem F_a_DATED_LOCALIZED_ordinal {Z : State} {a0 : Array Value} {n0 : Nat} {z_COMPACT_STRINGS : Int32} {z_SIOOBE_FORMATTER : Value} {a_PLAIN : Addr} {a_DATED : Addr} {a_DATED_LOCALIZED : Addr} {a_LOCALIZED : Addr} {a_DATE : Addr} {a_STRING : Addr} {a_DECIMAL : Addr} (V : Env1 Z a0 n0 z_COMPACT_STRINGS z_SIOOBE_FORMATTER a_PLAIN a_DATED a_DATED_LOCALIZED a_LOCALIZED a_DATE a_STRING a_DECIMAL) : Fld Z Z.heap a_DATED_LOCALIZED "java/lang/Enum" "ordinal" "I" (.int (3 : Int32)) := V.2.2.2.2.2.2.2.2.2.2.2.2.2.2.1
theorem S_a_LOCALIZED {Z : State} {a0 : Array Value} {n0 : Nat} {z_COMPACT_STRINGS : Int32} {z_SIOOBE_FORMATTER : Value} {a_PLAIN : Addr} {a_DATED : Addr} {a_DATED_LOCALIZED : Addr} {a_LOCALIZED : Addr} {a_DATE : Addr} {a_STRING : Addr} {a_DECIMAL : Addr} (V : Env1 Z a0 n0 z_COMPACT_STRINGS z_SIOOBE_FORMATTER a_PLAIN a_DATED a_DATED_LOCALIZED a_LOCALIZED a_DATE a_STRING a_DECIMAL) : Sta Z Z.heap "com/example/tenure/tenure/Attribute$Kind" "LOCALIZED" "Lcom/example/tenure/tenure/Attribute$Kind;" (.ref a_LOCALIZED) := V.2.2.2.2.2.2.2.2.2.2.2.2.2.2.2.1
theorem X_a_LOCALIZED {Z : State} {a0 : Array Value} {n0 : Nat} {z_COMPACT_STRINGS : Int32} {z_SIOOBE_FORMATTER : Value} {a_PLAIN : Addr} {a_DATED : Addr} {a_DATED_LOCALIZED : Addr} {a_LOCALIZED : Addr} {a_DATE : Addr} {a_STRING : Addr} {a_DECIMAL : Addr} (V : Env1 Z a0 n0 z_COMPACT_STRINGS z_SIOOBE_FORMATTER a_PLAIN a_DATED a_DATED_LOCALIZED a_LOCALIZED a_DATE a_STRING a_DECIMAL) : Exa Z Z.heap a_LOCALIZED "com/example/tenure/tenure/Attribute$Kind" := V.2.2.2.2.2.2.2.2.2.2.2.2.2.2.2.2.1
theorem F_a_LOCALIZED_ordinal {Z : State} {a0 : Array Value} {n0 : Nat} {z_COMPACT_STRINGS : Int32} {z_SIOOBE_FORMATTER : Value} {a_PLAIN : Addr} {a_DATED : Addr} {a_DATED_LOCALIZED : Addr} {a_LOCALIZED : Addr} {a_DATE : Addr} {a_STRING : Addr} {a_DECIMAL : Addr} (V : Env1 Z a0 n0 z_COMPACT_STRINGS z_SIOOBE_FORMATTER a_PLAIN a_DATED a_DATED_LOCALIZED a_LOCALIZED a_DATE a_STRING a_DECIMAL) : Fld Z Z.heap a_LOCALIZED "java/lang/Enum" "ordinal" "I" (.int (2 : Int32)) := V.2.2.2.2.2.2.2.2.2.2.2.2.2.2.2.2.2.1
theorem S_a_DATE {Z : State} {a0 : Array Value} {n0 : Nat} {z_COMPACT_STRINGS : Int32} {z_SIOOBE_FORMATTER : Value} {a_PLAIN : Addr} {a_DATED : Addr} {a_DATED_LOCALIZED : Addr} {a_LOCALIZED : Addr} {a_DATE : Addr} {a_STRING : Addr} {a_DECIMAL : Addr} (V : Env1 Z a0 n0 z_COMPACT_STRINGS z_SIOOBE_FORMATTER a_PLAIN a_DATED a_DATED_LOCALIZED a_LOCALIZED a_DATE a_STRING a_DECIMAL) : Sta Z Z.heap "com/example/tenure/tenure/AttributeType" "DATE" "Lcom/example/tenure/tenure/AttributeType;" (.ref a_DATE) := V.2.2.2.2.2.2.2.2.2.2.2.2.2.2.2.2.2.2.1
theorem X_a_DATE {Z : State} {a0 : Array Value} {n0 : Nat} {z_COMPACT_STRINGS : Int32} {z_SIOOBE_FORMATTER : Value} {a_PLAIN : Addr} {a_DATED : Addr} {a_DATED_LOCALIZED : Addr} {a_LOCALIZED : Addr} {a_DATE : Addr} {a_STRING : Addr} {a_DECIMAL : Addr} (V : Env1 Z a0 n0 z_COMPACT_STRINGS z_SIOOBE_FORMATTER a_PLAIN a_DATED a_DATED_LOCALIZED a_LOCALIZED a_DATE a_STRING a_DECIMAL) : Exa Z Z.heap a_DATE "com/example/tenure/tenure/AttributeType" := V.2.2.2.2.2.2.2.2.2.2.2.2.2.2.2.2.2.2.2.1
theorem S_a_STRING {Z : State} {a0 : Array Value} {n0 : Nat} {z_COMPACT_STRINGS : Int32} {z_SIOOBE_FORMATTER : Value} {a_PLAIN : Addr} {a_DATED : Addr} {a_DATED_LOCALIZED : Addr} {a_LOCALIZED : Addr} {a_DATE : Addr} {a_STRING : Addr} {a_DECIMAL : Addr} (V : Env1 Z a0 n0 z_COMPACT_STRINGS z_SIOOBE_FORMATTER a_PLAIN a_DATED a_DATED_LOCALIZED a_LOCALIZED a_DATE a_STRING a_DECIMAL) : Sta Z Z.heap "com/example/tenure/tenure/AttributeType" "STRING" "Lcom/example/tenure/tenure/AttributeType;" (.ref a_STRING) := V.2.2.2.2.2.2.2.2.2.2.2.2.2.2.2.2.2.2.2.2.1
theorem X_a_STRING {Z : State} {a0 : Array Value} {n0 : Nat} {z_COMPACT_STRINGS : Int32} {z_SIOOBE_FORMATTER : Value} {a_PLAIN : Addr} {a_DATED : Addr} {a_DATED_LOCALIZED : Addr} {a_LOCALIZED : Addr} {a_DATE : Addr} {a_STRING : Addr} {a_DECIMAL : Addr} (V : Env1 Z a0 n0 z_COMPACT_STRINGS z_SIOOBE_FORMATTER a_PLAIN a_DATED a_DATED_LOCALIZED a_LOCALIZED a_DATE a_STRING a_DECIMAL) : Exa Z Z.heap a_STRING "com/example/tenure/tenure/AttributeType" := V.2.2.2.2.2.2.2.2.2.2.2.2.2.2.2.2.2.2.2.2.2.1
theorem S_a_DECIMAL {Z : State} {a0 : Array Value} {n0 : Nat} {z_COMPACT_STRINGS : Int32} {z_SIOOBE_FORMATTER : Value} {a_PLAIN : Addr} {a_DATED : Addr} {a_DATED_LOCALIZED : Addr} {a_LOCALIZED : Addr} {a_DATE : Addr} {a_STRING : Addr} {a_DECIMAL : Addr} (V : Env1 Z a0 n0 z_COMPACT_STRINGS z_SIOOBE_FORMATTER a_PLAIN a_DATED a_DATED_LOCALIZED a_LOCALIZED a_DATE a_STRING a_DECIMAL) : Sta Z Z.heap "com/example/tenure/tenure/AttributeType" "DECIMAL" "Lcom/example/tenure/tenure/AttributeType;" (.ref a_DECIMAL) := V.2.2.2.2.2.2.2.2.2.2.2.2.2.2.2.2.2.2.2.2.2.2.1
theorem X_a_DECIMAL {Z : State} {a0 : Array Value} {n0 : Nat} {z_COMPACT_STRINGS : Int32} {z_SIOOBE_FORMATTER : Value} {a_PLAIN : Addr} {a_DATED : Addr} {a_DATED_LOCALIZED : Addr} {a_LOCALIZED : Addr} {a_DATE : Addr} {a_STRING : Addr} {a_DECIMAL : Addr} (V : Env1 Z a0 n0 z_COMPACT_STRINGS z_SIOOBE_FORMATTER a_PLAIN a_DATED a_DATED_LOCALIZED a_LOCALIZED a_DATE a_STRING a_DECIMAL) : Exa Z Z.heap a_DECIMAL "com/example/tenure/tenure/AttributeType" := V.2.2.2.2.2.2.2.2.2.2.2.2.2.2.2.2.2.2.2.2.2.2.2.1
theorem wd0 {Z : State} {a0 : Array Value} {n0 : Nat} {z_COMPACT_STRINGS : Int32} {z_SIOOBE_FORMATTER : Value} {a_PLAIN : Addr} {a_DATED : Addr} {a_DATED_LOCALIZED : Addr} {a_LOCALIZED : Addr} {a_DATE : Addr} {a_STRING : Addr} {a_DECIMAL : Addr} (V : Env1 Z a0 n0 z_COMPACT_STRINGS z_SIOOBE_FORMATTER a_PLAIN a_DATED a_DATED_LOCALIZED a_LOCALIZED a_DATE a_STRING a_DECIMAL) : (Jvm.Cond.arrayClass Jvm.ClassFile.FieldType.char).before a0 Z = true := V.1 _ (List.mem_of_getElem? (i := 0) rfl)
theorem wd1 {Z : State} {a0 : Array Value} {n0 : Nat} {z_COMPACT_STRINGS : Int32} {z_SIOOBE_FORMATTER : Value} {a_PLAIN : Addr} {a_DATED : Addr} {a_DATED_LOCALIZED : Addr} {a_LOCALIZED : Addr} {a_DATE : Addr} {a_STRING : Addr} {a_DECIMAL : Addr} (V : Env1 Z a0 n0 z_COMPACT_STRINGS z_SIOOBE_FORMATTER a_PLAIN a_DATED a_DATED_LOCALIZED a_LOCALIZED a_DATE a_STRING a_DECIMAL) : (Jvm.Cond.classLink "com/example/tenure/tenure/AttributeKindPinLaw" (19 : Nat) "java/lang/String").before a0 Z = true := V.1 _ (List.mem_of_getElem? (i := 1) rfl)
theorem wd2 {Z : State} {a0 : Array Value} {n0 : Nat} {z_COMPACT_STRINGS : Int32} {z_SIOOBE_FORMATTER : Value} {a_PLAIN : Addr} {a_DATED : Addr} {a_DATED_LOCALIZED : Addr} {a_LOCALIZED : Addr} {a_DATE : Addr} {a_STRING : Addr} {a_DECIMAL : Addr} (V : Env1 Z a0 n0 z_COMPACT_STRINGS z_SIOOBE_FORMATTER a_PLAIN a_DATED a_DATED_LOCALIZED a_LOCALIZED a_DATE a_STRING a_DECIMAL) : (Jvm.Cond.instantiable "java/lang/String" (4 : Nat)).before a0 Z = true := V.1 _ (List.mem_of_getElem? (i := 2) rfl)
theorem wd3 {Z : State} {a0 : Array Value} {n0 : Nat} {z_COMPACT_STRINGS : Int32} {z_SIOOBE_FORMATTER : Value} {a_PLAIN : Addr} {a_DATED : Addr} {a_DATED_LOCALIZED : Addr} {a_LOCALIZED : Addr} {a_DATE : Addr} {a_STRING : Addr} {a_DECIMAL : Addr} (V : Env1 Z a0 n0 z_COMPACT_STRINGS z_SIOOBE_FORMATTER a_PLAIN a_DATED a_DATED_LOCALIZED a_LOCALIZED a_DATE a_STRING a_DECIMAL) : (Jvm.Cond.initialized "java/lang/String").before a0 Z = true := V.1 _ (List.mem_of_getElem? (i := 3) rfl)
theorem wd4 {Z : State} {a0 : Array Value} {n0 : Nat} {z_COMPACT_STRINGS : Int32} {z_SIOOBE_FORMATTER : Value} {a_PLAIN : Addr} {a_DATED : Addr} {a_DATED_LOCALIZED : Addr} {a_LOCALIZED : Addr} {a_DATE : Addr} {a_STRING : Addr} {a_DECIMAL : Addr} (V : Env1 Z a0 n0 z_COMPACT_STRINGS z_SIOOBE_FORMATTER a_PLAIN a_DATED a_DATED_LOCALIZED a_LOCALIZED a_DATE a_STRING a_DECIMAL) : (Jvm.Cond.methodLink "com/example/tenure/tenure/AttributeKindPinLaw" (21 : Nat) ({ cls := "java/lang/String", name := "<init>", desc := "([C)V" } : Jvm.MethodName)).before a0 Z = true := V.1 _ (List.mem_of_getElem? (i := 4) rfl)
theorem wd5 {Z : State} {a0 : Array Value} {n0 : Nat} {z_COMPACT_STRINGS : Int32} {z_SIOOBE_FORMATTER : Value} {a_PLAIN : Addr} {a_DATED : Addr} {a_DATED_LOCALIZED : Addr} {a_LOCALIZED : Addr} {a_DATE : Addr} {a_STRING : Addr} {a_DECIMAL : Addr} (V : Env1 Z a0 n0 z_COMPACT_STRINGS z_SIOOBE_FORMATTER a_PLAIN a_DATED a_DATED_LOCALIZED a_LOCALIZED a_DATE a_STRING a_DECIMAL) : (Jvm.Cond.instanceMethod ({ cls := "java/lang/String", name := "<init>", desc := "([C)V" } : Jvm.MethodName)).before a0 Z = true := V.1 _ (List.mem_of_getElem? (i := 5) rfl)
theorem wd12 {Z : State} {a0 : Array Value} {n0 : Nat} {z_COMPACT_STRINGS : Int32} {z_SIOOBE_FORMATTER : Value} {a_PLAIN : Addr} {a_DATED : Addr} {a_DATED_LOCALIZED : Addr} {a_LOCALIZED : Addr} {a_DATE : Addr} {a_STRING : Addr} {a_DECIMAL : Addr} (V : Env1 Z a0 n0 z_COMPACT_STRINGS z_SIOOBE_FORMATTER a_PLAIN a_DATED a_DATED_LOCALIZED a_LOCALIZED a_DATE a_STRING a_DECIMAL) : (Jvm.Cond.instanceMethod ({ cls := "java/lang/Object", name := "<init>", desc := "()V" } : Jvm.MethodName)).before a0 Z = true := V.1 _ (List.mem_of_getElem? (i := 12) rfl)
theorem wd13 {Z : State} {a0 : Array Value} {n0 : Nat} {z_COMPACT_STRINGS : Int32} {z_SIOOBE_FORMATTER : Value} {a_PLAIN : Addr} {a_DATED : Addr} {a_DATED_LOCALIZED : Addr} {a_LOCALIZED : Addr} {a_DATE : Addr} {a_STRING : Addr} {a_DECIMAL : Addr} (V : Env1 Z a0 n0 z_COMPACT_STRINGS z_SIOOBE_FORMATTER a_PLAIN a_DATED a_DATED_LOCALIZED a_LOCALIZED a_DATE a_STRING a_DECIMAL) : (Jvm.Cond.code ({ cls := "java/lang/Object", name := "<init>", desc := "()V" } : Jvm.MethodName) object_method_1_code (1 : Nat) (Option.none : Option Jvm.ClassFile.FieldType)).before a0 Z = true := V.1 _ (List.mem_of_getElem? (i := 13) rfl)
theorem wd27 {Z : State} {a0 : Array Value} {n0 : Nat} {z_COMPACT_STRINGS : Int32} {z_SIOOBE_FORMATTER : Value} {a_PLAIN : Addr} {a_DATED : Addr} {a_DATED_LOCALIZED : Addr} {a_LOCALIZED : Addr} {a_DATE : Addr} {a_STRING : Addr} {a_DECIMAL : Addr} (V : Env1 Z a0 n0 z_COMPACT_STRINGS z_SIOOBE_FORMATTER a_PLAIN a_DATED a_DATED_LOCALIZED a_LOCALIZED a_DATE a_STRING a_DECIMAL) : (Jvm.Cond.laysFinal "java/lang/String" "java/lang/String" "coder" "B").before a0 Z = true := V.1 _ (List.mem_of_getElem? (i := 27) rfl)
theorem wd29 {Z : State} {a0 : Array Value} {n0 : Nat} {z_COMPACT_STRINGS : Int32} {z_SIOOBE_FORMATTER : Value} {a_PLAIN : Addr} {a_DATED : Addr} {a_DATED_LOCALIZED : Addr} {a_LOCALIZED : Addr} {a_DATE : Addr} {a_STRING : Addr} {a_DECIMAL : Addr} (V : Env1 Z a0 n0 z_COMPACT_STRINGS z_SIOOBE_FORMATTER a_PLAIN a_DATED a_DATED_LOCALIZED a_LOCALIZED a_DATE a_STRING a_DECIMAL) : (Jvm.Cond.laysFinal "java/lang/String" "java/lang/String" "value" "[B").before a0 Z = true := V.1 _ (List.mem_of_getElem? (i := 29) rfl)
theorem wd30 {Z : State} {a0 : Array Value} {n0 : Nat} {z_COMPACT_STRINGS : Int32} {z_SIOOBE_FORMATTER : Value} {a_PLAIN : Addr} {a_DATED : Addr} {a_DATED_LOCALIZED : Addr} {a_LOCALIZED : Addr} {a_DATE : Addr} {a_STRING : Addr} {a_DECIMAL : Addr} (V : Env1 Z a0 n0 z_COMPACT_STRINGS z_SIOOBE_FORMATTER a_PLAIN a_DATED a_DATED_LOCALIZED a_LOCALIZED a_DATE a_STRING a_DECIMAL) : (Jvm.Cond.classLink "com/example/tenure/tenure/AttributeKindPinLaw" (24 : Nat) "com/example/tenure/tenure/Attribute").before a0 Z = true := V.1 _ (List.mem_of_getElem? (i := 30) rfl)
theorem wd31 {Z : State} {a0 : Array Value} {n0 : Nat} {z_COMPACT_STRINGS : Int32} {z_SIOOBE_FORMATTER : Value} {a_PLAIN : Addr} {a_DATED : Addr} {a_DATED_LOCALIZED : Addr} {a_LOCALIZED : Addr} {a_DATE : Addr} {a_STRING : Addr} {a_DECIMAL : Addr} (V : Env1 Z a0 n0 z_COMPACT_STRINGS z_SIOOBE_FORMATTER a_PLAIN a_DATED a_DATED_LOCALIZED a_LOCALIZED a_DATE a_STRING a_DECIMAL) : (Jvm.Cond.instantiable "com/example/tenure/tenure/Attribute" (4 : Nat)).before a0 Z = true := V.1 _ (List.mem_of_getElem? (i := 31) rfl)
theorem wd32 {Z : State} {a0 : Array Value} {n0 : Nat} {z_COMPACT_STRINGS : Int32} {z_SIOOBE_FORMATTER : Value} {a_PLAIN : Addr} {a_DATED : Addr} {a_DATED_LOCALIZED : Addr} {a_LOCALIZED : Addr} {a_DATE : Addr} {a_STRING : Addr} {a_DECIMAL : Addr} (V : Env1 Z a0 n0 z_COMPACT_STRINGS z_SIOOBE_FORMATTER a_PLAIN a_DATED a_DATED_LOCALIZED a_LOCALIZED a_DATE a_STRING a_DECIMAL) : (Jvm.Cond.initialized "com/example/tenure/tenure/Attribute").before a0 Z = true := V.1 _ (List.mem_of_getElem? (i := 32) rfl)
theorem wd33 {Z : State} {a0 : Array Value} {n0 : Nat} {z_COMPACT_STRINGS : Int32} {z_SIOOBE_FORMATTER : Value} {a_PLAIN : Addr} {a_DATED : Addr} {a_DATED_LOCALIZED : Addr} {a_LOCALIZED : Addr} {a_DATE : Addr} {a_STRING : Addr} {a_DECIMAL : Addr} (V : Env1 Z a0 n0 z_COMPACT_STRINGS z_SIOOBE_FORMATTER a_PLAIN a_DATED a_DATED_LOCALIZED a_LOCALIZED a_DATE a_STRING a_DECIMAL) : (Jvm.Cond.methodLink "com/example/tenure/tenure/AttributeKindPinLaw" (26 : Nat) ({ cls := "com/example/tenure/tenure/Attribute", name := "<init>", desc := "(Ljava/lang/String;Lcom/example/tenure/tenure/AttributeType;ZZ)V" } : Jvm.MethodName)).before a0 Z = true := V.1 _ (List.mem_of_getElem? (i := 33) rfl)
theorem wd34 {Z : State} {a0 : Array Value} {n0 : Nat} {z_COMPACT_STRINGS : Int32} {z_SIOOBE_FORMATTER : Value} {a_PLAIN : Addr} {a_DATED : Addr} {a_DATED_LOCALIZED : Addr} {a_LOCALIZED : Addr} {a_DATE : Addr} {a_STRING : Addr} {a_DECIMAL : Addr} (V : Env1 Z a0 n0 z_COMPACT_STRINGS z_SIOOBE_FORMATTER a_PLAIN a_DATED a_DATED_LOCALIZED a_LOCALIZED a_DATE a_STRING a_DECIMAL) : (Jvm.Cond.instanceMethod ({ cls := "com/example/tenure/tenure/Attribute", name := "<init>", desc := "(Ljava/lang/String;Lcom/example/tenure/tenure/AttributeType;ZZ)V" } : Jvm.MethodName)).before a0 Z = true := V.1 _ (List.mem_of_getElem? (i := 34) rfl)
theorem wd35 {Z : State} {a0 : Array Value} {n0 : Nat} {z_COMPACT_STRINGS : Int32} {z_SIOOBE_FORMATTER : Value} {a_PLAIN : Addr} {a_DATED : Addr} {a_DATED_LOCALIZED : Addr} {a_LOCALIZED : Addr} {a_DATE : Addr} {a_STRING : Addr} {a_DECIMAL : Addr} (V : Env1 Z a0 n0 z_COMPACT_STRINGS z_SIOOBE_FORMATTER a_PLAIN a_DATED a_DATED_LOCALIZED a_LOCALIZED a_DATE a_STRING a_DECIMAL) : (Jvm.Cond.code ({ cls := "com/example/tenure/tenure/Attribute", name := "<init>", desc := "(Ljava/lang/String;Lcom/example/tenure/tenure/AttributeType;ZZ)V" } : Jvm.MethodName) prog_3_method_1_code (5 : Nat) (Option.none : Option Jvm.ClassFile.FieldType)).before a0 Z = true := V.1 _ (List.mem_of_getElem? (i := 35) rfl)
theorem wd36 {Z : State} {a0 : Array Value} {n0 : Nat} {z_COMPACT_STRINGS : Int32} {z_SIOOBE_FORMATTER : Value} {a_PLAIN : Addr} {a_DATED : Addr} {a_DATED_LOCALIZED : Addr} {a_LOCALIZED : Addr} {a_DATE : Addr} {a_STRING : Addr} {a_DECIMAL : Addr} (V : Env1 Z a0 n0 z_COMPACT_STRINGS z_SIOOBE_FORMATTER a_PLAIN a_DATED a_DATED_LOCALIZED a_LOCALIZED a_DATE a_STRING a_DECIMAL) : (Jvm.Cond.methodLink "com/example/tenure/tenure/Attribute" (1 : Nat) ({ cls := "java/lang/Record", name := "<init>", desc := "()V" } : Jvm.MethodName)).before a0 Z = true := V.1 _ (List.mem_of_getElem? (i := 36) rfl)
theorem wd37 {Z : State} {a0 : Array Value} {n0 : Nat} {z_COMPACT_STRINGS : Int32} {z_SIOOBE_FORMATTER : Value} {a_PLAIN : Addr} {a_DATED : Addr} {a_DATED_LOCALIZED : Addr} {a_LOCALIZED : Addr} {a_DATE : Addr} {a_STRING : Addr} {a_DECIMAL : Addr} (V : Env1 Z a0 n0 z_COMPACT_STRINGS z_SIOOBE_FORMATTER a_PLAIN a_DATED a_DATED_LOCALIZED a_LOCALIZED a_DATE a_STRING a_DECIMAL) : (Jvm.Cond.instanceMethod ({ cls := "java/lang/Record", name := "<init>", desc := "()V" } : Jvm.MethodName)).before a0 Z = true := V.1 _ (List.mem_of_getElem? (i := 37) rfl)
theorem wd39 {Z : State} {a0 : Array Value} {n0 : Nat} {z_COMPACT_STRINGS : Int32} {z_SIOOBE_FORMATTER : Value} {a_PLAIN : Addr} {a_DATED : Addr} {a_DATED_LOCALIZED : Addr} {a_LOCALIZED : Addr} {a_DATE : Addr} {a_STRING : Addr} {a_DECIMAL : Addr} (V : Env1 Z a0 n0 z_COMPACT_STRINGS z_SIOOBE_FORMATTER a_PLAIN a_DATED a_DATED_LOCALIZED a_LOCALIZED a_DATE a_STRING a_DECIMAL) : (Jvm.Cond.initialized "java/lang/Record").before a0 Z = true := V.1 _ (List.mem_of_getElem? (i := 39) rfl)
theorem wd40 {Z : State} {a0 : Array Value} {n0 : Nat} {z_COMPACT_STRINGS : Int32} {z_SIOOBE_FORMATTER : Value} {a_PLAIN : Addr} {a_DATED : Addr} {a_DATED_LOCALIZED : Addr} {a_LOCALIZED : Addr} {a_DATE : Addr} {a_STRING : Addr} {a_DECIMAL : Addr} (V : Env1 Z a0 n0 z_COMPACT_STRINGS z_SIOOBE_FORMATTER a_PLAIN a_DATED a_DATED_LOCALIZED a_LOCALIZED a_DATE a_STRING a_DECIMAL) : (Jvm.Cond.code ({ cls := "java/lang/Record", name := "<init>", desc := "()V" } : Jvm.MethodName) jdk_30_method_1_code (1 : Nat) (Option.none : Option Jvm.ClassFile.FieldType)).before a0 Z = true := V.1 _ (List.mem_of_getElem? (i := 40) rfl)
theorem wd41 {Z : State} {a0 : Array Value} {n0 : Nat} {z_COMPACT_STRINGS : Int32} {z_SIOOBE_FORMATTER : Value} {a_PLAIN : Addr} {a_DATED : Addr} {a_DATED_LOCALIZED : Addr} {a_LOCALIZED : Addr} {a_DATE : Addr} {a_STRING : Addr} {a_DECIMAL : Addr} (V : Env1 Z a0 n0 z_COMPACT_STRINGS z_SIOOBE_FORMATTER a_PLAIN a_DATED a_DATED_LOCALIZED a_LOCALIZED a_DATE a_STRING a_DECIMAL) : (Jvm.Cond.methodLink "java/lang/Record" (1 : Nat) ({ cls := "java/lang/Object", name := "<init>", desc := "()V" } : Jvm.MethodName)).before a0 Z = true := V.1 _ (List.mem_of_getElem? (i := 41) rfl)
theorem wd42 {Z : State} {a0 : Array Value} {n0 : Nat} {z_COMPACT_STRINGS : Int32} {z_SIOOBE_FORMATTER : Value} {a_PLAIN : Addr} {a_DATED : Addr} {a_DATED_LOCALIZED : Addr} {a_LOCALIZED : Addr} {a_DATE : Addr} {a_STRING : Addr} {a_DECIMAL : Addr} (V : Env1 Z a0 n0 z_COMPACT_STRINGS z_SIOOBE_FORMATTER a_PLAIN a_DATED a_DATED_LOCALIZED a_LOCALIZED a_DATE a_STRING a_DECIMAL) : (Jvm.Cond.fieldLink "com/example/tenure/tenure/Attribute" (7 : Nat) "com/example/tenure/tenure/Attribute" "name" "Ljava/lang/String;").before a0 Z = true := V.1 _ (List.mem_of_getElem? (i := 42) rfl)
theorem wd43 {Z : State} {a0 : Array Value} {n0 : Nat} {z_COMPACT_STRINGS : Int32} {z_SIOOBE_FORMATTER : Value} {a_PLAIN : Addr} {a_DATED : Addr} {a_DATED_LOCALIZED : Addr} {a_LOCALIZED : Addr} {a_DATE : Addr} {a_STRING : Addr} {a_DECIMAL : Addr} (V : Env1 Z a0 n0 z_COMPACT_STRINGS z_SIOOBE_FORMATTER a_PLAIN a_DATED a_DATED_LOCALIZED a_LOCALIZED a_DATE a_STRING a_DECIMAL) : (Jvm.Cond.laysFinal "com/example/tenure/tenure/Attribute" "com/example/tenure/tenure/Attribute" "name" "Ljava/lang/String;").before a0 Z = true := V.1 _ (List.mem_of_getElem? (i := 43) rfl)
theorem wd44 {Z : State} {a0 : Array Value} {n0 : Nat} {z_COMPACT_STRINGS : Int32} {z_SIOOBE_FORMATTER : Value} {a_PLAIN : Addr} {a_DATED : Addr} {a_DATED_LOCALIZED : Addr} {a_LOCALIZED : Addr} {a_DATE : Addr} {a_STRING : Addr} {a_DECIMAL : Addr} (V : Env1 Z a0 n0 z_COMPACT_STRINGS z_SIOOBE_FORMATTER a_PLAIN a_DATED a_DATED_LOCALIZED a_LOCALIZED a_DATE a_STRING a_DECIMAL) : (Jvm.Cond.fieldLink "com/example/tenure/tenure/Attribute" (13 : Nat) "com/example/tenure/tenure/Attribute" "type" "Lcom/example/tenure/tenure/AttributeType;").before a0 Z = true := V.1 _ (List.mem_of_getElem? (i := 44) rfl)
theorem wd45 {Z : State} {a0 : Array Value} {n0 : Nat} {z_COMPACT_STRINGS : Int32} {z_SIOOBE_FORMATTER : Value} {a_PLAIN : Addr} {a_DATED : Addr} {a_DATED_LOCALIZED : Addr} {a_LOCALIZED : Addr} {a_DATE : Addr} {a_STRING : Addr} {a_DECIMAL : Addr} (V : Env1 Z a0 n0 z_COMPACT_STRINGS z_SIOOBE_FORMATTER a_PLAIN a_DATED a_DATED_LOCALIZED a_LOCALIZED a_DATE a_STRING a_DECIMAL) : (Jvm.Cond.laysFinal "com/example/tenure/tenure/Attribute" "com/example/tenure/tenure/Attribute" "type" "Lcom/example/tenure/tenure/AttributeType;").before a0 Z = true := V.1 _ (List.mem_of_getElem? (i := 45) rfl)
theorem wd46 {Z : State} {a0 : Array Value} {n0 : Nat} {z_COMPACT_STRINGS : Int32} {z_SIOOBE_FORMATTER : Value} {a_PLAIN : Addr} {a_DATED : Addr} {a_DATED_LOCALIZED : Addr} {a_LOCALIZED : Addr} {a_DATE : Addr} {a_STRING : Addr} {a_DECIMAL : Addr} (V : Env1 Z a0 n0 z_COMPACT_STRINGS z_SIOOBE_FORMATTER a_PLAIN a_DATED a_DATED_LOCALIZED a_LOCALIZED a_DATE a_STRING a_DECIMAL) : (Jvm.Cond.fieldLink "com/example/tenure/tenure/Attribute" (17 : Nat) "com/example/tenure/tenure/Attribute" "dated" "Z").before a0 Z = true := V.1 _ (List.mem_of_getElem? (i := 46) rfl)
theorem wd47 {Z : State} {a0 : Array Value} {n0 : Nat} {z_COMPACT_STRINGS : Int32} {z_SIOOBE_FORMATTER : Value} {a_PLAIN : Addr} {a_DATED : Addr} {a_DATED_LOCALIZED : Addr} {a_LOCALIZED : Addr} {a_DATE : Addr} {a_STRING : Addr} {a_DECIMAL : Addr} (V : Env1 Z a0 n0 z_COMPACT_STRINGS z_SIOOBE_FORMATTER a_PLAIN a_DATED a_DATED_LOCALIZED a_LOCALIZED a_DATE a_STRING a_DECIMAL) : (Jvm.Cond.laysFinal "com/example/tenure/tenure/Attribute" "com/example/tenure/tenure/Attribute" "dated" "Z").before a0 Z = true := V.1 _ (List.mem_of_getElem? (i := 47) rfl)
theorem wd48 {Z : State} {a0 : Array Value} {n0 : Nat} {z_COMPACT_STRINGS : Int32} {z_SIOOBE_FORMATTER : Value} {a_PLAIN : Addr} {a_DATED : Addr} {a_DATED_LOCALIZED : Addr} {a_LOCALIZED : Addr} {a_DATE : Addr} {a_STRING : Addr} {a_DECIMAL : Addr} (V : Env1 Z a0 n0 z_COMPACT_STRINGS z_SIOOBE_FORMATTER a_PLAIN a_DATED a_DATED_LOCALIZED a_LOCALIZED a_DATE a_STRING a_DECIMAL) : (Jvm.Cond.fieldLink "com/example/tenure/tenure/Attribute" (21 : Nat) "com/example/tenure/tenure/Attribute" "localized" "Z").before a0 Z = true := V.1 _ (List.mem_of_getElem? (i := 48) rfl)
theorem wd49 {Z : State} {a0 : Array Value} {n0 : Nat} {z_COMPACT_STRINGS : Int32} {z_SIOOBE_FORMATTER : Value} {a_PLAIN : Addr} {a_DATED : Addr} {a_DATED_LOCALIZED : Addr} {a_LOCALIZED : Addr} {a_DATE : Addr} {a_STRING : Addr} {a_DECIMAL : Addr} (V : Env1 Z a0 n0 z_COMPACT_STRINGS z_SIOOBE_FORMATTER a_PLAIN a_DATED a_DATED_LOCALIZED a_LOCALIZED a_DATE a_STRING a_DECIMAL) : (Jvm.Cond.laysFinal "com/example/tenure/tenure/Attribute" "com/example/tenure/tenure/Attribute" "localized" "Z").before a0 Z = true := V.1 _ (List.mem_of_getElem? (i := 49) rfl)
theorem wd50 {Z : State} {a0 : Array Value} {n0 : Nat} {z_COMPACT_STRINGS : Int32} {z_SIOOBE_FORMATTER : Value} {a_PLAIN : Addr} {a_DATED : Addr} {a_DATED_LOCALIZED : Addr} {a_LOCALIZED : Addr} {a_DATE : Addr} {a_STRING : Addr} {a_DECIMAL : Addr} (V : Env1 Z a0 n0 z_COMPACT_STRINGS z_SIOOBE_FORMATTER a_PLAIN a_DATED a_DATED_LOCALIZED a_LOCALIZED a_DATE a_STRING a_DECIMAL) : (Jvm.Cond.methodLink "com/example/tenure/tenure/AttributeKindPinLaw" (29 : Nat) ({ cls := "com/example/tenure/tenure/Attribute", name := "kind", desc := "()Lcom/example/tenure/tenure/Attribute$Kind;" } : Jvm.MethodName)).before a0 Z = true := V.1 _ (List.mem_of_getElem? (i := 50) rfl)
theorem wd51 {Z : State} {a0 : Array Value} {n0 : Nat} {z_COMPACT_STRINGS : Int32} {z_SIOOBE_FORMATTER : Value} {a_PLAIN : Addr} {a_DATED : Addr} {a_DATED_LOCALIZED : Addr} {a_LOCALIZED : Addr} {a_DATE : Addr} {a_STRING : Addr} {a_DECIMAL : Addr} (V : Env1 Z a0 n0 z_COMPACT_STRINGS z_SIOOBE_FORMATTER a_PLAIN a_DATED a_DATED_LOCALIZED a_LOCALIZED a_DATE a_STRING a_DECIMAL) : (Jvm.Cond.declares ({ cls := "com/example/tenure/tenure/Attribute", name := "kind", desc := "()Lcom/example/tenure/tenure/Attribute$Kind;" } : Jvm.MethodName)).before a0 Z = true := V.1 _ (List.mem_of_getElem? (i := 51) rfl)
theorem wd52 {Z : State} {a0 : Array Value} {n0 : Nat} {z_COMPACT_STRINGS : Int32} {z_SIOOBE_FORMATTER : Value} {a_PLAIN : Addr} {a_DATED : Addr} {a_DATED_LOCALIZED : Addr} {a_LOCALIZED : Addr} {a_DATE : Addr} {a_STRING : Addr} {a_DECIMAL : Addr} (V : Env1 Z a0 n0 z_COMPACT_STRINGS z_SIOOBE_FORMATTER a_PLAIN a_DATED a_DATED_LOCALIZED a_LOCALIZED a_DATE a_STRING a_DECIMAL) : (Jvm.Cond.instanceMethod ({ cls := "com/example/tenure/tenure/Attribute", name := "kind", desc := "()Lcom/example/tenure/tenure/Attribute$Kind;" } : Jvm.MethodName)).before a0 Z = true := V.1 _ (List.mem_of_getElem? (i := 52) rfl)
theorem wd53 {Z : State} {a0 : Array Value} {n0 : Nat} {z_COMPACT_STRINGS : Int32} {z_SIOOBE_FORMATTER : Value} {a_PLAIN : Addr} {a_DATED : Addr} {a_DATED_LOCALIZED : Addr} {a_LOCALIZED : Addr} {a_DATE : Addr} {a_STRING : Addr} {a_DECIMAL : Addr} (V : Env1 Z a0 n0 z_COMPACT_STRINGS z_SIOOBE_FORMATTER a_PLAIN a_DATED a_DATED_LOCALIZED a_LOCALIZED a_DATE a_STRING a_DECIMAL) : (Jvm.Cond.selects "com/example/tenure/tenure/Attribute" ({ cls := "com/example/tenure/tenure/Attribute", name := "kind", desc := "()Lcom/example/tenure/tenure/Attribute$Kind;" } : Jvm.MethodName) ({ cls := "com/example/tenure/tenure/Attribute", name := "kind", desc := "()Lcom/example/tenure/tenure/Attribute$Kind;" } : Jvm.MethodName)).before a0 Z = true := V.1 _ (List.mem_of_getElem? (i := 53) rfl)
theorem wd54 {Z : State} {a0 : Array Value} {n0 : Nat} {z_COMPACT_STRINGS : Int32} {z_SIOOBE_FORMATTER : Value} {a_PLAIN : Addr} {a_DATED : Addr} {a_DATED_LOCALIZED : Addr} {a_LOCALIZED : Addr} {a_DATE : Addr} {a_STRING : Addr} {a_DECIMAL : Addr} (V : Env1 Z a0 n0 z_COMPACT_STRINGS z_SIOOBE_FORMATTER a_PLAIN a_DATED a_DATED_LOCALIZED a_LOCALIZED a_DATE a_STRING a_DECIMAL) : (Jvm.Cond.code ({ cls := "com/example/tenure/tenure/Attribute", name := "kind", desc := "()Lcom/example/tenure/tenure/Attribute$Kind;" } : Jvm.MethodName) prog_3_method_2_code (1 : Nat) (Option.some (Jvm.ClassFile.FieldType.object "com/example/tenure/tenure/Attribute$Kind"))).before a0 Z = true := V.1 _ (List.mem_of_getElem? (i := 54) rfl)
theorem wd55 {Z : State} {a0 : Array Value} {n0 : Nat} {z_COMPACT_STRINGS : Int32} {z_SIOOBE_FORMATTER : Value} {a_PLAIN : Addr} {a_DATED : Addr} {a_DATED_LOCALIZED : Addr} {a_LOCALIZED : Addr} {a_DATE : Addr} {a_STRING : Addr} {a_DECIMAL : Addr} (V : Env1 Z a0 n0 z_COMPACT_STRINGS z_SIOOBE_FORMATTER a_PLAIN a_DATED a_DATED_LOCALIZED a_LOCALIZED a_DATE a_STRING a_DECIMAL) : (Jvm.Cond.fieldLink "com/example/tenure/tenure/Attribute" (36 : Nat) "com/example/tenure/tenure/Attribute$Kind" "PLAIN" "Lcom/example/tenure/tenure/Attribute$Kind;").before a0 Z = true := V.1 _ (List.mem_of_getElem? (i := 55) rfl)
theorem wd58 {Z : State} {a0 : Array Value} {n0 : Nat} {z_COMPACT_STRINGS : Int32} {z_SIOOBE_FORMATTER : Value} {a_PLAIN : Addr} {a_DATED : Addr} {a_DATED_LOCALIZED : Addr} {a_LOCALIZED : Addr} {a_DATE : Addr} {a_STRING : Addr} {a_DECIMAL : Addr} (V : Env1 Z a0 n0 z_COMPACT_STRINGS z_SIOOBE_FORMATTER a_PLAIN a_DATED a_DATED_LOCALIZED a_LOCALIZED a_DATE a_STRING a_DECIMAL) : (Jvm.Cond.fieldLink "com/example/tenure/tenure/AttributeKindPinLaw" (33 : Nat) "com/example/tenure/tenure/Attribute$Kind" "DATED" "Lcom/example/tenure/tenure/Attribute$Kind;").before a0 Z = true := V.1 _ (List.mem_of_getElem? (i := 58) rfl)
theorem wd60 {Z : State} {a0 : Array Value} {n0 : Nat} {z_COMPACT_STRINGS : Int32} {z_SIOOBE_FORMATTER : Value} {a_PLAIN : Addr} {a_DATED : Addr} {a_DATED_LOCALIZED : Addr} {a_LOCALIZED : Addr} {a_DATE : Addr} {a_STRING : Addr} {a_DECIMAL : Addr} (V : Env1 Z a0 n0 z_COMPACT_STRINGS z_SIOOBE_FORMATTER a_PLAIN a_DATED a_DATED_LOCALIZED a_LOCALIZED a_DATE a_STRING a_DECIMAL) : (Jvm.Cond.fieldLink "com/example/tenure/tenure/AttributeKindPinLaw" (39 : Nat) "com/example/tenure/tenure/Attribute$Kind" "DATED_LOCALIZED" "Lcom/example/tenure/tenure/Attribute$Kind;").before a0 Z = true := V.1 _ (List.mem_of_getElem? (i := 60) rfl)
theorem wd62 {Z : State} {a0 : Array Value} {n0 : Nat} {z_COMPACT_STRINGS : Int32} {z_SIOOBE_FORMATTER : Value} {a_PLAIN : Addr} {a_DATED : Addr} {a_DATED_LOCALIZED : Addr} {a_LOCALIZED : Addr} {a_DATE : Addr} {a_STRING : Addr} {a_DECIMAL : Addr} (V : Env1 Z a0 n0 z_COMPACT_STRINGS z_SIOOBE_FORMATTER a_PLAIN a_DATED a_DATED_LOCALIZED a_LOCALIZED a_DATE a_STRING a_DECIMAL) : (Jvm.Cond.fieldLink "com/example/tenure/tenure/AttributeKindPinLaw" (42 : Nat) "com/example/tenure/tenure/Attribute$Kind" "LOCALIZED" "Lcom/example/tenure/tenure/Attribute$Kind;").before a0 Z = true := V.1 _ (List.mem_of_getElem? (i := 62) rfl)
theorem wd64 {Z : State} {a0 : Array Value} {n0 : Nat} {z_COMPACT_STRINGS : Int32} {z_SIOOBE_FORMATTER : Value} {a_PLAIN : Addr} {a_DATED : Addr} {a_DATED_LOCALIZED : Addr} {a_LOCALIZED : Addr} {a_DATE : Addr} {a_STRING : Addr} {a_DECIMAL : Addr} (V : Env1 Z a0 n0 z_COMPACT_STRINGS z_SIOOBE_FORMATTER a_PLAIN a_DATED a_DATED_LOCALIZED a_LOCALIZED a_DATE a_STRING a_DECIMAL) : (Jvm.Cond.fieldLink "com/example/tenure/tenure/Attribute" (24 : Nat) "com/example/tenure/tenure/Attribute$Kind" "DATED_LOCALIZED" "Lcom/example/tenure/tenure/Attribute$Kind;").before a0 Z = true := V.1 _ (List.mem_of_getElem? (i := 64) rfl)
theorem wd65 {Z : State} {a0 : Array Value} {n0 : Nat} {z_COMPACT_STRINGS : Int32} {z_SIOOBE_FORMATTER : Value} {a_PLAIN : Addr} {a_DATED : Addr} {a_DATED_LOCALIZED : Addr} {a_LOCALIZED : Addr} {a_DATE : Addr} {a_STRING : Addr} {a_DECIMAL : Addr} (V : Env1 Z a0 n0 z_COMPACT_STRINGS z_SIOOBE_FORMATTER a_PLAIN a_DATED a_DATED_LOCALIZED a_LOCALIZED a_DATE a_STRING a_DECIMAL) : (Jvm.Cond.fieldLink "com/example/tenure/tenure/AttributeKindPinLaw" (16 : Nat) "com/example/tenure/tenure/AttributeType" "DATE" "Lcom/example/tenure/tenure/AttributeType;").before a0 Z = true := V.1 _ (List.mem_of_getElem? (i := 65) rfl)
theorem wd68 {Z : State} {a0 : Array Value} {n0 : Nat} {z_COMPACT_STRINGS : Int32} {z_SIOOBE_FORMATTER : Value} {a_PLAIN : Addr} {a_DATED : Addr} {a_DATED_LOCALIZED : Addr} {a_LOCALIZED : Addr} {a_DATE : Addr} {a_STRING : Addr} {a_DECIMAL : Addr} (V : Env1 Z a0 n0 z_COMPACT_STRINGS z_SIOOBE_FORMATTER a_PLAIN a_DATED a_DATED_LOCALIZED a_LOCALIZED a_DATE a_STRING a_DECIMAL) : (Jvm.Cond.fieldLink "com/example/tenure/tenure/Attribute" (30 : Nat) "com/example/tenure/tenure/Attribute$Kind" "LOCALIZED" "Lcom/example/tenure/tenure/Attribute$Kind;").before a0 Z = true := V.1 _ (List.mem_of_getElem? (i := 68) rfl)
theorem wd69 {Z : State} {a0 : Array Value} {n0 : Nat} {z_COMPACT_STRINGS : Int32} {z_SIOOBE_FORMATTER : Value} {a_PLAIN : Addr} {a_DATED : Addr} {a_DATED_LOCALIZED : Addr} {a_LOCALIZED : Addr} {a_DATE : Addr} {a_STRING : Addr} {a_DECIMAL : Addr} (V : Env1 Z a0 n0 z_COMPACT_STRINGS z_SIOOBE_FORMATTER a_PLAIN a_DATED a_DATED_LOCALIZED a_LOCALIZED a_DATE a_STRING a_DECIMAL) : (Jvm.Cond.fieldLink "com/example/tenure/tenure/AttributeKindPinLaw" (7 : Nat) "com/example/tenure/tenure/AttributeType" "STRING" "Lcom/example/tenure/tenure/AttributeType;").before a0 Z = true := V.1 _ (List.mem_of_getElem? (i := 69) rfl)
theorem wd71 {Z : State} {a0 : Array Value} {n0 : Nat} {z_COMPACT_STRINGS : Int32} {z_SIOOBE_FORMATTER : Value} {a_PLAIN : Addr} {a_DATED : Addr} {a_DATED_LOCALIZED : Addr} {a_LOCALIZED : Addr} {a_DATE : Addr} {a_STRING : Addr} {a_DECIMAL : Addr} (V : Env1 Z a0 n0 z_COMPACT_STRINGS z_SIOOBE_FORMATTER a_PLAIN a_DATED a_DATED_LOCALIZED a_LOCALIZED a_DATE a_STRING a_DECIMAL) : (Jvm.Cond.fieldLink "com/example/tenure/tenure/Attribute" (33 : Nat) "com/example/tenure/tenure/Attribute$Kind" "DATED" "Lcom/example/tenure/tenure/Attribute$Kind;").before a0 Z = true := V.1 _ (List.mem_of_getElem? (i := 71) rfl)
theorem wd72 {Z : State} {a0 : Array Value} {n0 : Nat} {z_COMPACT_STRINGS : Int32} {z_SIOOBE_FORMATTER : Value} {a_PLAIN : Addr} {a_DATED : Addr} {a_DATED_LOCALIZED : Addr} {a_LOCALIZED : Addr} {a_DATE : Addr} {a_STRING : Addr} {a_DECIMAL : Addr} (V : Env1 Z a0 n0 z_COMPACT_STRINGS z_SIOOBE_FORMATTER a_PLAIN a_DATED a_DATED_LOCALIZED a_LOCALIZED a_DATE a_STRING a_DECIMAL) : (Jvm.Cond.fieldLink "com/example/tenure/tenure/AttributeKindPinLaw" (13 : Nat) "com/example/tenure/tenure/AttributeType" "DECIMAL" "Lcom/example/tenure/tenure/AttributeType;").before a0 Z = true := V.1 _ (List.mem_of_getElem? (i := 72) rfl)
theorem pd_0 : parseMethodDescriptor "()V" = some ⟨[], none⟩ := by decide +kernel
theorem pd_1 : parseMethodDescriptor "(Ljava/lang/String;Lcom/example/tenure/tenure/AttributeType;ZZ)V" = some ⟨[(.object "java/lang/String"), (.object "com/example/tenure/tenure/AttributeType"), .boolean, .boolean], none⟩ := by decide +kernel
theorem pd_2 : parseMethodDescriptor "()Lcom/example/tenure/tenure/Attribute$Kind;" = some ⟨[], (some (.object "com/example/tenure/tenure/Attribute$Kind"))⟩ := by decide +kernel
set_option maxRecDepth 65536 in
theorem strw {Z : State} {a0 : Array Value} {n0 : Nat} {z_COMPACT_STRINGS : Int32} {z_SIOOBE_FORMATTER : Value} {a_PLAIN : Addr} {a_DATED : Addr} {a_DATED_LOCALIZED : Addr} {a_LOCALIZED : Addr} {a_DATE : Addr} {a_STRING : Addr} {a_DECIMAL : Addr} (V : Env1 Z a0 n0 z_COMPACT_STRINGS z_SIOOBE_FORMATTER a_PLAIN a_DATED a_DATED_LOCALIZED a_LOCALIZED a_DATE a_STRING a_DECIMAL) : ∀ d ∈ StrChars.Road.words, d.before a0 Z = true := fun d hd => V.1 d ((by decide +kernel : ∀ d ∈ StrChars.Road.words, d ∈ tables_1) d hd)
theorem dc_prog_3_method_1_code_0 : decode prog_3_method_1_code 0 = .ok (.aload_n 0, 1) := by decide +kernel
theorem dc_prog_3_method_1_code_1 : decode prog_3_method_1_code 1 = .ok (.invokespecial 1, 3) := by decide +kernel
theorem dc_jdk_30_method_1_code_0 : decode jdk_30_method_1_code 0 = .ok (.aload_n 0, 1) := by decide +kernel
theorem dc_jdk_30_method_1_code_1 : decode jdk_30_method_1_code 1 = .ok (.invokespecial 1, 3) := by decide +kernel
theorem dc_jdk_30_method_1_code_4 : decode jdk_30_method_1_code 4 = .ok (.return_, 1) := by decide +kernel
theorem dc_prog_3_method_1_code_4 : decode prog_3_method_1_code 4 = .ok (.aload_n 0, 1) := by decide +kernel
theorem dc_prog_3_method_1_code_5 : decode prog_3_method_1_code 5 = .ok (.aload_n 1, 1) := by decide +kernel
theorem dc_prog_3_method_1_code_6 : decode prog_3_method_1_code 6 = .ok (.putfield 7, 3) := by decide +kernel
theorem dc_prog_3_method_1_code_9 : decode prog_3_method_1_code 9 = .ok (.aload_n 0, 1) := by decide +kernel
theorem dc_prog_3_method_1_code_10 : decode prog_3_method_1_code 10 = .ok (.aload_n 2, 1) := by decide +kernel
theorem dc_prog_3_method_1_code_11 : decode prog_3_method_1_code 11 = .ok (.putfield 13, 3) := by decide +kernel
theorem dc_prog_3_method_1_code_14 : decode prog_3_method_1_code 14 = .ok (.aload_n 0, 1) := by decide +kernel
theorem dc_prog_3_method_1_code_15 : decode prog_3_method_1_code 15 = .ok (.iload_n 3, 1) := by decide +kernel
theorem dc_prog_3_method_1_code_16 : decode prog_3_method_1_code 16 = .ok (.putfield 17, 3) := by decide +kernel
theorem dc_prog_3_method_1_code_19 : decode prog_3_method_1_code 19 = .ok (.aload_n 0, 1) := by decide +kernel
theorem dc_prog_3_method_1_code_20 : decode prog_3_method_1_code 20 = .ok (.iload 4, 2) := by decide +kernel
theorem dc_prog_3_method_1_code_22 : decode prog_3_method_1_code 22 = .ok (.putfield 21, 3) := by decide +kernel
theorem dc_prog_3_method_1_code_25 : decode prog_3_method_1_code 25 = .ok (.return_, 1) := by decide +kernel
theorem dc_prog_3_method_2_code_0 : decode prog_3_method_2_code 0 = .ok (.aload_n 0, 1) := by decide +kernel
theorem dc_prog_3_method_2_code_1 : decode prog_3_method_2_code 1 = .ok (.getfield 21, 3) := by decide +kernel
theorem dc_prog_3_method_2_code_4 : decode prog_3_method_2_code 4 = .ok (.ifCond .eq 20, 3) := by decide +kernel
theorem dc_prog_3_method_2_code_24 : decode prog_3_method_2_code 24 = .ok (.aload_n 0, 1) := by decide +kernel
theorem dc_prog_3_method_2_code_25 : decode prog_3_method_2_code 25 = .ok (.getfield 17, 3) := by decide +kernel
theorem dc_prog_3_method_2_code_28 : decode prog_3_method_2_code 28 = .ok (.ifCond .eq 9, 3) := by decide +kernel
theorem dc_prog_3_method_2_code_37 : decode prog_3_method_2_code 37 = .ok (.getstatic 36, 3) := by decide +kernel
theorem dc_prog_3_method_2_code_40 : decode prog_3_method_2_code 40 = .ok (.areturn, 1) := by decide +kernel
theorem dc_prog_3_method_2_code_7 : decode prog_3_method_2_code 7 = .ok (.aload_n 0, 1) := by decide +kernel
theorem dc_prog_3_method_2_code_8 : decode prog_3_method_2_code 8 = .ok (.getfield 17, 3) := by decide +kernel
theorem dc_prog_3_method_2_code_11 : decode prog_3_method_2_code 11 = .ok (.ifCond .eq 9, 3) := by decide +kernel
theorem dc_prog_3_method_2_code_20 : decode prog_3_method_2_code 20 = .ok (.getstatic 30, 3) := by decide +kernel
theorem dc_prog_3_method_2_code_23 : decode prog_3_method_2_code 23 = .ok (.areturn, 1) := by decide +kernel
theorem dc_prog_3_method_2_code_31 : decode prog_3_method_2_code 31 = .ok (.getstatic 33, 3) := by decide +kernel
theorem dc_prog_3_method_2_code_34 : decode prog_3_method_2_code 34 = .ok (.goto 6, 3) := by decide +kernel
theorem dc_prog_3_method_2_code_14 : decode prog_3_method_2_code 14 = .ok (.getstatic 24, 3) := by decide +kernel
theorem dc_prog_3_method_2_code_17 : decode prog_3_method_2_code 17 = .ok (.goto 6, 3) := by decide +kernel
set_option maxRecDepth 65536 in
set_option maxHeartbeats 40000000 in
theorem m1_init {l : Launch} {Z : State} {a0 : Array Value} {n0 : Nat} {z_COMPACT_STRINGS : Int32} {z_SIOOBE_FORMATTER : Value} {a_PLAIN : Addr} {a_DATED : Addr} {a_DATED_LOCALIZED : Addr} {a_LOCALIZED : Addr} {a_DATE : Addr} {a_STRING : Addr} {a_DECIMAL : Addr} (V : Env1 Z a0 n0 z_COMPACT_STRINGS z_SIOOBE_FORMATTER a_PLAIN a_DATED a_DATED_LOCALIZED a_LOCALIZED a_DATE a_STRING a_DECIMAL) (p0 : Addr) (h0 : Heap) (hO : Old Z n0 h0)  :
    Met Z a0 [] False n0 l (⟨"java/lang/Record", "<init>", "()V"⟩ : MethodName) jdk_30_method_1_code 1 (Option.none : Option FieldType) ({ frames := 1, cells := 0, slots := 0, locals := 12 } : Room) #[(.ref p0)] h0 [] (fun v h so => (v = none ∧ so = [] ∧ h0 = h)) := by
  refine Met.of (EWl V) (by first | decide +kernel | rfl) hO (L0 := #[.val (.ref p0)]) rfl ?_
  intro p e s m below meth c T H
  show Go p e below _ (T.setTop (mkF m 0 #[.val (.ref p0)] []))
  refine G.aloadN H dc_jdk_30_method_1_code_0 (pc' := 1) rfl rfl rfl ?_
  refine G.initO H (wd41 V) (wd12 V) (wd13 V) rfl dc_jdk_30_method_1_code_1 (pc' := 4) rfl (by decide) (W := 0) rfl (by decide) ?_
  intro T1 H2
  exact G.retV H2 rfl dc_jdk_30_method_1_code_4 (so := []) all0 (by decide) (by decide) ⟨rfl, rfl, rfl⟩
set_option maxRecDepth 65536 in
set_option maxHeartbeats 40000000 in
theorem m2_init {l : Launch} {Z : State} {a0 : Array Value} {n0 : Nat} {z_COMPACT_STRINGS : Int32} {z_SIOOBE_FORMATTER : Value} {a_PLAIN : Addr} {a_DATED : Addr} {a_DATED_LOCALIZED : Addr} {a_LOCALIZED : Addr} {a_DATE : Addr} {a_STRING : Addr} {a_DECIMAL : Addr} (V : Env1 Z a0 n0 z_COMPACT_STRINGS z_SIOOBE_FORMATTER a_PLAIN a_DATED a_DATED_LOCALIZED a_LOCALIZED a_DATE a_STRING a_DECIMAL) (p0 : Addr) (p1 : Addr) (v0 : Value) (h0 : Heap) (hO : Old Z n0 h0) (isRef_v0 : v0.isRef = true) (f1 : Exa Z h0 p0 "com/example/tenure/tenure/Attribute") (f2 : Fld Z h0 p0 "com/example/tenure/tenure/Attribute" "name" "Ljava/lang/String;" .null) (g3 : n0 ≤ p0) (f4 : Fld Z h0 p0 "com/example/tenure/tenure/Attribute" "type" "Lcom/example/tenure/tenure/AttributeType;" .null) (f5 : Fld Z h0 p0 "com/example/tenure/tenure/Attribute" "dated" "Z" (.int (0 : Int32))) (f6 : Fld Z h0 p0 "com/example/tenure/tenure/Attribute" "localized" "Z" (.int (0 : Int32))) :
    Met Z a0 [] False n0 l (⟨"com/example/tenure/tenure/Attribute", "<init>", "(Ljava/lang/String;Lcom/example/tenure/tenure/AttributeType;ZZ)V"⟩ : MethodName) prog_3_method_1_code 5 (Option.none : Option FieldType) ({ frames := 2, cells := 0, slots := 0, locals := 24 } : Room) #[(.ref p0), (.ref p1), v0, (.int (0 : Int32)), (.int (0 : Int32))] h0 [] (fun v h so => (v = none ∧ so = [] ∧ Keep h0 h [p0] ∧ Exa Z h p0 "com/example/tenure/tenure/Attribute" ∧ Fld Z h p0 "com/example/tenure/tenure/Attribute" "name" "Ljava/lang/String;" (.ref p1) ∧ Fld Z h p0 "com/example/tenure/tenure/Attribute" "type" "Lcom/example/tenure/tenure/AttributeType;" v0 ∧ Fld Z h p0 "com/example/tenure/tenure/Attribute" "dated" "Z" (.int (0 : Int32)) ∧ Fld Z h p0 "com/example/tenure/tenure/Attribute" "localized" "Z" (.int (0 : Int32)))) := by
  refine Met.of (EWl V) (by first | decide +kernel | rfl) hO (L0 := #[.val (.ref p0), .val (.ref p1), .val v0, .val (.int (0 : Int32)), .val (.int (0 : Int32))]) (by rcases XT.refc isRef_v0 with rfl | ⟨_, rfl⟩ <;> rfl) ?_
  intro p e s m below meth c T H
  show Go p e below _ (T.setTop (mkF m 0 #[.val (.ref p0), .val (.ref p1), .val v0, .val (.int (0 : Int32)), .val (.int (0 : Int32))] []))
  refine G.aloadN H dc_prog_3_method_1_code_0 (pc' := 1) rfl rfl rfl ?_
  refine G.callI H (m1_init V p0 h0 H.old) rfl (wd36 V) (wd37 V) (wd39 V) (wd40 V) (by decide) (a := p0) (argsL := []) (rest := []) (W := 0) rfl rfl (lenOf (pd_0) rfl) rfl rfl dc_prog_3_method_1_code_1 (pc' := 4) rfl (by decide) (by decide) (by decide) (by decide) all0 ?_
  intro T1 h1_ v2 s3 H1 Q4
  obtain ⟨rfl, rfl, rfl⟩ := Q4
  show Go p e below _ (T1.setTop (mkF m 4 #[.val (.ref p0), .val (.ref p1), .val v0, .val (.int (0 : Int32)), .val (.int (0 : Int32))] []))
  refine G.aloadN H1 dc_prog_3_method_1_code_4 (pc' := 5) rfl rfl rfl ?_
  refine G.aloadN H1 dc_prog_3_method_1_code_5 (pc' := 6) rfl rfl rfl ?_
  refine G.putF H1 (wd42 V) Via.refl f2 f1 (Or.inr ⟨(wd43 V), rfl, rfl⟩) (wd31 V) (ty := (.object "java/lang/String")) (by decide) rfl rfl g3 (Sf.exa f1) dc_prog_3_method_1_code_6 (pc' := 9) rfl ?_
  intro T5 h5_ H5 W6
  have F7 : Fld Z h5_ p0 "com/example/tenure/tenure/Attribute" "name" "Ljava/lang/String;" (.ref p1) := Fld.same W6 f2
  show Go p e below _ (T5.setTop (mkF m 9 #[.val (.ref p0), .val (.ref p1), .val v0, .val (.int (0 : Int32)), .val (.int (0 : Int32))] []))
  refine G.aloadN H5 dc_prog_3_method_1_code_9 (pc' := 10) rfl rfl rfl ?_
  refine G.aloadN H5 dc_prog_3_method_1_code_10 (pc' := 11) rfl rfl isRef_v0 ?_
  have F8 : Exa Z h5_ p0 "com/example/tenure/tenure/Attribute" := (Exa.wr W6 f1)
  have F9 : Fld Z h5_ p0 "com/example/tenure/tenure/Attribute" "type" "Lcom/example/tenure/tenure/AttributeType;" .null := (Fld.other W6 f4 (Or.inr (slot_ne (Or.inr (wd45 V)) (Or.inr (wd43 V)) (by decide) (t := (.object "com/example/tenure/tenure/AttributeType")) (t' := (.object "java/lang/String")) (by decide) (by decide))))
  refine G.putF H5 (wd44 V) Via.refl F9 F8 (Or.inr ⟨(wd45 V), rfl, rfl⟩) (wd31 V) (ty := (.object "com/example/tenure/tenure/AttributeType")) (by decide) (own_pnA isRef_v0 rfl) (own_pfA isRef_v0 rfl) g3 (Sf.exa F8) dc_prog_3_method_1_code_11 (pc' := 14) rfl ?_
  intro T10 h10_ H10 W11
  have F12 : Fld Z h10_ p0 "com/example/tenure/tenure/Attribute" "type" "Lcom/example/tenure/tenure/AttributeType;" v0 := Fld.same W11 F9
  show Go p e below _ (T10.setTop (mkF m 14 #[.val (.ref p0), .val (.ref p1), .val v0, .val (.int (0 : Int32)), .val (.int (0 : Int32))] []))
  refine G.aloadN H10 dc_prog_3_method_1_code_14 (pc' := 15) rfl rfl rfl ?_
  refine G.iloadN H10 dc_prog_3_method_1_code_15 (pc' := 16) rfl rfl ?_
  have F13 : Exa Z h10_ p0 "com/example/tenure/tenure/Attribute" := (Exa.wr W11 F8)
  have F14 : Fld Z h10_ p0 "com/example/tenure/tenure/Attribute" "dated" "Z" (.int (0 : Int32)) := (Fld.other W11 (Fld.other W6 f5 (Or.inr (slot_ne (Or.inr (wd47 V)) (Or.inr (wd43 V)) (by decide) (t := .boolean) (t' := (.object "java/lang/String")) (by decide) (by decide)))) (Or.inr (slot_ne (Or.inr (wd47 V)) (Or.inr (wd45 V)) (by decide) (t := .boolean) (t' := (.object "com/example/tenure/tenure/AttributeType")) (by decide) (by decide))))
  refine G.putF H10 (wd46 V) Via.refl F14 F13 (Or.inr ⟨(wd47 V), rfl, rfl⟩) (wd31 V) (ty := .boolean) (by decide) rfl rfl g3 (Sf.exa F13) dc_prog_3_method_1_code_16 (pc' := 19) rfl ?_
  intro T15 h15_ H15 W16
  have F17 : Fld Z h15_ p0 "com/example/tenure/tenure/Attribute" "dated" "Z" (.int (0 : Int32)) := Fld.same W16 F14
  show Go p e below _ (T15.setTop (mkF m 19 #[.val (.ref p0), .val (.ref p1), .val v0, .val (.int (0 : Int32)), .val (.int (0 : Int32))] []))
  refine G.aloadN H15 dc_prog_3_method_1_code_19 (pc' := 20) rfl rfl rfl ?_
  refine G.iload H15 dc_prog_3_method_1_code_20 (pc' := 22) rfl rfl ?_
  have F18 : Exa Z h15_ p0 "com/example/tenure/tenure/Attribute" := (Exa.wr W16 F13)
  have F19 : Fld Z h15_ p0 "com/example/tenure/tenure/Attribute" "localized" "Z" (.int (0 : Int32)) := (Fld.other W16 (Fld.other W11 (Fld.other W6 f6 (Or.inr (slot_ne (Or.inr (wd49 V)) (Or.inr (wd43 V)) (by decide) (t := .boolean) (t' := (.object "java/lang/String")) (by decide) (by decide)))) (Or.inr (slot_ne (Or.inr (wd49 V)) (Or.inr (wd45 V)) (by decide) (t := .boolean) (t' := (.object "com/example/tenure/tenure/AttributeType")) (by decide) (by decide)))) (Or.inr (slot_ne (Or.inr (wd49 V)) (Or.inr (wd47 V)) (by decide) (t := .boolean) (t' := .boolean) (by decide) (by decide))))
  refine G.putF H15 (wd48 V) Via.refl F19 F18 (Or.inr ⟨(wd49 V), rfl, rfl⟩) (wd31 V) (ty := .boolean) (by decide) rfl rfl g3 (Sf.exa F18) dc_prog_3_method_1_code_22 (pc' := 25) rfl ?_
  intro T20 h20_ H20 W21
  have F22 : Fld Z h20_ p0 "com/example/tenure/tenure/Attribute" "localized" "Z" (.int (0 : Int32)) := Fld.same W21 F19
  show Go p e below _ (T20.setTop (mkF m 25 #[.val (.ref p0), .val (.ref p1), .val v0, .val (.int (0 : Int32)), .val (.int (0 : Int32))] []))
  have F23 : Exa Z h20_ p0 "com/example/tenure/tenure/Attribute" := (Exa.wr W21 F18)
  have F24 : Fld Z h20_ p0 "com/example/tenure/tenure/Attribute" "name" "Ljava/lang/String;" (.ref p1) := (Fld.other W21 (Fld.other W16 (Fld.other W11 F7 (Or.inr (slot_ne (Or.inr (wd43 V)) (Or.inr (wd45 V)) (by decide) (t := (.object "java/lang/String")) (t' := (.object "com/example/tenure/tenure/AttributeType")) (by decide) (by decide)))) (Or.inr (slot_ne (Or.inr (wd43 V)) (Or.inr (wd47 V)) (by decide) (t := (.object "java/lang/String")) (t' := .boolean) (by decide) (by decide)))) (Or.inr (slot_ne (Or.inr (wd43 V)) (Or.inr (wd49 V)) (by decide) (t := (.object "java/lang/String")) (t' := .boolean) (by decide) (by decide))))
  have F25 : Fld Z h20_ p0 "com/example/tenure/tenure/Attribute" "type" "Lcom/example/tenure/tenure/AttributeType;" v0 := (Fld.other W21 (Fld.other W16 F12 (Or.inr (slot_ne (Or.inr (wd45 V)) (Or.inr (wd47 V)) (by decide) (t := (.object "com/example/tenure/tenure/AttributeType")) (t' := .boolean) (by decide) (by decide)))) (Or.inr (slot_ne (Or.inr (wd45 V)) (Or.inr (wd49 V)) (by decide) (t := (.object "com/example/tenure/tenure/AttributeType")) (t' := .boolean) (by decide) (by decide))))
  have F26 : Fld Z h20_ p0 "com/example/tenure/tenure/Attribute" "dated" "Z" (.int (0 : Int32)) := (Fld.other W21 F17 (Or.inr (slot_ne (Or.inr (wd47 V)) (Or.inr (wd49 V)) (by decide) (t := .boolean) (t' := .boolean) (by decide) (by decide))))
  have K27 : Keep h0 h20_ [p0] := (Keep.wr (Keep.wr (Keep.wr (Keep.wr (Keep.refl h0 [p0]) W6 (Or.inl (List.mem_of_getElem? (i := 0) rfl))) W11 (Or.inl (List.mem_of_getElem? (i := 0) rfl))) W16 (Or.inl (List.mem_of_getElem? (i := 0) rfl))) W21 (Or.inl (List.mem_of_getElem? (i := 0) rfl)))
  exact G.retV H20 rfl dc_prog_3_method_1_code_25 (so := []) all0 (by decide) (by decide) ⟨rfl, rfl, K27, F23, F24, F25, F26, F22⟩
set_option maxRecDepth 65536 in
set_option maxHeartbeats 40000000 in
theorem m3_kind {l : Launch} {Z : State} {a0 : Array Value} {n0 : Nat} {z_COMPACT_STRINGS : Int32} {z_SIOOBE_FORMATTER : Value} {a_PLAIN : Addr} {a_DATED : Addr} {a_DATED_LOCALIZED : Addr} {a_LOCALIZED : Addr} {a_DATE : Addr} {a_STRING : Addr} {a_DECIMAL : Addr} (V : Env1 Z a0 n0 z_COMPACT_STRINGS z_SIOOBE_FORMATTER a_PLAIN a_DATED a_DATED_LOCALIZED a_LOCALIZED a_DATE a_STRING a_DECIMAL) (p0 : Addr) (h0 : Heap) (hO : Old Z n0 h0) (f0 : Fld Z h0 p0 "com/example/tenure/tenure/Attribute" "localized" "Z" (.int (0 : Int32))) (f1 : Fld Z h0 p0 "com/example/tenure/tenure/Attribute" "dated" "Z" (.int (0 : Int32))) :
    Met Z a0 [] False n0 l (⟨"com/example/tenure/tenure/Attribute", "kind", "()Lcom/example/tenure/tenure/Attribute$Kind;"⟩ : MethodName) prog_3_method_2_code 1 (Option.some (FieldType.object "com/example/tenure/tenure/Attribute$Kind")) ({ frames := 0, cells := 0, slots := 0, locals := 0 } : Room) #[(.ref p0)] h0 [] (fun v h so => (v = some (.ref a_PLAIN) ∧ so = [] ∧ h0 = h)) := by
  refine Met.of (EWl V) (by first | decide +kernel | rfl) hO (L0 := #[.val (.ref p0)]) rfl ?_
  intro p e s m below meth c T H
  show Go p e below _ (T.setTop (mkF m 0 #[.val (.ref p0)] []))
  refine G.aloadN H dc_prog_3_method_2_code_0 (pc' := 1) rfl rfl rfl ?_
  refine G.getF H (wd48 V) Via.refl f0 dc_prog_3_method_2_code_1 (pc' := 4) rfl ?_
  intro T1 H2
  refine G.ifYes H2 dc_prog_3_method_2_code_4 (by decide) (by decide) (pc' := 24) rfl ?_
  refine G.aloadN H2 dc_prog_3_method_2_code_24 (pc' := 25) rfl rfl rfl ?_
  refine G.getF H2 (wd46 V) Via.refl f1 dc_prog_3_method_2_code_25 (pc' := 28) rfl ?_
  intro T3 H4
  refine G.ifYes H4 dc_prog_3_method_2_code_28 (by decide) (by decide) (pc' := 37) rfl ?_
  refine G.getS H4 (wd55 V) Via.refl (Sta.ext H4.old.2 (S_a_PLAIN V)) dc_prog_3_method_2_code_37 (pc' := 40) rfl ?_
  intro T5 H6
  exact G.retA H6 (t := (.object "com/example/tenure/tenure/Attribute$Kind")) rfl rfl rfl dc_prog_3_method_2_code_40 (so := []) all0 (by decide) (by decide) ⟨rfl, rfl, rfl⟩
set_option maxRecDepth 65536 in
set_option maxHeartbeats 40000000 in
theorem cut4_67 {l : Launch} {Z : State} {a0 : Array Value} {n0 : Nat} {z_COMPACT_STRINGS : Int32} {z_SIOOBE_FORMATTER : Value} {a_PLAIN : Addr} {a_DATED : Addr} {a_DATED_LOCALIZED : Addr} {a_LOCALIZED : Addr} {a_DATE : Addr} {a_STRING : Addr} {a_DECIMAL : Addr} (V : Env1 Z a0 n0 z_COMPACT_STRINGS z_SIOOBE_FORMATTER a_PLAIN a_DATED a_DATED_LOCALIZED a_LOCALIZED a_DATE a_STRING a_DECIMAL) (x0 : Int32) (x1 : Int32) (x2 : Int32) (x3 : Int32) (x4 : Int32) (v0 : Value) {p : Program} {e : Env} {s : State} {m : MethodId} {as' : Array Value} {below : List Frame} {meth : Method} {c : Code} {T : State} {h0 : Heap} (H : Hs p l e room_1 s m as' below meth c Z a0 [] False x.cls n0 code maxLocals ret x.name T h0 0 0 []) (isRef_v0 : v0.isRef = true) :
    Go p e below (FinP s below Z [] False n0 room_1.cells room_1.slots (fun v h so => v = some (.int 1))) (T.setTop (mkF m 67 #[.val (.int x0), .val (.int x1), .val (.int x2), .val (.int x3), .val (.int (0 : Int32)), .val (.int (0 : Int32)), .val (.int x4), .unset, .unset, .unset, .unset, .unset, .unset] [v0])) := by
  refine G.astore H (L' := #[.val (.int x0), .val (.int x1), .val (.int x2), .val (.int x3), .val (.int (0 : Int32)), .val (.int (0 : Int32)), .val (.int x4), .val v0, .unset, .unset, .unset, .unset, .unset]) at_67 (pc' := 69) rfl isRef_v0 (XS.store1 rfl (by first | exact Or.inl rfl | exact Or.inr ⟨_, rfl, rfl⟩) (XT.cat1 isRef_v0)) ?_
  refine G.iconst H at_69 (pc' := 70) rfl (v := (2 : Int32)) rfl ?_
  refine G.newP H (aty := .char) (wd0 V) at_70 (pc' := 72) rfl (by decide) (cap := 2) (by decide) (by decide) (by decide) (by decide) (vs := [(.int (0 : Int32)), (.int (0 : Int32))]) rfl ?_
  intro T1 h1_ a2 k5 ga2 H1 E3 A4
  have na2 : n0 ≤ a2 := Nat.le_trans H.le (Nat.le_of_eq ga2.symm)
  replace A4 : Arv Z h1_ a2 k5 .char (2 : Int32) [(.int (0 : Int32)), (.int (0 : Int32))] (.int 0) := A4
  show Go p e below _ (T1.setTop (mkF m 72 #[.val (.int x0), .val (.int x1), .val (.int x2), .val (.int x3), .val (.int (0 : Int32)), .val (.int (0 : Int32)), .val (.int x4), .val v0, .unset, .unset, .unset, .unset, .unset] [(.ref a2)]))
  refine G.astore H1 (L' := #[.val (.int x0), .val (.int x1), .val (.int x2), .val (.int x3), .val (.int (0 : Int32)), .val (.int (0 : Int32)), .val (.int x4), .val v0, .val (.ref a2), .unset, .unset, .unset, .unset]) at_72 (pc' := 74) rfl rfl rfl ?_
  refine G.aload H1 at_74 (pc' := 76) rfl rfl rfl ?_
  refine G.iconst H1 at_76 (pc' := 77) rfl (v := (0 : Int32)) rfl ?_
  refine G.iloadN H1 at_77 (pc' := 78) rfl rfl ?_
  refine G.sipush H1 at_78 (pc' := 81) rfl (v := (255 : Int32)) rfl ?_
  refine G.iand H1 at_81 (pc' := 82) rfl ?_
  refine G.i2c H1 (y := (x2 &&& (255 : Int32))) at_82 (pc' := 83) rfl (own_c16 (own_u16 (own_and255 _))) ?_
  refine G.stC H1 A4 (by decide) (i := 0) rfl (Nat.le_of_ble_eq_true rfl) na2 (y := (x2 &&& (255 : Int32))) (own_narC (own_u16 (own_and255 _))) at_83 (pc' := 84) rfl ?_
  intro T6 h6_ H6 W7 A8
  replace A8 : Arv Z h6_ a2 k5 .char (2 : Int32) [(.int (x2 &&& (255 : Int32))), (.int (0 : Int32))] (.int 0) := A8
  show Go p e below _ (T6.setTop (mkF m 84 #[.val (.int x0), .val (.int x1), .val (.int x2), .val (.int x3), .val (.int (0 : Int32)), .val (.int (0 : Int32)), .val (.int x4), .val v0, .val (.ref a2), .unset, .unset, .unset, .unset] []))
  refine G.aload H6 at_84 (pc' := 86) rfl rfl rfl ?_
  refine G.iconst H6 at_86 (pc' := 87) rfl (v := (1 : Int32)) rfl ?_
  refine G.iloadN H6 at_87 (pc' := 88) rfl rfl ?_
  refine G.sipush H6 at_88 (pc' := 91) rfl (v := (255 : Int32)) rfl ?_
  refine G.iand H6 at_91 (pc' := 92) rfl ?_
  refine G.i2c H6 (y := (x3 &&& (255 : Int32))) at_92 (pc' := 93) rfl (own_c16 (own_u16 (own_and255 _))) ?_
  refine G.stC H6 A8 (by decide) (i := 1) rfl (Nat.le_of_ble_eq_true rfl) na2 (y := (x3 &&& (255 : Int32))) (own_narC (own_u16 (own_and255 _))) at_93 (pc' := 94) rfl ?_
  intro T9 h9_ H9 W10 A11
  replace A11 : Arv Z h9_ a2 k5 .char (2 : Int32) [(.int (x2 &&& (255 : Int32))), (.int (x3 &&& (255 : Int32)))] (.int 0) := A11
  show Go p e below _ (T9.setTop (mkF m 94 #[.val (.int x0), .val (.int x1), .val (.int x2), .val (.int x3), .val (.int (0 : Int32)), .val (.int (0 : Int32)), .val (.int x4), .val v0, .val (.ref a2), .unset, .unset, .unset, .unset] []))
  refine G.new H9 (wd1 V) (wd2 V) (wd3 V) at_94 (pc' := 97) rfl (by decide) (by decide) ?_
  intro T12 h12_ a13 ga13 H12 E14 A15 D16
  have na13 : n0 ≤ a13 := Nat.le_trans H9.le (Nat.le_of_eq ga13.symm)
  show Go p e below _ (T12.setTop (mkF m 97 #[.val (.int x0), .val (.int x1), .val (.int x2), .val (.int x3), .val (.int (0 : Int32)), .val (.int (0 : Int32)), .val (.int x4), .val v0, .val (.ref a2), .unset, .unset, .unset, .unset] [(.ref a13)]))
  refine G.dup H12 at_97 (pc' := 98) rfl rfl ?_
  refine G.aload H12 at_98 (pc' := 100) rfl rfl rfl ?_
  have F17 : Arv Z h12_ a2 k5 .char (2 : Int32) [(.int (x2 &&& (255 : Int32))), (.int (x3 &&& (255 : Int32)))] (.int 0) := (Arv.ext A11 E14)
  have F18 : Fld Z h12_ a13 "java/lang/String" "value" "[B" .null := D16 (Or.inr (wd29 V)) (ty := (.array .byte)) (by decide)
  have F19 : Fld Z h12_ a13 "java/lang/String" "coder" "B" (.int (0 : Int32)) := D16 (Or.inr (wd27 V)) (ty := .byte) (by decide)
  refine G.newStr H12 (strw V) (wd2 V) (wd4 V) (wd5 V) (cs := [(x2 &&& (255 : Int32)), (x3 &&& (255 : Int32))]) (n := 2) na13 A15 F18 F19 F17 (s_COMPACT_STRINGS V) (cz V) rfl rfl (by decide) (by decide) (cbS (own_and255 _) (cbS (own_and255 _) cb0)) (Sf.mem (List.mem_of_getElem? (i := 0) rfl)) (rest := [(.ref a13)]) (W := 1) rfl rfl at_100 (pc' := 103) rfl (by decide) (by decide) (by decide) (by decide) ?_
  intro T20 h20_ t21 k22 g25 H20 K23 S24
  have nt21 : n0 ≤ t21 := Nat.le_trans H12.le g25
  refine G.astore H20 (L' := #[.val (.int x0), .val (.int x1), .val (.int x2), .val (.int x3), .val (.int (0 : Int32)), .val (.int (0 : Int32)), .val (.int x4), .val v0, .val (.ref a2), .val (.ref a13), .unset, .unset, .unset]) at_103 (pc' := 105) rfl rfl rfl ?_
  refine G.new H20 (wd30 V) (wd31 V) (wd32 V) at_105 (pc' := 108) rfl (by decide) (by decide) ?_
  intro T26 h26_ a27 ga27 H26 E28 A29 D30
  have na27 : n0 ≤ a27 := Nat.le_trans H20.le (Nat.le_of_eq ga27.symm)
  show Go p e below _ (T26.setTop (mkF m 108 #[.val (.int x0), .val (.int x1), .val (.int x2), .val (.int x3), .val (.int (0 : Int32)), .val (.int (0 : Int32)), .val (.int x4), .val v0, .val (.ref a2), .val (.ref a13), .unset, .unset, .unset] [(.ref a27)]))
  refine G.dup H26 at_108 (pc' := 109) rfl rfl ?_
  refine G.aload H26 at_109 (pc' := 111) rfl rfl rfl ?_
  refine G.aload H26 at_111 (pc' := 113) rfl rfl isRef_v0 ?_
  refine G.iload H26 at_113 (pc' := 115) rfl rfl ?_
  refine G.iload H26 at_115 (pc' := 117) rfl rfl ?_
  have F31 : Fld Z h26_ a27 "com/example/tenure/tenure/Attribute" "name" "Ljava/lang/String;" .null := D30 (Or.inr (wd43 V)) (ty := (.object "java/lang/String")) (by decide)
  have F32 : Fld Z h26_ a27 "com/example/tenure/tenure/Attribute" "type" "Lcom/example/tenure/tenure/AttributeType;" .null := D30 (Or.inr (wd45 V)) (ty := (.object "com/example/tenure/tenure/AttributeType")) (by decide)
  have F33 : Fld Z h26_ a27 "com/example/tenure/tenure/Attribute" "dated" "Z" (.int (0 : Int32)) := D30 (Or.inr (wd47 V)) (ty := .boolean) (by decide)
  have F34 : Fld Z h26_ a27 "com/example/tenure/tenure/Attribute" "localized" "Z" (.int (0 : Int32)) := D30 (Or.inr (wd49 V)) (ty := .boolean) (by decide)
  refine G.callI H26 (m2_init V a27 a13 v0 h26_ H26.old isRef_v0 A29 F31 na27 F32 F33 F34) rfl (wd33 V) (wd34 V) (wd32 V) (wd35 V) (by decide) (a := a27) (argsL := [(.ref a13), v0, (.int (0 : Int32)), (.int (0 : Int32))]) (rest := [(.ref a27)]) (W := 1) rfl rfl (lenOf (pd_1) rfl) rfl rfl at_117 (pc' := 120) rfl (by decide) (by decide) (by decide) (by decide) all0 ?_
  intro T35 h35_ v36 s37 H35 Q38
  obtain ⟨rfl, rfl, K39, F40, F41, F42, F43, F44⟩ := Q38
  show Go p e below _ (T35.setTop (mkF m 120 #[.val (.int x0), .val (.int x1), .val (.int x2), .val (.int x3), .val (.int (0 : Int32)), .val (.int (0 : Int32)), .val (.int x4), .val v0, .val (.ref a2), .val (.ref a13), .unset, .unset, .unset] [(.ref a27)]))
  refine G.callV H35 (m3_kind V a27 h35_ H35.old F44 F43) (wd50 V) (wd51 V) (nf_sel (wd53 V)) (wd53 V) (wd52 V) (wd32 V) (wd54 V) (by decide) F40 (argsL := []) (rest := []) (W := 0) rfl rfl (lenOf (pd_2) rfl) rfl rfl at_120 (pc' := 123) rfl (by decide) (by decide) (by decide) (by decide) all0 ?_
  intro T45 h45_ v46 s47 H45 Q48
  obtain ⟨rfl, rfl, rfl⟩ := Q48
  show Go p e below _ (T45.setTop (mkF m 123 #[.val (.int x0), .val (.int x1), .val (.int x2), .val (.int x3), .val (.int (0 : Int32)), .val (.int (0 : Int32)), .val (.int x4), .val v0, .val (.ref a2), .val (.ref a13), .unset, .unset, .unset] [(.ref a_PLAIN)]))
  refine G.astore H45 (L' := #[.val (.int x0), .val (.int x1), .val (.int x2), .val (.int x3), .val (.int (0 : Int32)), .val (.int (0 : Int32)), .val (.int x4), .val v0, .val (.ref a2), .val (.ref a13), .val (.ref a_PLAIN), .unset, .unset]) at_123 (pc' := 125) rfl rfl rfl ?_
  refine G.aload H45 at_125 (pc' := 127) rfl rfl rfl ?_
  refine G.ifnonnullYes H45 at_127 (by decide) (pc' := 132) rfl ?_
  refine G.aload H45 at_132 (pc' := 134) rfl rfl rfl ?_
  refine G.getS H45 (wd58 V) Via.refl (Sta.ext H45.old.2 (S_a_DATED V)) at_134 (pc' := 137) rfl ?_
  intro T49 H50
  refine G.acmpNo H50 at_137 (pc' := 140) rfl rfl rfl (XT.aa_eq_f (fun q => (Fld.ne (F_a_PLAIN_ordinal V) (F_a_DATED_ordinal V) (by decide)) (Value.ref.inj q))) ?_
  refine G.aload H50 at_140 (pc' := 142) rfl rfl rfl ?_
  refine G.getS H50 (wd60 V) Via.refl (Sta.ext H50.old.2 (S_a_DATED_LOCALIZED V)) at_142 (pc' := 145) rfl ?_
  intro T51 H52
  refine G.acmpYes H52 at_145 rfl rfl (XT.aa_ne_t (fun q => (Fld.ne (F_a_PLAIN_ordinal V) (F_a_DATED_LOCALIZED_ordinal V) (by decide)) (Value.ref.inj q))) (by decide) (pc' := 152) rfl ?_
  refine G.iconst H52 at_152 (pc' := 153) rfl (v := (0 : Int32)) rfl ?_
  refine G.istore H52 (L' := #[.val (.int x0), .val (.int x1), .val (.int x2), .val (.int x3), .val (.int (0 : Int32)), .val (.int (0 : Int32)), .val (.int x4), .val v0, .val (.ref a2), .val (.ref a13), .val (.ref a_PLAIN), .val (.int (0 : Int32)), .unset]) at_153 (pc' := 155) rfl rfl ?_
  refine G.aload H52 at_155 (pc' := 157) rfl rfl rfl ?_
  refine G.getS H52 (wd62 V) Via.refl (Sta.ext H52.old.2 (S_a_LOCALIZED V)) at_157 (pc' := 160) rfl ?_
  intro T53 H54
  refine G.acmpNo H54 at_160 (pc' := 163) rfl rfl rfl (XT.aa_eq_f (fun q => (Fld.ne (F_a_PLAIN_ordinal V) (F_a_LOCALIZED_ordinal V) (by decide)) (Value.ref.inj q))) ?_
  refine G.aload H54 at_163 (pc' := 165) rfl rfl rfl ?_
  refine G.getS H54 (wd60 V) Via.refl (Sta.ext H54.old.2 (S_a_DATED_LOCALIZED V)) at_165 (pc' := 168) rfl ?_
  intro T55 H56
  refine G.acmpYes H56 at_168 rfl rfl (XT.aa_ne_t (fun q => (Fld.ne (F_a_PLAIN_ordinal V) (F_a_DATED_LOCALIZED_ordinal V) (by decide)) (Value.ref.inj q))) (by decide) (pc' := 175) rfl ?_
  refine G.iconst H56 at_175 (pc' := 176) rfl (v := (0 : Int32)) rfl ?_
  refine G.istore H56 (L' := #[.val (.int x0), .val (.int x1), .val (.int x2), .val (.int x3), .val (.int (0 : Int32)), .val (.int (0 : Int32)), .val (.int x4), .val v0, .val (.ref a2), .val (.ref a13), .val (.ref a_PLAIN), .val (.int (0 : Int32)), .val (.int (0 : Int32))]) at_176 (pc' := 178) rfl rfl ?_
  refine G.iload H56 at_178 (pc' := 180) rfl rfl ?_
  refine G.iload H56 at_180 (pc' := 182) rfl rfl ?_
  refine G.icmpNo H56 at_182 (pc' := 185) rfl (by decide) ?_
  refine G.iload H56 at_185 (pc' := 187) rfl rfl ?_
  refine G.iload H56 at_187 (pc' := 189) rfl rfl ?_
  refine G.icmpNo H56 at_189 (pc' := 192) rfl (by decide) ?_
  refine G.iconst H56 at_192 (pc' := 193) rfl (v := (1 : Int32)) rfl ?_
  refine G.goto H56 at_193 (by decide) (pc' := 197) rfl ?_
  exact G.retN H56 (t := .boolean) rfl (by decide) at_197 (so := []) all0 (by decide) (by decide) rfl
set_option maxRecDepth 65536 in
set_option maxHeartbeats 40000000 in
theorem m5_init {l : Launch} {Z : State} {a0 : Array Value} {n0 : Nat} {z_COMPACT_STRINGS : Int32} {z_SIOOBE_FORMATTER : Value} {a_PLAIN : Addr} {a_DATED : Addr} {a_DATED_LOCALIZED : Addr} {a_LOCALIZED : Addr} {a_DATE : Addr} {a_STRING : Addr} {a_DECIMAL : Addr} (V : Env1 Z a0 n0 z_COMPACT_STRINGS z_SIOOBE_FORMATTER a_PLAIN a_DATED a_DATED_LOCALIZED a_LOCALIZED a_DATE a_STRING a_DECIMAL) (p0 : Addr) (p1 : Addr) (v0 : Value) (h0 : Heap) (hO : Old Z n0 h0) (isRef_v0 : v0.isRef = true) (f1 : Exa Z h0 p0 "com/example/tenure/tenure/Attribute") (f2 : Fld Z h0 p0 "com/example/tenure/tenure/Attribute" "name" "Ljava/lang/String;" .null) (g3 : n0 ≤ p0) (f4 : Fld Z h0 p0 "com/example/tenure/tenure/Attribute" "type" "Lcom/example/tenure/tenure/AttributeType;" .null) (f5 : Fld Z h0 p0 "com/example/tenure/tenure/Attribute" "dated" "Z" (.int (0 : Int32))) (f6 : Fld Z h0 p0 "com/example/tenure/tenure/Attribute" "localized" "Z" (.int (0 : Int32))) :
    Met Z a0 [] False n0 l (⟨"com/example/tenure/tenure/Attribute", "<init>", "(Ljava/lang/String;Lcom/example/tenure/tenure/AttributeType;ZZ)V"⟩ : MethodName) prog_3_method_1_code 5 (Option.none : Option FieldType) ({ frames := 2, cells := 0, slots := 0, locals := 24 } : Room) #[(.ref p0), (.ref p1), v0, (.int (0 : Int32)), (.int (1 : Int32))] h0 [] (fun v h so => (v = none ∧ so = [] ∧ Keep h0 h [p0] ∧ Exa Z h p0 "com/example/tenure/tenure/Attribute" ∧ Fld Z h p0 "com/example/tenure/tenure/Attribute" "name" "Ljava/lang/String;" (.ref p1) ∧ Fld Z h p0 "com/example/tenure/tenure/Attribute" "type" "Lcom/example/tenure/tenure/AttributeType;" v0 ∧ Fld Z h p0 "com/example/tenure/tenure/Attribute" "dated" "Z" (.int (0 : Int32)) ∧ Fld Z h p0 "com/example/tenure/tenure/Attribute" "localized" "Z" (.int (1 : Int32)))) := by
  refine Met.of (EWl V) (by first | decide +kernel | rfl) hO (L0 := #[.val (.ref p0), .val (.ref p1), .val v0, .val (.int (0 : Int32)), .val (.int (1 : Int32))]) (by rcases XT.refc isRef_v0 with rfl | ⟨_, rfl⟩ <;> rfl) ?_
  intro p e s m below meth c T H
  show Go p e below _ (T.setTop (mkF m 0 #[.val (.ref p0), .val (.ref p1), .val v0, .val (.int (0 : Int32)), .val (.int (1 : Int32))] []))
  refine G.aloadN H dc_prog_3_method_1_code_0 (pc' := 1) rfl rfl rfl ?_
  refine G.callI H (m1_init V p0 h0 H.old) rfl (wd36 V) (wd37 V) (wd39 V) (wd40 V) (by decide) (a := p0) (argsL := []) (rest := []) (W := 0) rfl rfl (lenOf (pd_0) rfl) rfl rfl dc_prog_3_method_1_code_1 (pc' := 4) rfl (by decide) (by decide) (by decide) (by decide) all0 ?_
  intro T1 h1_ v2 s3 H1 Q4
  obtain ⟨rfl, rfl, rfl⟩ := Q4
  show Go p e below _ (T1.setTop (mkF m 4 #[.val (.ref p0), .val (.ref p1), .val v0, .val (.int (0 : Int32)), .val (.int (1 : Int32))] []))
  refine G.aloadN H1 dc_prog_3_method_1_code_4 (pc' := 5) rfl rfl rfl ?_
  refine G.aloadN H1 dc_prog_3_method_1_code_5 (pc' := 6) rfl rfl rfl ?_
  refine G.putF H1 (wd42 V) Via.refl f2 f1 (Or.inr ⟨(wd43 V), rfl, rfl⟩) (wd31 V) (ty := (.object "java/lang/String")) (by decide) rfl rfl g3 (Sf.exa f1) dc_prog_3_method_1_code_6 (pc' := 9) rfl ?_
  intro T5 h5_ H5 W6
  have F7 : Fld Z h5_ p0 "com/example/tenure/tenure/Attribute" "name" "Ljava/lang/String;" (.ref p1) := Fld.same W6 f2
  show Go p e below _ (T5.setTop (mkF m 9 #[.val (.ref p0), .val (.ref p1), .val v0, .val (.int (0 : Int32)), .val (.int (1 : Int32))] []))
  refine G.aloadN H5 dc_prog_3_method_1_code_9 (pc' := 10) rfl rfl rfl ?_
  refine G.aloadN H5 dc_prog_3_method_1_code_10 (pc' := 11) rfl rfl isRef_v0 ?_
  have F8 : Exa Z h5_ p0 "com/example/tenure/tenure/Attribute" := (Exa.wr W6 f1)
  have F9 : Fld Z h5_ p0 "com/example/tenure/tenure/Attribute" "type" "Lcom/example/tenure/tenure/AttributeType;" .null := (Fld.other W6 f4 (Or.inr (slot_ne (Or.inr (wd45 V)) (Or.inr (wd43 V)) (by decide) (t := (.object "com/example/tenure/tenure/AttributeType")) (t' := (.object "java/lang/String")) (by decide) (by decide))))
  refine G.putF H5 (wd44 V) Via.refl F9 F8 (Or.inr ⟨(wd45 V), rfl, rfl⟩) (wd31 V) (ty := (.object "com/example/tenure/tenure/AttributeType")) (by decide) (own_pnA isRef_v0 rfl) (own_pfA isRef_v0 rfl) g3 (Sf.exa F8) dc_prog_3_method_1_code_11 (pc' := 14) rfl ?_
  intro T10 h10_ H10 W11
  have F12 : Fld Z h10_ p0 "com/example/tenure/tenure/Attribute" "type" "Lcom/example/tenure/tenure/AttributeType;" v0 := Fld.same W11 F9
  show Go p e below _ (T10.setTop (mkF m 14 #[.val (.ref p0), .val (.ref p1), .val v0, .val (.int (0 : Int32)), .val (.int (1 : Int32))] []))
  refine G.aloadN H10 dc_prog_3_method_1_code_14 (pc' := 15) rfl rfl rfl ?_
  refine G.iloadN H10 dc_prog_3_method_1_code_15 (pc' := 16) rfl rfl ?_
  have F13 : Exa Z h10_ p0 "com/example/tenure/tenure/Attribute" := (Exa.wr W11 F8)
  have F14 : Fld Z h10_ p0 "com/example/tenure/tenure/Attribute" "dated" "Z" (.int (0 : Int32)) := (Fld.other W11 (Fld.other W6 f5 (Or.inr (slot_ne (Or.inr (wd47 V)) (Or.inr (wd43 V)) (by decide) (t := .boolean) (t' := (.object "java/lang/String")) (by decide) (by decide)))) (Or.inr (slot_ne (Or.inr (wd47 V)) (Or.inr (wd45 V)) (by decide) (t := .boolean) (t' := (.object "com/example/tenure/tenure/AttributeType")) (by decide) (by decide))))
  refine G.putF H10 (wd46 V) Via.refl F14 F13 (Or.inr ⟨(wd47 V), rfl, rfl⟩) (wd31 V) (ty := .boolean) (by decide) rfl rfl g3 (Sf.exa F13) dc_prog_3_method_1_code_16 (pc' := 19) rfl ?_
  intro T15 h15_ H15 W16
  have F17 : Fld Z h15_ p0 "com/example/tenure/tenure/Attribute" "dated" "Z" (.int (0 : Int32)) := Fld.same W16 F14
  show Go p e below _ (T15.setTop (mkF m 19 #[.val (.ref p0), .val (.ref p1), .val v0, .val (.int (0 : Int32)), .val (.int (1 : Int32))] []))
  refine G.aloadN H15 dc_prog_3_method_1_code_19 (pc' := 20) rfl rfl rfl ?_
  refine G.iload H15 dc_prog_3_method_1_code_20 (pc' := 22) rfl rfl ?_
  have F18 : Exa Z h15_ p0 "com/example/tenure/tenure/Attribute" := (Exa.wr W16 F13)
  have F19 : Fld Z h15_ p0 "com/example/tenure/tenure/Attribute" "localized" "Z" (.int (0 : Int32)) := (Fld.other W16 (Fld.other W11 (Fld.other W6 f6 (Or.inr (slot_ne (Or.inr (wd49 V)) (Or.inr (wd43 V)) (by decide) (t := .boolean) (t' := (.object "java/lang/String")) (by decide) (by decide)))) (Or.inr (slot_ne (Or.inr (wd49 V)) (Or.inr (wd45 V)) (by decide) (t := .boolean) (t' := (.object "com/example/tenure/tenure/AttributeType")) (by decide) (by decide)))) (Or.inr (slot_ne (Or.inr (wd49 V)) (Or.inr (wd47 V)) (by decide) (t := .boolean) (t' := .boolean) (by decide) (by decide))))
  refine G.putF H15 (wd48 V) Via.refl F19 F18 (Or.inr ⟨(wd49 V), rfl, rfl⟩) (wd31 V) (ty := .boolean) (by decide) rfl rfl g3 (Sf.exa F18) dc_prog_3_method_1_code_22 (pc' := 25) rfl ?_
  intro T20 h20_ H20 W21
  have F22 : Fld Z h20_ p0 "com/example/tenure/tenure/Attribute" "localized" "Z" (.int (1 : Int32)) := Fld.same W21 F19
  show Go p e below _ (T20.setTop (mkF m 25 #[.val (.ref p0), .val (.ref p1), .val v0, .val (.int (0 : Int32)), .val (.int (1 : Int32))] []))
  have F23 : Exa Z h20_ p0 "com/example/tenure/tenure/Attribute" := (Exa.wr W21 F18)
  have F24 : Fld Z h20_ p0 "com/example/tenure/tenure/Attribute" "name" "Ljava/lang/String;" (.ref p1) := (Fld.other W21 (Fld.other W16 (Fld.other W11 F7 (Or.inr (slot_ne (Or.inr (wd43 V)) (Or.inr (wd45 V)) (by decide) (t := (.object "java/lang/String")) (t' := (.object "com/example/tenure/tenure/AttributeType")) (by decide) (by decide)))) (Or.inr (slot_ne (Or.inr (wd43 V)) (Or.inr (wd47 V)) (by decide) (t := (.object "java/lang/String")) (t' := .boolean) (by decide) (by decide)))) (Or.inr (slot_ne (Or.inr (wd43 V)) (Or.inr (wd49 V)) (by decide) (t := (.object "java/lang/String")) (t' := .boolean) (by decide) (by decide))))
  have F25 : Fld Z h20_ p0 "com/example/tenure/tenure/Attribute" "type" "Lcom/example/tenure/tenure/AttributeType;" v0 := (Fld.other W21 (Fld.other W16 F12 (Or.inr (slot_ne (Or.inr (wd45 V)) (Or.inr (wd47 V)) (by decide) (t := (.object "com/example/tenure/tenure/AttributeType")) (t' := .boolean) (by decide) (by decide)))) (Or.inr (slot_ne (Or.inr (wd45 V)) (Or.inr (wd49 V)) (by decide) (t := (.object "com/example/tenure/tenure/AttributeType")) (t' := .boolean) (by decide) (by decide))))
  have F26 : Fld Z h20_ p0 "com/example/tenure/tenure/Attribute" "dated" "Z" (.int (0 : Int32)) := (Fld.other W21 F17 (Or.inr (slot_ne (Or.inr (wd47 V)) (Or.inr (wd49 V)) (by decide) (t := .boolean) (t' := .boolean) (by decide) (by decide))))
  have K27 : Keep h0 h20_ [p0] := (Keep.wr (Keep.wr (Keep.wr (Keep.wr (Keep.refl h0 [p0]) W6 (Or.inl (List.mem_of_getElem? (i := 0) rfl))) W11 (Or.inl (List.mem_of_getElem? (i := 0) rfl))) W16 (Or.inl (List.mem_of_getElem? (i := 0) rfl))) W21 (Or.inl (List.mem_of_getElem? (i := 0) rfl)))
  exact G.retV H20 rfl dc_prog_3_method_1_code_25 (so := []) all0 (by decide) (by decide) ⟨rfl, rfl, K27, F23, F24, F25, F26, F22⟩
set_option maxRecDepth 65536 in
set_option maxHeartbeats 40000000 in
theorem m6_kind {l : Launch} {Z : State} {a0 : Array Value} {n0 : Nat} {z_COMPACT_STRINGS : Int32} {z_SIOOBE_FORMATTER : Value} {a_PLAIN : Addr} {a_DATED : Addr} {a_DATED_LOCALIZED : Addr} {a_LOCALIZED : Addr} {a_DATE : Addr} {a_STRING : Addr} {a_DECIMAL : Addr} (V : Env1 Z a0 n0 z_COMPACT_STRINGS z_SIOOBE_FORMATTER a_PLAIN a_DATED a_DATED_LOCALIZED a_LOCALIZED a_DATE a_STRING a_DECIMAL) (p0 : Addr) (h0 : Heap) (hO : Old Z n0 h0) (f0 : Fld Z h0 p0 "com/example/tenure/tenure/Attribute" "localized" "Z" (.int (1 : Int32))) (f1 : Fld Z h0 p0 "com/example/tenure/tenure/Attribute" "dated" "Z" (.int (0 : Int32))) :
    Met Z a0 [] False n0 l (⟨"com/example/tenure/tenure/Attribute", "kind", "()Lcom/example/tenure/tenure/Attribute$Kind;"⟩ : MethodName) prog_3_method_2_code 1 (Option.some (FieldType.object "com/example/tenure/tenure/Attribute$Kind")) ({ frames := 0, cells := 0, slots := 0, locals := 0 } : Room) #[(.ref p0)] h0 [] (fun v h so => (v = some (.ref a_LOCALIZED) ∧ so = [] ∧ h0 = h)) := by
  refine Met.of (EWl V) (by first | decide +kernel | rfl) hO (L0 := #[.val (.ref p0)]) rfl ?_
  intro p e s m below meth c T H
  show Go p e below _ (T.setTop (mkF m 0 #[.val (.ref p0)] []))
  refine G.aloadN H dc_prog_3_method_2_code_0 (pc' := 1) rfl rfl rfl ?_
  refine G.getF H (wd48 V) Via.refl f0 dc_prog_3_method_2_code_1 (pc' := 4) rfl ?_
  intro T1 H2
  refine G.ifNo H2 dc_prog_3_method_2_code_4 (pc' := 7) rfl (by decide) ?_
  refine G.aloadN H2 dc_prog_3_method_2_code_7 (pc' := 8) rfl rfl rfl ?_
  refine G.getF H2 (wd46 V) Via.refl f1 dc_prog_3_method_2_code_8 (pc' := 11) rfl ?_
  intro T3 H4
  refine G.ifYes H4 dc_prog_3_method_2_code_11 (by decide) (by decide) (pc' := 20) rfl ?_
  refine G.getS H4 (wd68 V) Via.refl (Sta.ext H4.old.2 (S_a_LOCALIZED V)) dc_prog_3_method_2_code_20 (pc' := 23) rfl ?_
  intro T5 H6
  exact G.retA H6 (t := (.object "com/example/tenure/tenure/Attribute$Kind")) rfl rfl rfl dc_prog_3_method_2_code_23 (so := []) all0 (by decide) (by decide) ⟨rfl, rfl, rfl⟩
set_option maxRecDepth 65536 in
set_option maxHeartbeats 40000000 in
theorem cut7_67 {l : Launch} {Z : State} {a0 : Array Value} {n0 : Nat} {z_COMPACT_STRINGS : Int32} {z_SIOOBE_FORMATTER : Value} {a_PLAIN : Addr} {a_DATED : Addr} {a_DATED_LOCALIZED : Addr} {a_LOCALIZED : Addr} {a_DATE : Addr} {a_STRING : Addr} {a_DECIMAL : Addr} (V : Env1 Z a0 n0 z_COMPACT_STRINGS z_SIOOBE_FORMATTER a_PLAIN a_DATED a_DATED_LOCALIZED a_LOCALIZED a_DATE a_STRING a_DECIMAL) (x0 : Int32) (x1 : Int32) (x2 : Int32) (x3 : Int32) (x4 : Int32) (v0 : Value) {p : Program} {e : Env} {s : State} {m : MethodId} {as' : Array Value} {below : List Frame} {meth : Method} {c : Code} {T : State} {h0 : Heap} (H : Hs p l e room_1 s m as' below meth c Z a0 [] False x.cls n0 code maxLocals ret x.name T h0 0 0 []) (isRef_v0 : v0.isRef = true) :
    Go p e below (FinP s below Z [] False n0 room_1.cells room_1.slots (fun v h so => v = some (.int 1))) (T.setTop (mkF m 67 #[.val (.int x0), .val (.int x1), .val (.int x2), .val (.int x3), .val (.int (0 : Int32)), .val (.int (1 : Int32)), .val (.int x4), .unset, .unset, .unset, .unset, .unset, .unset] [v0])) := by
  refine G.astore H (L' := #[.val (.int x0), .val (.int x1), .val (.int x2), .val (.int x3), .val (.int (0 : Int32)), .val (.int (1 : Int32)), .val (.int x4), .val v0, .unset, .unset, .unset, .unset, .unset]) at_67 (pc' := 69) rfl isRef_v0 (XS.store1 rfl (by first | exact Or.inl rfl | exact Or.inr ⟨_, rfl, rfl⟩) (XT.cat1 isRef_v0)) ?_
  refine G.iconst H at_69 (pc' := 70) rfl (v := (2 : Int32)) rfl ?_
  refine G.newP H (aty := .char) (wd0 V) at_70 (pc' := 72) rfl (by decide) (cap := 2) (by decide) (by decide) (by decide) (by decide) (vs := [(.int (0 : Int32)), (.int (0 : Int32))]) rfl ?_
  intro T1 h1_ a2 k5 ga2 H1 E3 A4
  have na2 : n0 ≤ a2 := Nat.le_trans H.le (Nat.le_of_eq ga2.symm)
  replace A4 : Arv Z h1_ a2 k5 .char (2 : Int32) [(.int (0 : Int32)), (.int (0 : Int32))] (.int 0) := A4
  show Go p e below _ (T1.setTop (mkF m 72 #[.val (.int x0), .val (.int x1), .val (.int x2), .val (.int x3), .val (.int (0 : Int32)), .val (.int (1 : Int32)), .val (.int x4), .val v0, .unset, .unset, .unset, .unset, .unset] [(.ref a2)]))
  refine G.astore H1 (L' := #[.val (.int x0), .val (.int x1), .val (.int x2), .val (.int x3), .val (.int (0 : Int32)), .val (.int (1 : Int32)), .val (.int x4), .val v0, .val (.ref a2), .unset, .unset, .unset, .unset]) at_72 (pc' := 74) rfl rfl rfl ?_
  refine G.aload H1 at_74 (pc' := 76) rfl rfl rfl ?_
  refine G.iconst H1 at_76 (pc' := 77) rfl (v := (0 : Int32)) rfl ?_
  refine G.iloadN H1 at_77 (pc' := 78) rfl rfl ?_
  refine G.sipush H1 at_78 (pc' := 81) rfl (v := (255 : Int32)) rfl ?_
  refine G.iand H1 at_81 (pc' := 82) rfl ?_
  refine G.i2c H1 (y := (x2 &&& (255 : Int32))) at_82 (pc' := 83) rfl (own_c16 (own_u16 (own_and255 _))) ?_
  refine G.stC H1 A4 (by decide) (i := 0) rfl (Nat.le_of_ble_eq_true rfl) na2 (y := (x2 &&& (255 : Int32))) (own_narC (own_u16 (own_and255 _))) at_83 (pc' := 84) rfl ?_
  intro T6 h6_ H6 W7 A8
  replace A8 : Arv Z h6_ a2 k5 .char (2 : Int32) [(.int (x2 &&& (255 : Int32))), (.int (0 : Int32))] (.int 0) := A8
  show Go p e below _ (T6.setTop (mkF m 84 #[.val (.int x0), .val (.int x1), .val (.int x2), .val (.int x3), .val (.int (0 : Int32)), .val (.int (1 : Int32)), .val (.int x4), .val v0, .val (.ref a2), .unset, .unset, .unset, .unset] []))
  refine G.aload H6 at_84 (pc' := 86) rfl rfl rfl ?_
  refine G.iconst H6 at_86 (pc' := 87) rfl (v := (1 : Int32)) rfl ?_
  refine G.iloadN H6 at_87 (pc' := 88) rfl rfl ?_
  refine G.sipush H6 at_88 (pc' := 91) rfl (v := (255 : Int32)) rfl ?_
  refine G.iand H6 at_91 (pc' := 92) rfl ?_
  refine G.i2c H6 (y := (x3 &&& (255 : Int32))) at_92 (pc' := 93) rfl (own_c16 (own_u16 (own_and255 _))) ?_
  refine G.stC H6 A8 (by decide) (i := 1) rfl (Nat.le_of_ble_eq_true rfl) na2 (y := (x3 &&& (255 : Int32))) (own_narC (own_u16 (own_and255 _))) at_93 (pc' := 94) rfl ?_
  intro T9 h9_ H9 W10 A11
  replace A11 : Arv Z h9_ a2 k5 .char (2 : Int32) [(.int (x2 &&& (255 : Int32))), (.int (x3 &&& (255 : Int32)))] (.int 0) := A11
  show Go p e below _ (T9.setTop (mkF m 94 #[.val (.int x0), .val (.int x1), .val (.int x2), .val (.int x3), .val (.int (0 : Int32)), .val (.int (1 : Int32)), .val (.int x4), .val v0, .val (.ref a2), .unset, .unset, .unset, .unset] []))
  refine G.new H9 (wd1 V) (wd2 V) (wd3 V) at_94 (pc' := 97) rfl (by decide) (by decide) ?_
  intro T12 h12_ a13 ga13 H12 E14 A15 D16
  have na13 : n0 ≤ a13 := Nat.le_trans H9.le (Nat.le_of_eq ga13.symm)
  show Go p e below _ (T12.setTop (mkF m 97 #[.val (.int x0), .val (.int x1), .val (.int x2), .val (.int x3), .val (.int (0 : Int32)), .val (.int (1 : Int32)), .val (.int x4), .val v0, .val (.ref a2), .unset, .unset, .unset, .unset] [(.ref a13)]))
  refine G.dup H12 at_97 (pc' := 98) rfl rfl ?_
  refine G.aload H12 at_98 (pc' := 100) rfl rfl rfl ?_
  have F17 : Arv Z h12_ a2 k5 .char (2 : Int32) [(.int (x2 &&& (255 : Int32))), (.int (x3 &&& (255 : Int32)))] (.int 0) := (Arv.ext A11 E14)
  have F18 : Fld Z h12_ a13 "java/lang/String" "value" "[B" .null := D16 (Or.inr (wd29 V)) (ty := (.array .byte)) (by decide)
  have F19 : Fld Z h12_ a13 "java/lang/String" "coder" "B" (.int (0 : Int32)) := D16 (Or.inr (wd27 V)) (ty := .byte) (by decide)
  refine G.newStr H12 (strw V) (wd2 V) (wd4 V) (wd5 V) (cs := [(x2 &&& (255 : Int32)), (x3 &&& (255 : Int32))]) (n := 2) na13 A15 F18 F19 F17 (s_COMPACT_STRINGS V) (cz V) rfl rfl (by decide) (by decide) (cbS (own_and255 _) (cbS (own_and255 _) cb0)) (Sf.mem (List.mem_of_getElem? (i := 0) rfl)) (rest := [(.ref a13)]) (W := 1) rfl rfl at_100 (pc' := 103) rfl (by decide) (by decide) (by decide) (by decide) ?_
  intro T20 h20_ t21 k22 g25 H20 K23 S24
  have nt21 : n0 ≤ t21 := Nat.le_trans H12.le g25
  refine G.astore H20 (L' := #[.val (.int x0), .val (.int x1), .val (.int x2), .val (.int x3), .val (.int (0 : Int32)), .val (.int (1 : Int32)), .val (.int x4), .val v0, .val (.ref a2), .val (.ref a13), .unset, .unset, .unset]) at_103 (pc' := 105) rfl rfl rfl ?_
  refine G.new H20 (wd30 V) (wd31 V) (wd32 V) at_105 (pc' := 108) rfl (by decide) (by decide) ?_
  intro T26 h26_ a27 ga27 H26 E28 A29 D30
  have na27 : n0 ≤ a27 := Nat.le_trans H20.le (Nat.le_of_eq ga27.symm)
  show Go p e below _ (T26.setTop (mkF m 108 #[.val (.int x0), .val (.int x1), .val (.int x2), .val (.int x3), .val (.int (0 : Int32)), .val (.int (1 : Int32)), .val (.int x4), .val v0, .val (.ref a2), .val (.ref a13), .unset, .unset, .unset] [(.ref a27)]))
  refine G.dup H26 at_108 (pc' := 109) rfl rfl ?_
  refine G.aload H26 at_109 (pc' := 111) rfl rfl rfl ?_
  refine G.aload H26 at_111 (pc' := 113) rfl rfl isRef_v0 ?_
  refine G.iload H26 at_113 (pc' := 115) rfl rfl ?_
  refine G.iload H26 at_115 (pc' := 117) rfl rfl ?_
  have F31 : Fld Z h26_ a27 "com/example/tenure/tenure/Attribute" "name" "Ljava/lang/String;" .null := D30 (Or.inr (wd43 V)) (ty := (.object "java/lang/String")) (by decide)
  have F32 : Fld Z h26_ a27 "com/example/tenure/tenure/Attribute" "type" "Lcom/example/tenure/tenure/AttributeType;" .null := D30 (Or.inr (wd45 V)) (ty := (.object "com/example/tenure/tenure/AttributeType")) (by decide)
  have F33 : Fld Z h26_ a27 "com/example/tenure/tenure/Attribute" "dated" "Z" (.int (0 : Int32)) := D30 (Or.inr (wd47 V)) (ty := .boolean) (by decide)
  have F34 : Fld Z h26_ a27 "com/example/tenure/tenure/Attribute" "localized" "Z" (.int (0 : Int32)) := D30 (Or.inr (wd49 V)) (ty := .boolean) (by decide)
  refine G.callI H26 (m5_init V a27 a13 v0 h26_ H26.old isRef_v0 A29 F31 na27 F32 F33 F34) rfl (wd33 V) (wd34 V) (wd32 V) (wd35 V) (by decide) (a := a27) (argsL := [(.ref a13), v0, (.int (0 : Int32)), (.int (1 : Int32))]) (rest := [(.ref a27)]) (W := 1) rfl rfl (lenOf (pd_1) rfl) rfl rfl at_117 (pc' := 120) rfl (by decide) (by decide) (by decide) (by decide) all0 ?_
  intro T35 h35_ v36 s37 H35 Q38
  obtain ⟨rfl, rfl, K39, F40, F41, F42, F43, F44⟩ := Q38
  show Go p e below _ (T35.setTop (mkF m 120 #[.val (.int x0), .val (.int x1), .val (.int x2), .val (.int x3), .val (.int (0 : Int32)), .val (.int (1 : Int32)), .val (.int x4), .val v0, .val (.ref a2), .val (.ref a13), .unset, .unset, .unset] [(.ref a27)]))
  refine G.callV H35 (m6_kind V a27 h35_ H35.old F44 F43) (wd50 V) (wd51 V) (nf_sel (wd53 V)) (wd53 V) (wd52 V) (wd32 V) (wd54 V) (by decide) F40 (argsL := []) (rest := []) (W := 0) rfl rfl (lenOf (pd_2) rfl) rfl rfl at_120 (pc' := 123) rfl (by decide) (by decide) (by decide) (by decide) all0 ?_
  intro T45 h45_ v46 s47 H45 Q48
  obtain ⟨rfl, rfl, rfl⟩ := Q48
  show Go p e below _ (T45.setTop (mkF m 123 #[.val (.int x0), .val (.int x1), .val (.int x2), .val (.int x3), .val (.int (0 : Int32)), .val (.int (1 : Int32)), .val (.int x4), .val v0, .val (.ref a2), .val (.ref a13), .unset, .unset, .unset] [(.ref a_LOCALIZED)]))
  refine G.astore H45 (L' := #[.val (.int x0), .val (.int x1), .val (.int x2), .val (.int x3), .val (.int (0 : Int32)), .val (.int (1 : Int32)), .val (.int x4), .val v0, .val (.ref a2), .val (.ref a13), .val (.ref a_LOCALIZED), .unset, .unset]) at_123 (pc' := 125) rfl rfl rfl ?_
  refine G.aload H45 at_125 (pc' := 127) rfl rfl rfl ?_
  refine G.ifnonnullYes H45 at_127 (by decide) (pc' := 132) rfl ?_
  refine G.aload H45 at_132 (pc' := 134) rfl rfl rfl ?_
  refine G.getS H45 (wd58 V) Via.refl (Sta.ext H45.old.2 (S_a_DATED V)) at_134 (pc' := 137) rfl ?_
  intro T49 H50
  refine G.acmpNo H50 at_137 (pc' := 140) rfl rfl rfl (XT.aa_eq_f (fun q => (Ne.symm (Fld.ne (F_a_DATED_ordinal V) (F_a_LOCALIZED_ordinal V) (by decide))) (Value.ref.inj q))) ?_
  refine G.aload H50 at_140 (pc' := 142) rfl rfl rfl ?_
  refine G.getS H50 (wd60 V) Via.refl (Sta.ext H50.old.2 (S_a_DATED_LOCALIZED V)) at_142 (pc' := 145) rfl ?_
  intro T51 H52
  refine G.acmpYes H52 at_145 rfl rfl (XT.aa_ne_t (fun q => (Ne.symm (Fld.ne (F_a_DATED_LOCALIZED_ordinal V) (F_a_LOCALIZED_ordinal V) (by decide))) (Value.ref.inj q))) (by decide) (pc' := 152) rfl ?_
  refine G.iconst H52 at_152 (pc' := 153) rfl (v := (0 : Int32)) rfl ?_
  refine G.istore H52 (L' := #[.val (.int x0), .val (.int x1), .val (.int x2), .val (.int x3), .val (.int (0 : Int32)), .val (.int (1 : Int32)), .val (.int x4), .val v0, .val (.ref a2), .val (.ref a13), .val (.ref a_LOCALIZED), .val (.int (0 : Int32)), .unset]) at_153 (pc' := 155) rfl rfl ?_
  refine G.aload H52 at_155 (pc' := 157) rfl rfl rfl ?_
  refine G.getS H52 (wd62 V) Via.refl (Sta.ext H52.old.2 (S_a_LOCALIZED V)) at_157 (pc' := 160) rfl ?_
  intro T53 H54
  refine G.acmpYes H54 at_160 rfl rfl (XT.aa_eq_t rfl) (by decide) (pc' := 171) rfl ?_
  refine G.iconst H54 at_171 (pc' := 172) rfl (v := (1 : Int32)) rfl ?_
  refine G.goto H54 at_172 (by decide) (pc' := 176) rfl ?_
  refine G.istore H54 (L' := #[.val (.int x0), .val (.int x1), .val (.int x2), .val (.int x3), .val (.int (0 : Int32)), .val (.int (1 : Int32)), .val (.int x4), .val v0, .val (.ref a2), .val (.ref a13), .val (.ref a_LOCALIZED), .val (.int (0 : Int32)), .val (.int (1 : Int32))]) at_176 (pc' := 178) rfl rfl ?_
  refine G.iload H54 at_178 (pc' := 180) rfl rfl ?_
  refine G.iload H54 at_180 (pc' := 182) rfl rfl ?_
  refine G.icmpNo H54 at_182 (pc' := 185) rfl (by decide) ?_
  refine G.iload H54 at_185 (pc' := 187) rfl rfl ?_
  refine G.iload H54 at_187 (pc' := 189) rfl rfl ?_
  refine G.icmpNo H54 at_189 (pc' := 192) rfl (by decide) ?_
  refine G.iconst H54 at_192 (pc' := 193) rfl (v := (1 : Int32)) rfl ?_
  refine G.goto H54 at_193 (by decide) (pc' := 197) rfl ?_
  exact G.retN H54 (t := .boolean) rfl (by decide) at_197 (so := []) all0 (by decide) (by decide) rfl
set_option maxRecDepth 65536 in
set_option maxHeartbeats 40000000 in
theorem m8_init {l : Launch} {Z : State} {a0 : Array Value} {n0 : Nat} {z_COMPACT_STRINGS : Int32} {z_SIOOBE_FORMATTER : Value} {a_PLAIN : Addr} {a_DATED : Addr} {a_DATED_LOCALIZED : Addr} {a_LOCALIZED : Addr} {a_DATE : Addr} {a_STRING : Addr} {a_DECIMAL : Addr} (V : Env1 Z a0 n0 z_COMPACT_STRINGS z_SIOOBE_FORMATTER a_PLAIN a_DATED a_DATED_LOCALIZED a_LOCALIZED a_DATE a_STRING a_DECIMAL) (p0 : Addr) (p1 : Addr) (v0 : Value) (h0 : Heap) (hO : Old Z n0 h0) (isRef_v0 : v0.isRef = true) (f1 : Exa Z h0 p0 "com/example/tenure/tenure/Attribute") (f2 : Fld Z h0 p0 "com/example/tenure/tenure/Attribute" "name" "Ljava/lang/String;" .null) (g3 : n0 ≤ p0) (f4 : Fld Z h0 p0 "com/example/tenure/tenure/Attribute" "type" "Lcom/example/tenure/tenure/AttributeType;" .null) (f5 : Fld Z h0 p0 "com/example/tenure/tenure/Attribute" "dated" "Z" (.int (0 : Int32))) (f6 : Fld Z h0 p0 "com/example/tenure/tenure/Attribute" "localized" "Z" (.int (0 : Int32))) :
    Met Z a0 [] False n0 l (⟨"com/example/tenure/tenure/Attribute", "<init>", "(Ljava/lang/String;Lcom/example/tenure/tenure/AttributeType;ZZ)V"⟩ : MethodName) prog_3_method_1_code 5 (Option.none : Option FieldType) ({ frames := 2, cells := 0, slots := 0, locals := 24 } : Room) #[(.ref p0), (.ref p1), v0, (.int (1 : Int32)), (.int (0 : Int32))] h0 [] (fun v h so => (v = none ∧ so = [] ∧ Keep h0 h [p0] ∧ Exa Z h p0 "com/example/tenure/tenure/Attribute" ∧ Fld Z h p0 "com/example/tenure/tenure/Attribute" "name" "Ljava/lang/String;" (.ref p1) ∧ Fld Z h p0 "com/example/tenure/tenure/Attribute" "type" "Lcom/example/tenure/tenure/AttributeType;" v0 ∧ Fld Z h p0 "com/example/tenure/tenure/Attribute" "dated" "Z" (.int (1 : Int32)) ∧ Fld Z h p0 "com/example/tenure/tenure/Attribute" "localized" "Z" (.int (0 : Int32)))) := by
  refine Met.of (EWl V) (by first | decide +kernel | rfl) hO (L0 := #[.val (.ref p0), .val (.ref p1), .val v0, .val (.int (1 : Int32)), .val (.int (0 : Int32))]) (by rcases XT.refc isRef_v0 with rfl | ⟨_, rfl⟩ <;> rfl) ?_
  intro p e s m below meth c T H
  show Go p e below _ (T.setTop (mkF m 0 #[.val (.ref p0), .val (.ref p1), .val v0, .val (.int (1 : Int32)), .val (.int (0 : Int32))] []))
  refine G.aloadN H dc_prog_3_method_1_code_0 (pc' := 1) rfl rfl rfl ?_
  refine G.callI H (m1_init V p0 h0 H.old) rfl (wd36 V) (wd37 V) (wd39 V) (wd40 V) (by decide) (a := p0) (argsL := []) (rest := []) (W := 0) rfl rfl (lenOf (pd_0) rfl) rfl rfl dc_prog_3_method_1_code_1 (pc' := 4) rfl (by decide) (by decide) (by decide) (by decide) all0 ?_
  intro T1 h1_ v2 s3 H1 Q4
  obtain ⟨rfl, rfl, rfl⟩ := Q4
  show Go p e below _ (T1.setTop (mkF m 4 #[.val (.ref p0), .val (.ref p1), .val v0, .val (.int (1 : Int32)), .val (.int (0 : Int32))] []))
  refine G.aloadN H1 dc_prog_3_method_1_code_4 (pc' := 5) rfl rfl rfl ?_
  refine G.aloadN H1 dc_prog_3_method_1_code_5 (pc' := 6) rfl rfl rfl ?_
  refine G.putF H1 (wd42 V) Via.refl f2 f1 (Or.inr ⟨(wd43 V), rfl, rfl⟩) (wd31 V) (ty := (.object "java/lang/String")) (by decide) rfl rfl g3 (Sf.exa f1) dc_prog_3_method_1_code_6 (pc' := 9) rfl ?_
  intro T5 h5_ H5 W6
  have F7 : Fld Z h5_ p0 "com/example/tenure/tenure/Attribute" "name" "Ljava/lang/String;" (.ref p1) := Fld.same W6 f2
  show Go p e below _ (T5.setTop (mkF m 9 #[.val (.ref p0), .val (.ref p1), .val v0, .val (.int (1 : Int32)), .val (.int (0 : Int32))] []))
  refine G.aloadN H5 dc_prog_3_method_1_code_9 (pc' := 10) rfl rfl rfl ?_
  refine G.aloadN H5 dc_prog_3_method_1_code_10 (pc' := 11) rfl rfl isRef_v0 ?_
  have F8 : Exa Z h5_ p0 "com/example/tenure/tenure/Attribute" := (Exa.wr W6 f1)
  have F9 : Fld Z h5_ p0 "com/example/tenure/tenure/Attribute" "type" "Lcom/example/tenure/tenure/AttributeType;" .null := (Fld.other W6 f4 (Or.inr (slot_ne (Or.inr (wd45 V)) (Or.inr (wd43 V)) (by decide) (t := (.object "com/example/tenure/tenure/AttributeType")) (t' := (.object "java/lang/String")) (by decide) (by decide))))
  refine G.putF H5 (wd44 V) Via.refl F9 F8 (Or.inr ⟨(wd45 V), rfl, rfl⟩) (wd31 V) (ty := (.object "com/example/tenure/tenure/AttributeType")) (by decide) (own_pnA isRef_v0 rfl) (own_pfA isRef_v0 rfl) g3 (Sf.exa F8) dc_prog_3_method_1_code_11 (pc' := 14) rfl ?_
  intro T10 h10_ H10 W11
  have F12 : Fld Z h10_ p0 "com/example/tenure/tenure/Attribute" "type" "Lcom/example/tenure/tenure/AttributeType;" v0 := Fld.same W11 F9
  show Go p e below _ (T10.setTop (mkF m 14 #[.val (.ref p0), .val (.ref p1), .val v0, .val (.int (1 : Int32)), .val (.int (0 : Int32))] []))
  refine G.aloadN H10 dc_prog_3_method_1_code_14 (pc' := 15) rfl rfl rfl ?_
  refine G.iloadN H10 dc_prog_3_method_1_code_15 (pc' := 16) rfl rfl ?_
  have F13 : Exa Z h10_ p0 "com/example/tenure/tenure/Attribute" := (Exa.wr W11 F8)
  have F14 : Fld Z h10_ p0 "com/example/tenure/tenure/Attribute" "dated" "Z" (.int (0 : Int32)) := (Fld.other W11 (Fld.other W6 f5 (Or.inr (slot_ne (Or.inr (wd47 V)) (Or.inr (wd43 V)) (by decide) (t := .boolean) (t' := (.object "java/lang/String")) (by decide) (by decide)))) (Or.inr (slot_ne (Or.inr (wd47 V)) (Or.inr (wd45 V)) (by decide) (t := .boolean) (t' := (.object "com/example/tenure/tenure/AttributeType")) (by decide) (by decide))))
  refine G.putF H10 (wd46 V) Via.refl F14 F13 (Or.inr ⟨(wd47 V), rfl, rfl⟩) (wd31 V) (ty := .boolean) (by decide) rfl rfl g3 (Sf.exa F13) dc_prog_3_method_1_code_16 (pc' := 19) rfl ?_
  intro T15 h15_ H15 W16
  have F17 : Fld Z h15_ p0 "com/example/tenure/tenure/Attribute" "dated" "Z" (.int (1 : Int32)) := Fld.same W16 F14
  show Go p e below _ (T15.setTop (mkF m 19 #[.val (.ref p0), .val (.ref p1), .val v0, .val (.int (1 : Int32)), .val (.int (0 : Int32))] []))
  refine G.aloadN H15 dc_prog_3_method_1_code_19 (pc' := 20) rfl rfl rfl ?_
  refine G.iload H15 dc_prog_3_method_1_code_20 (pc' := 22) rfl rfl ?_
  have F18 : Exa Z h15_ p0 "com/example/tenure/tenure/Attribute" := (Exa.wr W16 F13)
  have F19 : Fld Z h15_ p0 "com/example/tenure/tenure/Attribute" "localized" "Z" (.int (0 : Int32)) := (Fld.other W16 (Fld.other W11 (Fld.other W6 f6 (Or.inr (slot_ne (Or.inr (wd49 V)) (Or.inr (wd43 V)) (by decide) (t := .boolean) (t' := (.object "java/lang/String")) (by decide) (by decide)))) (Or.inr (slot_ne (Or.inr (wd49 V)) (Or.inr (wd45 V)) (by decide) (t := .boolean) (t' := (.object "com/example/tenure/tenure/AttributeType")) (by decide) (by decide)))) (Or.inr (slot_ne (Or.inr (wd49 V)) (Or.inr (wd47 V)) (by decide) (t := .boolean) (t' := .boolean) (by decide) (by decide))))
  refine G.putF H15 (wd48 V) Via.refl F19 F18 (Or.inr ⟨(wd49 V), rfl, rfl⟩) (wd31 V) (ty := .boolean) (by decide) rfl rfl g3 (Sf.exa F18) dc_prog_3_method_1_code_22 (pc' := 25) rfl ?_
  intro T20 h20_ H20 W21
  have F22 : Fld Z h20_ p0 "com/example/tenure/tenure/Attribute" "localized" "Z" (.int (0 : Int32)) := Fld.same W21 F19
  show Go p e below _ (T20.setTop (mkF m 25 #[.val (.ref p0), .val (.ref p1), .val v0, .val (.int (1 : Int32)), .val (.int (0 : Int32))] []))
  have F23 : Exa Z h20_ p0 "com/example/tenure/tenure/Attribute" := (Exa.wr W21 F18)
  have F24 : Fld Z h20_ p0 "com/example/tenure/tenure/Attribute" "name" "Ljava/lang/String;" (.ref p1) := (Fld.other W21 (Fld.other W16 (Fld.other W11 F7 (Or.inr (slot_ne (Or.inr (wd43 V)) (Or.inr (wd45 V)) (by decide) (t := (.object "java/lang/String")) (t' := (.object "com/example/tenure/tenure/AttributeType")) (by decide) (by decide)))) (Or.inr (slot_ne (Or.inr (wd43 V)) (Or.inr (wd47 V)) (by decide) (t := (.object "java/lang/String")) (t' := .boolean) (by decide) (by decide)))) (Or.inr (slot_ne (Or.inr (wd43 V)) (Or.inr (wd49 V)) (by decide) (t := (.object "java/lang/String")) (t' := .boolean) (by decide) (by decide))))
  have F25 : Fld Z h20_ p0 "com/example/tenure/tenure/Attribute" "type" "Lcom/example/tenure/tenure/AttributeType;" v0 := (Fld.other W21 (Fld.other W16 F12 (Or.inr (slot_ne (Or.inr (wd45 V)) (Or.inr (wd47 V)) (by decide) (t := (.object "com/example/tenure/tenure/AttributeType")) (t' := .boolean) (by decide) (by decide)))) (Or.inr (slot_ne (Or.inr (wd45 V)) (Or.inr (wd49 V)) (by decide) (t := (.object "com/example/tenure/tenure/AttributeType")) (t' := .boolean) (by decide) (by decide))))
  have F26 : Fld Z h20_ p0 "com/example/tenure/tenure/Attribute" "dated" "Z" (.int (1 : Int32)) := (Fld.other W21 F17 (Or.inr (slot_ne (Or.inr (wd47 V)) (Or.inr (wd49 V)) (by decide) (t := .boolean) (t' := .boolean) (by decide) (by decide))))
  have K27 : Keep h0 h20_ [p0] := (Keep.wr (Keep.wr (Keep.wr (Keep.wr (Keep.refl h0 [p0]) W6 (Or.inl (List.mem_of_getElem? (i := 0) rfl))) W11 (Or.inl (List.mem_of_getElem? (i := 0) rfl))) W16 (Or.inl (List.mem_of_getElem? (i := 0) rfl))) W21 (Or.inl (List.mem_of_getElem? (i := 0) rfl)))
  exact G.retV H20 rfl dc_prog_3_method_1_code_25 (so := []) all0 (by decide) (by decide) ⟨rfl, rfl, K27, F23, F24, F25, F26, F22⟩
set_option maxRecDepth 65536 in
set_option maxHeartbeats 40000000 in
theorem m9_kind {l : Launch} {Z : State} {a0 : Array Value} {n0 : Nat} {z_COMPACT_STRINGS : Int32} {z_SIOOBE_FORMATTER : Value} {a_PLAIN : Addr} {a_DATED : Addr} {a_DATED_LOCALIZED : Addr} {a_LOCALIZED : Addr} {a_DATE : Addr} {a_STRING : Addr} {a_DECIMAL : Addr} (V : Env1 Z a0 n0 z_COMPACT_STRINGS z_SIOOBE_FORMATTER a_PLAIN a_DATED a_DATED_LOCALIZED a_LOCALIZED a_DATE a_STRING a_DECIMAL) (p0 : Addr) (h0 : Heap) (hO : Old Z n0 h0) (f0 : Fld Z h0 p0 "com/example/tenure/tenure/Attribute" "localized" "Z" (.int (0 : Int32))) (f1 : Fld Z h0 p0 "com/example/tenure/tenure/Attribute" "dated" "Z" (.int (1 : Int32))) :
    Met Z a0 [] False n0 l (⟨"com/example/tenure/tenure/Attribute", "kind", "()Lcom/example/tenure/tenure/Attribute$Kind;"⟩ : MethodName) prog_3_method_2_code 1 (Option.some (FieldType.object "com/example/tenure/tenure/Attribute$Kind")) ({ frames := 0, cells := 0, slots := 0, locals := 0 } : Room) #[(.ref p0)] h0 [] (fun v h so => (v = some (.ref a_DATED) ∧ so = [] ∧ h0 = h)) := by
  refine Met.of (EWl V) (by first | decide +kernel | rfl) hO (L0 := #[.val (.ref p0)]) rfl ?_
  intro p e s m below meth c T H
  show Go p e below _ (T.setTop (mkF m 0 #[.val (.ref p0)] []))
  refine G.aloadN H dc_prog_3_method_2_code_0 (pc' := 1) rfl rfl rfl ?_
  refine G.getF H (wd48 V) Via.refl f0 dc_prog_3_method_2_code_1 (pc' := 4) rfl ?_
  intro T1 H2
  refine G.ifYes H2 dc_prog_3_method_2_code_4 (by decide) (by decide) (pc' := 24) rfl ?_
  refine G.aloadN H2 dc_prog_3_method_2_code_24 (pc' := 25) rfl rfl rfl ?_
  refine G.getF H2 (wd46 V) Via.refl f1 dc_prog_3_method_2_code_25 (pc' := 28) rfl ?_
  intro T3 H4
  refine G.ifNo H4 dc_prog_3_method_2_code_28 (pc' := 31) rfl (by decide) ?_
  refine G.getS H4 (wd71 V) Via.refl (Sta.ext H4.old.2 (S_a_DATED V)) dc_prog_3_method_2_code_31 (pc' := 34) rfl ?_
  intro T5 H6
  refine G.goto H6 dc_prog_3_method_2_code_34 (by decide) (pc' := 40) rfl ?_
  exact G.retA H6 (t := (.object "com/example/tenure/tenure/Attribute$Kind")) rfl rfl rfl dc_prog_3_method_2_code_40 (so := []) all0 (by decide) (by decide) ⟨rfl, rfl, rfl⟩
set_option maxRecDepth 65536 in
set_option maxHeartbeats 40000000 in
theorem cut10_67 {l : Launch} {Z : State} {a0 : Array Value} {n0 : Nat} {z_COMPACT_STRINGS : Int32} {z_SIOOBE_FORMATTER : Value} {a_PLAIN : Addr} {a_DATED : Addr} {a_DATED_LOCALIZED : Addr} {a_LOCALIZED : Addr} {a_DATE : Addr} {a_STRING : Addr} {a_DECIMAL : Addr} (V : Env1 Z a0 n0 z_COMPACT_STRINGS z_SIOOBE_FORMATTER a_PLAIN a_DATED a_DATED_LOCALIZED a_LOCALIZED a_DATE a_STRING a_DECIMAL) (x0 : Int32) (x1 : Int32) (x2 : Int32) (x3 : Int32) (x4 : Int32) (v0 : Value) {p : Program} {e : Env} {s : State} {m : MethodId} {as' : Array Value} {below : List Frame} {meth : Method} {c : Code} {T : State} {h0 : Heap} (H : Hs p l e room_1 s m as' below meth c Z a0 [] False x.cls n0 code maxLocals ret x.name T h0 0 0 []) (isRef_v0 : v0.isRef = true) :
    Go p e below (FinP s below Z [] False n0 room_1.cells room_1.slots (fun v h so => v = some (.int 1))) (T.setTop (mkF m 67 #[.val (.int x0), .val (.int x1), .val (.int x2), .val (.int x3), .val (.int (1 : Int32)), .val (.int (0 : Int32)), .val (.int x4), .unset, .unset, .unset, .unset, .unset, .unset] [v0])) := by
  refine G.astore H (L' := #[.val (.int x0), .val (.int x1), .val (.int x2), .val (.int x3), .val (.int (1 : Int32)), .val (.int (0 : Int32)), .val (.int x4), .val v0, .unset, .unset, .unset, .unset, .unset]) at_67 (pc' := 69) rfl isRef_v0 (XS.store1 rfl (by first | exact Or.inl rfl | exact Or.inr ⟨_, rfl, rfl⟩) (XT.cat1 isRef_v0)) ?_
  refine G.iconst H at_69 (pc' := 70) rfl (v := (2 : Int32)) rfl ?_
  refine G.newP H (aty := .char) (wd0 V) at_70 (pc' := 72) rfl (by decide) (cap := 2) (by decide) (by decide) (by decide) (by decide) (vs := [(.int (0 : Int32)), (.int (0 : Int32))]) rfl ?_
  intro T1 h1_ a2 k5 ga2 H1 E3 A4
  have na2 : n0 ≤ a2 := Nat.le_trans H.le (Nat.le_of_eq ga2.symm)
  replace A4 : Arv Z h1_ a2 k5 .char (2 : Int32) [(.int (0 : Int32)), (.int (0 : Int32))] (.int 0) := A4
  show Go p e below _ (T1.setTop (mkF m 72 #[.val (.int x0), .val (.int x1), .val (.int x2), .val (.int x3), .val (.int (1 : Int32)), .val (.int (0 : Int32)), .val (.int x4), .val v0, .unset, .unset, .unset, .unset, .unset] [(.ref a2)]))
  refine G.astore H1 (L' := #[.val (.int x0), .val (.int x1), .val (.int x2), .val (.int x3), .val (.int (1 : Int32)), .val (.int (0 : Int32)), .val (.int x4), .val v0, .val (.ref a2), .unset, .unset, .unset, .unset]) at_72 (pc' := 74) rfl rfl rfl ?_
  refine G.aload H1 at_74 (pc' := 76) rfl rfl rfl ?_
  refine G.iconst H1 at_76 (pc' := 77) rfl (v := (0 : Int32)) rfl ?_
  refine G.iloadN H1 at_77 (pc' := 78) rfl rfl ?_
  refine G.sipush H1 at_78 (pc' := 81) rfl (v := (255 : Int32)) rfl ?_
  refine G.iand H1 at_81 (pc' := 82) rfl ?_
  refine G.i2c H1 (y := (x2 &&& (255 : Int32))) at_82 (pc' := 83) rfl (own_c16 (own_u16 (own_and255 _))) ?_
  refine G.stC H1 A4 (by decide) (i := 0) rfl (Nat.le_of_ble_eq_true rfl) na2 (y := (x2 &&& (255 : Int32))) (own_narC (own_u16 (own_and255 _))) at_83 (pc' := 84) rfl ?_
  intro T6 h6_ H6 W7 A8
  replace A8 : Arv Z h6_ a2 k5 .char (2 : Int32) [(.int (x2 &&& (255 : Int32))), (.int (0 : Int32))] (.int 0) := A8
  show Go p e below _ (T6.setTop (mkF m 84 #[.val (.int x0), .val (.int x1), .val (.int x2), .val (.int x3), .val (.int (1 : Int32)), .val (.int (0 : Int32)), .val (.int x4), .val v0, .val (.ref a2), .unset, .unset, .unset, .unset] []))
  refine G.aload H6 at_84 (pc' := 86) rfl rfl rfl ?_
  refine G.iconst H6 at_86 (pc' := 87) rfl (v := (1 : Int32)) rfl ?_
  refine G.iloadN H6 at_87 (pc' := 88) rfl rfl ?_
  refine G.sipush H6 at_88 (pc' := 91) rfl (v := (255 : Int32)) rfl ?_
  refine G.iand H6 at_91 (pc' := 92) rfl ?_
  refine G.i2c H6 (y := (x3 &&& (255 : Int32))) at_92 (pc' := 93) rfl (own_c16 (own_u16 (own_and255 _))) ?_
  refine G.stC H6 A8 (by decide) (i := 1) rfl (Nat.le_of_ble_eq_true rfl) na2 (y := (x3 &&& (255 : Int32))) (own_narC (own_u16 (own_and255 _))) at_93 (pc' := 94) rfl ?_
  intro T9 h9_ H9 W10 A11
  replace A11 : Arv Z h9_ a2 k5 .char (2 : Int32) [(.int (x2 &&& (255 : Int32))), (.int (x3 &&& (255 : Int32)))] (.int 0) := A11
  show Go p e below _ (T9.setTop (mkF m 94 #[.val (.int x0), .val (.int x1), .val (.int x2), .val (.int x3), .val (.int (1 : Int32)), .val (.int (0 : Int32)), .val (.int x4), .val v0, .val (.ref a2), .unset, .unset, .unset, .unset] []))
  refine G.new H9 (wd1 V) (wd2 V) (wd3 V) at_94 (pc' := 97) rfl (by decide) (by decide) ?_
  intro T12 h12_ a13 ga13 H12 E14 A15 D16
  have na13 : n0 ≤ a13 := Nat.le_trans H9.le (Nat.le_of_eq ga13.symm)
  show Go p e below _ (T12.setTop (mkF m 97 #[.val (.int x0), .val (.int x1), .val (.int x2), .val (.int x3), .val (.int (1 : Int32)), .val (.int (0 : Int32)), .val (.int x4), .val v0, .val (.ref a2), .unset, .unset, .unset, .unset] [(.ref a13)]))
  refine G.dup H12 at_97 (pc' := 98) rfl rfl ?_
  refine G.aload H12 at_98 (pc' := 100) rfl rfl rfl ?_
  have F17 : Arv Z h12_ a2 k5 .char (2 : Int32) [(.int (x2 &&& (255 : Int32))), (.int (x3 &&& (255 : Int32)))] (.int 0) := (Arv.ext A11 E14)
  have F18 : Fld Z h12_ a13 "java/lang/String" "value" "[B" .null := D16 (Or.inr (wd29 V)) (ty := (.array .byte)) (by decide)
  have F19 : Fld Z h12_ a13 "java/lang/String" "coder" "B" (.int (0 : Int32)) := D16 (Or.inr (wd27 V)) (ty := .byte) (by decide)
  refine G.newStr H12 (strw V) (wd2 V) (wd4 V) (wd5 V) (cs := [(x2 &&& (255 : Int32)), (x3 &&& (255 : Int32))]) (n := 2) na13 A15 F18 F19 F17 (s_COMPACT_STRINGS V) (cz V) rfl rfl (by decide) (by decide) (cbS (own_and255 _) (cbS (own_and255 _) cb0)) (Sf.mem (List.mem_of_getElem? (i := 0) rfl)) (rest := [(.ref a13)]) (W := 1) rfl rfl at_100 (pc' := 103) rfl (by decide) (by decide) (by decide) (by decide) ?_
  intro T20 h20_ t21 k22 g25 H20 K23 S24
  have nt21 : n0 ≤ t21 := Nat.le_trans H12.le g25
  refine G.astore H20 (L' := #[.val (.int x0), .val (.int x1), .val (.int x2), .val (.int x3), .val (.int (1 : Int32)), .val (.int (0 : Int32)), .val (.int x4), .val v0, .val (.ref a2), .val (.ref a13), .unset, .unset, .unset]) at_103 (pc' := 105) rfl rfl rfl ?_
  refine G.new H20 (wd30 V) (wd31 V) (wd32 V) at_105 (pc' := 108) rfl (by decide) (by decide) ?_
  intro T26 h26_ a27 ga27 H26 E28 A29 D30
  have na27 : n0 ≤ a27 := Nat.le_trans H20.le (Nat.le_of_eq ga27.symm)
  show Go p e below _ (T26.setTop (mkF m 108 #[.val (.int x0), .val (.int x1), .val (.int x2), .val (.int x3), .val (.int (1 : Int32)), .val (.int (0 : Int32)), .val (.int x4), .val v0, .val (.ref a2), .val (.ref a13), .unset, .unset, .unset] [(.ref a27)]))
  refine G.dup H26 at_108 (pc' := 109) rfl rfl ?_
  refine G.aload H26 at_109 (pc' := 111) rfl rfl rfl ?_
  refine G.aload H26 at_111 (pc' := 113) rfl rfl isRef_v0 ?_
  refine G.iload H26 at_113 (pc' := 115) rfl rfl ?_
  refine G.iload H26 at_115 (pc' := 117) rfl rfl ?_
  have F31 : Fld Z h26_ a27 "com/example/tenure/tenure/Attribute" "name" "Ljava/lang/String;" .null := D30 (Or.inr (wd43 V)) (ty := (.object "java/lang/String")) (by decide)
  have F32 : Fld Z h26_ a27 "com/example/tenure/tenure/Attribute" "type" "Lcom/example/tenure/tenure/AttributeType;" .null := D30 (Or.inr (wd45 V)) (ty := (.object "com/example/tenure/tenure/AttributeType")) (by decide)
  have F33 : Fld Z h26_ a27 "com/example/tenure/tenure/Attribute" "dated" "Z" (.int (0 : Int32)) := D30 (Or.inr (wd47 V)) (ty := .boolean) (by decide)
  have F34 : Fld Z h26_ a27 "com/example/tenure/tenure/Attribute" "localized" "Z" (.int (0 : Int32)) := D30 (Or.inr (wd49 V)) (ty := .boolean) (by decide)
  refine G.callI H26 (m8_init V a27 a13 v0 h26_ H26.old isRef_v0 A29 F31 na27 F32 F33 F34) rfl (wd33 V) (wd34 V) (wd32 V) (wd35 V) (by decide) (a := a27) (argsL := [(.ref a13), v0, (.int (1 : Int32)), (.int (0 : Int32))]) (rest := [(.ref a27)]) (W := 1) rfl rfl (lenOf (pd_1) rfl) rfl rfl at_117 (pc' := 120) rfl (by decide) (by decide) (by decide) (by decide) all0 ?_
  intro T35 h35_ v36 s37 H35 Q38
  obtain ⟨rfl, rfl, K39, F40, F41, F42, F43, F44⟩ := Q38
  show Go p e below _ (T35.setTop (mkF m 120 #[.val (.int x0), .val (.int x1), .val (.int x2), .val (.int x3), .val (.int (1 : Int32)), .val (.int (0 : Int32)), .val (.int x4), .val v0, .val (.ref a2), .val (.ref a13), .unset, .unset, .unset] [(.ref a27)]))
  refine G.callV H35 (m9_kind V a27 h35_ H35.old F44 F43) (wd50 V) (wd51 V) (nf_sel (wd53 V)) (wd53 V) (wd52 V) (wd32 V) (wd54 V) (by decide) F40 (argsL := []) (rest := []) (W := 0) rfl rfl (lenOf (pd_2) rfl) rfl rfl at_120 (pc' := 123) rfl (by decide) (by decide) (by decide) (by decide) all0 ?_
  intro T45 h45_ v46 s47 H45 Q48
  obtain ⟨rfl, rfl, rfl⟩ := Q48
  show Go p e below _ (T45.setTop (mkF m 123 #[.val (.int x0), .val (.int x1), .val (.int x2), .val (.int x3), .val (.int (1 : Int32)), .val (.int (0 : Int32)), .val (.int x4), .val v0, .val (.ref a2), .val (.ref a13), .unset, .unset, .unset] [(.ref a_DATED)]))
  refine G.astore H45 (L' := #[.val (.int x0), .val (.int x1), .val (.int x2), .val (.int x3), .val (.int (1 : Int32)), .val (.int (0 : Int32)), .val (.int x4), .val v0, .val (.ref a2), .val (.ref a13), .val (.ref a_DATED), .unset, .unset]) at_123 (pc' := 125) rfl rfl rfl ?_
  refine G.aload H45 at_125 (pc' := 127) rfl rfl rfl ?_
  refine G.ifnonnullYes H45 at_127 (by decide) (pc' := 132) rfl ?_
  refine G.aload H45 at_132 (pc' := 134) rfl rfl rfl ?_
  refine G.getS H45 (wd58 V) Via.refl (Sta.ext H45.old.2 (S_a_DATED V)) at_134 (pc' := 137) rfl ?_
  intro T49 H50
  refine G.acmpYes H50 at_137 rfl rfl (XT.aa_eq_t rfl) (by decide) (pc' := 148) rfl ?_
  refine G.iconst H50 at_148 (pc' := 149) rfl (v := (1 : Int32)) rfl ?_
  refine G.goto H50 at_149 (by decide) (pc' := 153) rfl ?_
  refine G.istore H50 (L' := #[.val (.int x0), .val (.int x1), .val (.int x2), .val (.int x3), .val (.int (1 : Int32)), .val (.int (0 : Int32)), .val (.int x4), .val v0, .val (.ref a2), .val (.ref a13), .val (.ref a_DATED), .val (.int (1 : Int32)), .unset]) at_153 (pc' := 155) rfl rfl ?_
  refine G.aload H50 at_155 (pc' := 157) rfl rfl rfl ?_
  refine G.getS H50 (wd62 V) Via.refl (Sta.ext H50.old.2 (S_a_LOCALIZED V)) at_157 (pc' := 160) rfl ?_
  intro T51 H52
  refine G.acmpNo H52 at_160 (pc' := 163) rfl rfl rfl (XT.aa_eq_f (fun q => (Fld.ne (F_a_DATED_ordinal V) (F_a_LOCALIZED_ordinal V) (by decide)) (Value.ref.inj q))) ?_
  refine G.aload H52 at_163 (pc' := 165) rfl rfl rfl ?_
  refine G.getS H52 (wd60 V) Via.refl (Sta.ext H52.old.2 (S_a_DATED_LOCALIZED V)) at_165 (pc' := 168) rfl ?_
  intro T53 H54
  refine G.acmpYes H54 at_168 rfl rfl (XT.aa_ne_t (fun q => (Fld.ne (F_a_DATED_ordinal V) (F_a_DATED_LOCALIZED_ordinal V) (by decide)) (Value.ref.inj q))) (by decide) (pc' := 175) rfl ?_
  refine G.iconst H54 at_175 (pc' := 176) rfl (v := (0 : Int32)) rfl ?_
  refine G.istore H54 (L' := #[.val (.int x0), .val (.int x1), .val (.int x2), .val (.int x3), .val (.int (1 : Int32)), .val (.int (0 : Int32)), .val (.int x4), .val v0, .val (.ref a2), .val (.ref a13), .val (.ref a_DATED), .val (.int (1 : Int32)), .val (.int (0 : Int32))]) at_176 (pc' := 178) rfl rfl ?_
  refine G.iload H54 at_178 (pc' := 180) rfl rfl ?_
  refine G.iload H54 at_180 (pc' := 182) rfl rfl ?_
  refine G.icmpNo H54 at_182 (pc' := 185) rfl (by decide) ?_
  refine G.iload H54 at_185 (pc' := 187) rfl rfl ?_
  refine G.iload H54 at_187 (pc' := 189) rfl rfl ?_
  refine G.icmpNo H54 at_189 (pc' := 192) rfl (by decide) ?_
  refine G.iconst H54 at_192 (pc' := 193) rfl (v := (1 : Int32)) rfl ?_
  refine G.goto H54 at_193 (by decide) (pc' := 197) rfl ?_
  exact G.retN H54 (t := .boolean) rfl (by decide) at_197 (so := []) all0 (by decide) (by decide) rfl
set_option maxRecDepth 65536 in
set_option maxHeartbeats 40000000 in
theorem m11_init {l : Launch} {Z : State} {a0 : Array Value} {n0 : Nat} {z_COMPACT_STRINGS : Int32} {z_SIOOBE_FORMATTER : Value} {a_PLAIN : Addr} {a_DATED : Addr} {a_DATED_LOCALIZED : Addr} {a_LOCALIZED : Addr} {a_DATE : Addr} {a_STRING : Addr} {a_DECIMAL : Addr} (V : Env1 Z a0 n0 z_COMPACT_STRINGS z_SIOOBE_FORMATTER a_PLAIN a_DATED a_DATED_LOCALIZED a_LOCALIZED a_DATE a_STRING a_DECIMAL) (p0 : Addr) (p1 : Addr) (v0 : Value) (h0 : Heap) (hO : Old Z n0 h0) (isRef_v0 : v0.isRef = true) (f1 : Exa Z h0 p0 "com/example/tenure/tenure/Attribute") (f2 : Fld Z h0 p0 "com/example/tenure/tenure/Attribute" "name" "Ljava/lang/String;" .null) (g3 : n0 ≤ p0) (f4 : Fld Z h0 p0 "com/example/tenure/tenure/Attribute" "type" "Lcom/example/tenure/tenure/AttributeType;" .null) (f5 : Fld Z h0 p0 "com/example/tenure/tenure/Attribute" "dated" "Z" (.int (0 : Int32))) (f6 : Fld Z h0 p0 "com/example/tenure/tenure/Attribute" "localized" "Z" (.int (0 : Int32))) :
    Met Z a0 [] False n0 l (⟨"com/example/tenure/tenure/Attribute", "<init>", "(Ljava/lang/String;Lcom/example/tenure/tenure/AttributeType;ZZ)V"⟩ : MethodName) prog_3_method_1_code 5 (Option.none : Option FieldType) ({ frames := 2, cells := 0, slots := 0, locals := 24 } : Room) #[(.ref p0), (.ref p1), v0, (.int (1 : Int32)), (.int (1 : Int32))] h0 [] (fun v h so => (v = none ∧ so = [] ∧ Keep h0 h [p0] ∧ Exa Z h p0 "com/example/tenure/tenure/Attribute" ∧ Fld Z h p0 "com/example/tenure/tenure/Attribute" "name" "Ljava/lang/String;" (.ref p1) ∧ Fld Z h p0 "com/example/tenure/tenure/Attribute" "type" "Lcom/example/tenure/tenure/AttributeType;" v0 ∧ Fld Z h p0 "com/example/tenure/tenure/Attribute" "dated" "Z" (.int (1 : Int32)) ∧ Fld Z h p0 "com/example/tenure/tenure/Attribute" "localized" "Z" (.int (1 : Int32)))) := by
  refine Met.of (EWl V) (by first | decide +kernel | rfl) hO (L0 := #[.val (.ref p0), .val (.ref p1), .val v0, .val (.int (1 : Int32)), .val (.int (1 : Int32))]) (by rcases XT.refc isRef_v0 with rfl | ⟨_, rfl⟩ <;> rfl) ?_
  intro p e s m below meth c T H
  show Go p e below _ (T.setTop (mkF m 0 #[.val (.ref p0), .val (.ref p1), .val v0, .val (.int (1 : Int32)), .val (.int (1 : Int32))] []))
  refine G.aloadN H dc_prog_3_method_1_code_0 (pc' := 1) rfl rfl rfl ?_
  refine G.callI H (m1_init V p0 h0 H.old) rfl (wd36 V) (wd37 V) (wd39 V) (wd40 V) (by decide) (a := p0) (argsL := []) (rest := []) (W := 0) rfl rfl (lenOf (pd_0) rfl) rfl rfl dc_prog_3_method_1_code_1 (pc' := 4) rfl (by decide) (by decide) (by decide) (by decide) all0 ?_
  intro T1 h1_ v2 s3 H1 Q4
  obtain ⟨rfl, rfl, rfl⟩ := Q4
  show Go p e below _ (T1.setTop (mkF m 4 #[.val (.ref p0), .val (.ref p1), .val v0, .val (.int (1 : Int32)), .val (.int (1 : Int32))] []))
  refine G.aloadN H1 dc_prog_3_method_1_code_4 (pc' := 5) rfl rfl rfl ?_
  refine G.aloadN H1 dc_prog_3_method_1_code_5 (pc' := 6) rfl rfl rfl ?_
  refine G.putF H1 (wd42 V) Via.refl f2 f1 (Or.inr ⟨(wd43 V), rfl, rfl⟩) (wd31 V) (ty := (.object "java/lang/String")) (by decide) rfl rfl g3 (Sf.exa f1) dc_prog_3_method_1_code_6 (pc' := 9) rfl ?_
  intro T5 h5_ H5 W6
  have F7 : Fld Z h5_ p0 "com/example/tenure/tenure/Attribute" "name" "Ljava/lang/String;" (.ref p1) := Fld.same W6 f2
  show Go p e below _ (T5.setTop (mkF m 9 #[.val (.ref p0), .val (.ref p1), .val v0, .val (.int (1 : Int32)), .val (.int (1 : Int32))] []))
  refine G.aloadN H5 dc_prog_3_method_1_code_9 (pc' := 10) rfl rfl rfl ?_
  refine G.aloadN H5 dc_prog_3_method_1_code_10 (pc' := 11) rfl rfl isRef_v0 ?_
  have F8 : Exa Z h5_ p0 "com/example/tenure/tenure/Attribute" := (Exa.wr W6 f1)
  have F9 : Fld Z h5_ p0 "com/example/tenure/tenure/Attribute" "type" "Lcom/example/tenure/tenure/AttributeType;" .null := (Fld.other W6 f4 (Or.inr (slot_ne (Or.inr (wd45 V)) (Or.inr (wd43 V)) (by decide) (t := (.object "com/example/tenure/tenure/AttributeType")) (t' := (.object "java/lang/String")) (by decide) (by decide))))
  refine G.putF H5 (wd44 V) Via.refl F9 F8 (Or.inr ⟨(wd45 V), rfl, rfl⟩) (wd31 V) (ty := (.object "com/example/tenure/tenure/AttributeType")) (by decide) (own_pnA isRef_v0 rfl) (own_pfA isRef_v0 rfl) g3 (Sf.exa F8) dc_prog_3_method_1_code_11 (pc' := 14) rfl ?_
  intro T10 h10_ H10 W11
  have F12 : Fld Z h10_ p0 "com/example/tenure/tenure/Attribute" "type" "Lcom/example/tenure/tenure/AttributeType;" v0 := Fld.same W11 F9
  show Go p e below _ (T10.setTop (mkF m 14 #[.val (.ref p0), .val (.ref p1), .val v0, .val (.int (1 : Int32)), .val (.int (1 : Int32))] []))
  refine G.aloadN H10 dc_prog_3_method_1_code_14 (pc' := 15) rfl rfl rfl ?_
  refine G.iloadN H10 dc_prog_3_method_1_code_15 (pc' := 16) rfl rfl ?_
  have F13 : Exa Z h10_ p0 "com/example/tenure/tenure/Attribute" := (Exa.wr W11 F8)
  have F14 : Fld Z h10_ p0 "com/example/tenure/tenure/Attribute" "dated" "Z" (.int (0 : Int32)) := (Fld.other W11 (Fld.other W6 f5 (Or.inr (slot_ne (Or.inr (wd47 V)) (Or.inr (wd43 V)) (by decide) (t := .boolean) (t' := (.object "java/lang/String")) (by decide) (by decide)))) (Or.inr (slot_ne (Or.inr (wd47 V)) (Or.inr (wd45 V)) (by decide) (t := .boolean) (t' := (.object "com/example/tenure/tenure/AttributeType")) (by decide) (by decide))))
  refine G.putF H10 (wd46 V) Via.refl F14 F13 (Or.inr ⟨(wd47 V), rfl, rfl⟩) (wd31 V) (ty := .boolean) (by decide) rfl rfl g3 (Sf.exa F13) dc_prog_3_method_1_code_16 (pc' := 19) rfl ?_
  intro T15 h15_ H15 W16
  have F17 : Fld Z h15_ p0 "com/example/tenure/tenure/Attribute" "dated" "Z" (.int (1 : Int32)) := Fld.same W16 F14
  show Go p e below _ (T15.setTop (mkF m 19 #[.val (.ref p0), .val (.ref p1), .val v0, .val (.int (1 : Int32)), .val (.int (1 : Int32))] []))
  refine G.aloadN H15 dc_prog_3_method_1_code_19 (pc' := 20) rfl rfl rfl ?_
  refine G.iload H15 dc_prog_3_method_1_code_20 (pc' := 22) rfl rfl ?_
  have F18 : Exa Z h15_ p0 "com/example/tenure/tenure/Attribute" := (Exa.wr W16 F13)
  have F19 : Fld Z h15_ p0 "com/example/tenure/tenure/Attribute" "localized" "Z" (.int (0 : Int32)) := (Fld.other W16 (Fld.other W11 (Fld.other W6 f6 (Or.inr (slot_ne (Or.inr (wd49 V)) (Or.inr (wd43 V)) (by decide) (t := .boolean) (t' := (.object "java/lang/String")) (by decide) (by decide)))) (Or.inr (slot_ne (Or.inr (wd49 V)) (Or.inr (wd45 V)) (by decide) (t := .boolean) (t' := (.object "com/example/tenure/tenure/AttributeType")) (by decide) (by decide)))) (Or.inr (slot_ne (Or.inr (wd49 V)) (Or.inr (wd47 V)) (by decide) (t := .boolean) (t' := .boolean) (by decide) (by decide))))
  refine G.putF H15 (wd48 V) Via.refl F19 F18 (Or.inr ⟨(wd49 V), rfl, rfl⟩) (wd31 V) (ty := .boolean) (by decide) rfl rfl g3 (Sf.exa F18) dc_prog_3_method_1_code_22 (pc' := 25) rfl ?_
  intro T20 h20_ H20 W21
  have F22 : Fld Z h20_ p0 "com/example/tenure/tenure/Attribute" "localized" "Z" (.int (1 : Int32)) := Fld.same W21 F19
  show Go p e below _ (T20.setTop (mkF m 25 #[.val (.ref p0), .val (.ref p1), .val v0, .val (.int (1 : Int32)), .val (.int (1 : Int32))] []))
  have F23 : Exa Z h20_ p0 "com/example/tenure/tenure/Attribute" := (Exa.wr W21 F18)
  have F24 : Fld Z h20_ p0 "com/example/tenure/tenure/Attribute" "name" "Ljava/lang/String;" (.ref p1) := (Fld.other W21 (Fld.other W16 (Fld.other W11 F7 (Or.inr (slot_ne (Or.inr (wd43 V)) (Or.inr (wd45 V)) (by decide) (t := (.object "java/lang/String")) (t' := (.object "com/example/tenure/tenure/AttributeType")) (by decide) (by decide)))) (Or.inr (slot_ne (Or.inr (wd43 V)) (Or.inr (wd47 V)) (by decide) (t := (.object "java/lang/String")) (t' := .boolean) (by decide) (by decide)))) (Or.inr (slot_ne (Or.inr (wd43 V)) (Or.inr (wd49 V)) (by decide) (t := (.object "java/lang/String")) (t' := .boolean) (by decide) (by decide))))
  have F25 : Fld Z h20_ p0 "com/example/tenure/tenure/Attribute" "type" "Lcom/example/tenure/tenure/AttributeType;" v0 := (Fld.other W21 (Fld.other W16 F12 (Or.inr (slot_ne (Or.inr (wd45 V)) (Or.inr (wd47 V)) (by decide) (t := (.object "com/example/tenure/tenure/AttributeType")) (t' := .boolean) (by decide) (by decide)))) (Or.inr (slot_ne (Or.inr (wd45 V)) (Or.inr (wd49 V)) (by decide) (t := (.object "com/example/tenure/tenure/AttributeType")) (t' := .boolean) (by decide) (by decide))))
  have F26 : Fld Z h20_ p0 "com/example/tenure/tenure/Attribute" "dated" "Z" (.int (1 : Int32)) := (Fld.other W21 F17 (Or.inr (slot_ne (Or.inr (wd47 V)) (Or.inr (wd49 V)) (by decide) (t := .boolean) (t' := .boolean) (by decide) (by decide))))
  have K27 : Keep h0 h20_ [p0] := (Keep.wr (Keep.wr (Keep.wr (Keep.wr (Keep.refl h0 [p0]) W6 (Or.inl (List.mem_of_getElem? (i := 0) rfl))) W11 (Or.inl (List.mem_of_getElem? (i := 0) rfl))) W16 (Or.inl (List.mem_of_getElem? (i := 0) rfl))) W21 (Or.inl (List.mem_of_getElem? (i := 0) rfl)))
  exact G.retV H20 rfl dc_prog_3_method_1_code_25 (so := []) all0 (by decide) (by decide) ⟨rfl, rfl, K27, F23, F24, F25, F26, F22⟩
set_option maxRecDepth 65536 in
set_option maxHeartbeats 40000000 in
theorem m12_kind {l : Launch} {Z : State} {a0 : Array Value} {n0 : Nat} {z_COMPACT_STRINGS : Int32} {z_SIOOBE_FORMATTER : Value} {a_PLAIN : Addr} {a_DATED : Addr} {a_DATED_LOCALIZED : Addr} {a_LOCALIZED : Addr} {a_DATE : Addr} {a_STRING : Addr} {a_DECIMAL : Addr} (V : Env1 Z a0 n0 z_COMPACT_STRINGS z_SIOOBE_FORMATTER a_PLAIN a_DATED a_DATED_LOCALIZED a_LOCALIZED a_DATE a_STRING a_DECIMAL) (p0 : Addr) (h0 : Heap) (hO : Old Z n0 h0) (f0 : Fld Z h0 p0 "com/example/tenure/tenure/Attribute" "localized" "Z" (.int (1 : Int32))) (f1 : Fld Z h0 p0 "com/example/tenure/tenure/Attribute" "dated" "Z" (.int (1 : Int32))) :
    Met Z a0 [] False n0 l (⟨"com/example/tenure/tenure/Attribute", "kind", "()Lcom/example/tenure/tenure/Attribute$Kind;"⟩ : MethodName) prog_3_method_2_code 1 (Option.some (FieldType.object "com/example/tenure/tenure/Attribute$Kind")) ({ frames := 0, cells := 0, slots := 0, locals := 0 } : Room) #[(.ref p0)] h0 [] (fun v h so => (v = some (.ref a_DATED_LOCALIZED) ∧ so = [] ∧ h0 = h)) := by
  refine Met.of (EWl V) (by first | decide +kernel | rfl) hO (L0 := #[.val (.ref p0)]) rfl ?_
  intro p e s m below meth c T H
  show Go p e below _ (T.setTop (mkF m 0 #[.val (.ref p0)] []))
  refine G.aloadN H dc_prog_3_method_2_code_0 (pc' := 1) rfl rfl rfl ?_
  refine G.getF H (wd48 V) Via.refl f0 dc_prog_3_method_2_code_1 (pc' := 4) rfl ?_
  intro T1 H2
  refine G.ifNo H2 dc_prog_3_method_2_code_4 (pc' := 7) rfl (by decide) ?_
  refine G.aloadN H2 dc_prog_3_method_2_code_7 (pc' := 8) rfl rfl rfl ?_
  refine G.getF H2 (wd46 V) Via.refl f1 dc_prog_3_method_2_code_8 (pc' := 11) rfl ?_
  intro T3 H4
  refine G.ifNo H4 dc_prog_3_method_2_code_11 (pc' := 14) rfl (by decide) ?_
  refine G.getS H4 (wd64 V) Via.refl (Sta.ext H4.old.2 (S_a_DATED_LOCALIZED V)) dc_prog_3_method_2_code_14 (pc' := 17) rfl ?_
  intro T5 H6
  refine G.goto H6 dc_prog_3_method_2_code_17 (by decide) (pc' := 23) rfl ?_
  exact G.retA H6 (t := (.object "com/example/tenure/tenure/Attribute$Kind")) rfl rfl rfl dc_prog_3_method_2_code_23 (so := []) all0 (by decide) (by decide) ⟨rfl, rfl, rfl⟩
set_option maxRecDepth 65536 in
set_option maxHeartbeats 40000000 in
theorem cut13_67 {l : Launch} {Z : State} {a0 : Array Value} {n0 : Nat} {z_COMPACT_STRINGS : Int32} {z_SIOOBE_FORMATTER : Value} {a_PLAIN : Addr} {a_DATED : Addr} {a_DATED_LOCALIZED : Addr} {a_LOCALIZED : Addr} {a_DATE : Addr} {a_STRING : Addr} {a_DECIMAL : Addr} (V : Env1 Z a0 n0 z_COMPACT_STRINGS z_SIOOBE_FORMATTER a_PLAIN a_DATED a_DATED_LOCALIZED a_LOCALIZED a_DATE a_STRING a_DECIMAL) (x0 : Int32) (x1 : Int32) (x2 : Int32) (x3 : Int32) (x4 : Int32) (v0 : Value) {p : Program} {e : Env} {s : State} {m : MethodId} {as' : Array Value} {below : List Frame} {meth : Method} {c : Code} {T : State} {h0 : Heap} (H : Hs p l e room_1 s m as' below meth c Z a0 [] False x.cls n0 code maxLocals ret x.name T h0 0 0 []) (isRef_v0 : v0.isRef = true) :
    Go p e below (FinP s below Z [] False n0 room_1.cells room_1.slots (fun v h so => v = some (.int 1))) (T.setTop (mkF m 67 #[.val (.int x0), .val (.int x1), .val (.int x2), .val (.int x3), .val (.int (1 : Int32)), .val (.int (1 : Int32)), .val (.int x4), .unset, .unset, .unset, .unset, .unset, .unset] [v0])) := by
  refine G.astore H (L' := #[.val (.int x0), .val (.int x1), .val (.int x2), .val (.int x3), .val (.int (1 : Int32)), .val (.int (1 : Int32)), .val (.int x4), .val v0, .unset, .unset, .unset, .unset, .unset]) at_67 (pc' := 69) rfl isRef_v0 (XS.store1 rfl (by first | exact Or.inl rfl | exact Or.inr ⟨_, rfl, rfl⟩) (XT.cat1 isRef_v0)) ?_
  refine G.iconst H at_69 (pc' := 70) rfl (v := (2 : Int32)) rfl ?_
  refine G.newP H (aty := .char) (wd0 V) at_70 (pc' := 72) rfl (by decide) (cap := 2) (by decide) (by decide) (by decide) (by decide) (vs := [(.int (0 : Int32)), (.int (0 : Int32))]) rfl ?_
  intro T1 h1_ a2 k5 ga2 H1 E3 A4
  have na2 : n0 ≤ a2 := Nat.le_trans H.le (Nat.le_of_eq ga2.symm)
  replace A4 : Arv Z h1_ a2 k5 .char (2 : Int32) [(.int (0 : Int32)), (.int (0 : Int32))] (.int 0) := A4
  show Go p e below _ (T1.setTop (mkF m 72 #[.val (.int x0), .val (.int x1), .val (.int x2), .val (.int x3), .val (.int (1 : Int32)), .val (.int (1 : Int32)), .val (.int x4), .val v0, .unset, .unset, .unset, .unset, .unset] [(.ref a2)]))
  refine G.astore H1 (L' := #[.val (.int x0), .val (.int x1), .val (.int x2), .val (.int x3), .val (.int (1 : Int32)), .val (.int (1 : Int32)), .val (.int x4), .val v0, .val (.ref a2), .unset, .unset, .unset, .unset]) at_72 (pc' := 74) rfl rfl rfl ?_
  refine G.aload H1 at_74 (pc' := 76) rfl rfl rfl ?_
  refine G.iconst H1 at_76 (pc' := 77) rfl (v := (0 : Int32)) rfl ?_
  refine G.iloadN H1 at_77 (pc' := 78) rfl rfl ?_
  refine G.sipush H1 at_78 (pc' := 81) rfl (v := (255 : Int32)) rfl ?_
  refine G.iand H1 at_81 (pc' := 82) rfl ?_
  refine G.i2c H1 (y := (x2 &&& (255 : Int32))) at_82 (pc' := 83) rfl (own_c16 (own_u16 (own_and255 _))) ?_
  refine G.stC H1 A4 (by decide) (i := 0) rfl (Nat.le_of_ble_eq_true rfl) na2 (y := (x2 &&& (255 : Int32))) (own_narC (own_u16 (own_and255 _))) at_83 (pc' := 84) rfl ?_
  intro T6 h6_ H6 W7 A8
  replace A8 : Arv Z h6_ a2 k5 .char (2 : Int32) [(.int (x2 &&& (255 : Int32))), (.int (0 : Int32))] (.int 0) := A8
  show Go p e below _ (T6.setTop (mkF m 84 #[.val (.int x0), .val (.int x1), .val (.int x2), .val (.int x3), .val (.int (1 : Int32)), .val (.int (1 : Int32)), .val (.int x4), .val v0, .val (.ref a2), .unset, .unset, .unset, .unset] []))
  refine G.aload H6 at_84 (pc' := 86) rfl rfl rfl ?_
  refine G.iconst H6 at_86 (pc' := 87) rfl (v := (1 : Int32)) rfl ?_
  refine G.iloadN H6 at_87 (pc' := 88) rfl rfl ?_
  refine G.sipush H6 at_88 (pc' := 91) rfl (v := (255 : Int32)) rfl ?_
  refine G.iand H6 at_91 (pc' := 92) rfl ?_
  refine G.i2c H6 (y := (x3 &&& (255 : Int32))) at_92 (pc' := 93) rfl (own_c16 (own_u16 (own_and255 _))) ?_
  refine G.stC H6 A8 (by decide) (i := 1) rfl (Nat.le_of_ble_eq_true rfl) na2 (y := (x3 &&& (255 : Int32))) (own_narC (own_u16 (own_and255 _))) at_93 (pc' := 94) rfl ?_
  intro T9 h9_ H9 W10 A11
  replace A11 : Arv Z h9_ a2 k5 .char (2 : Int32) [(.int (x2 &&& (255 : Int32))), (.int (x3 &&& (255 : Int32)))] (.int 0) := A11
  show Go p e below _ (T9.setTop (mkF m 94 #[.val (.int x0), .val (.int x1), .val (.int x2), .val (.int x3), .val (.int (1 : Int32)), .val (.int (1 : Int32)), .val (.int x4), .val v0, .val (.ref a2), .unset, .unset, .unset, .unset] []))
  refine G.new H9 (wd1 V) (wd2 V) (wd3 V) at_94 (pc' := 97) rfl (by decide) (by decide) ?_
  intro T12 h12_ a13 ga13 H12 E14 A15 D16
  have na13 : n0 ≤ a13 := Nat.le_trans H9.le (Nat.le_of_eq ga13.symm)
  show Go p e below _ (T12.setTop (mkF m 97 #[.val (.int x0), .val (.int x1), .val (.int x2), .val (.int x3), .val (.int (1 : Int32)), .val (.int (1 : Int32)), .val (.int x4), .val v0, .val (.ref a2), .unset, .unset, .unset, .unset] [(.ref a13)]))
  refine G.dup H12 at_97 (pc' := 98) rfl rfl ?_
  refine G.aload H12 at_98 (pc' := 100) rfl rfl rfl ?_
  have F17 : Arv Z h12_ a2 k5 .char (2 : Int32) [(.int (x2 &&& (255 : Int32))), (.int (x3 &&& (255 : Int32)))] (.int 0) := (Arv.ext A11 E14)
  have F18 : Fld Z h12_ a13 "java/lang/String" "value" "[B" .null := D16 (Or.inr (wd29 V)) (ty := (.array .byte)) (by decide)
  have F19 : Fld Z h12_ a13 "java/lang/String" "coder" "B" (.int (0 : Int32)) := D16 (Or.inr (wd27 V)) (ty := .byte) (by decide)
  refine G.newStr H12 (strw V) (wd2 V) (wd4 V) (wd5 V) (cs := [(x2 &&& (255 : Int32)), (x3 &&& (255 : Int32))]) (n := 2) na13 A15 F18 F19 F17 (s_COMPACT_STRINGS V) (cz V) rfl rfl (by decide) (by decide) (cbS (own_and255 _) (cbS (own_and255 _) cb0)) (Sf.mem (List.mem_of_getElem? (i := 0) rfl)) (rest := [(.ref a13)]) (W := 1) rfl rfl at_100 (pc' := 103) rfl (by decide) (by decide) (by decide) (by decide) ?_
  intro T20 h20_ t21 k22 g25 H20 K23 S24
  have nt21 : n0 ≤ t21 := Nat.le_trans H12.le g25
  refine G.astore H20 (L' := #[.val (.int x0), .val (.int x1), .val (.int x2), .val (.int x3), .val (.int (1 : Int32)), .val (.int (1 : Int32)), .val (.int x4), .val v0, .val (.ref a2), .val (.ref a13), .unset, .unset, .unset]) at_103 (pc' := 105) rfl rfl rfl ?_
  refine G.new H20 (wd30 V) (wd31 V) (wd32 V) at_105 (pc' := 108) rfl (by decide) (by decide) ?_
  intro T26 h26_ a27 ga27 H26 E28 A29 D30
  have na27 : n0 ≤ a27 := Nat.le_trans H20.le (Nat.le_of_eq ga27.symm)
  show Go p e below _ (T26.setTop (mkF m 108 #[.val (.int x0), .val (.int x1), .val (.int x2), .val (.int x3), .val (.int (1 : Int32)), .val (.int (1 : Int32)), .val (.int x4), .val v0, .val (.ref a2), .val (.ref a13), .unset, .unset, .unset] [(.ref a27)]))
  refine G.dup H26 at_108 (pc' := 109) rfl rfl ?_
  refine G.aload H26 at_109 (pc' := 111) rfl rfl rfl ?_
  refine G.aload H26 at_111 (pc' := 113) rfl rfl isRef_v0 ?_
  refine G.iload H26 at_113 (pc' := 115) rfl rfl ?_
  refine G.iload H26 at_115 (pc' := 117) rfl rfl ?_
  have F31 : Fld Z h26_ a27 "com/example/tenure/tenure/Attribute" "name" "Ljava/lang/String;" .null := D30 (Or.inr (wd43 V)) (ty := (.object "java/lang/String")) (by decide)
  have F32 : Fld Z h26_ a27 "com/example/tenure/tenure/Attribute" "type" "Lcom/example/tenure/tenure/AttributeType;" .null := D30 (Or.inr (wd45 V)) (ty := (.object "com/example/tenure/tenure/AttributeType")) (by decide)
  have F33 : Fld Z h26_ a27 "com/example/tenure/tenure/Attribute" "dated" "Z" (.int (0 : Int32)) := D30 (Or.inr (wd47 V)) (ty := .boolean) (by decide)
  have F34 : Fld Z h26_ a27 "com/example/tenure/tenure/Attribute" "localized" "Z" (.int (0 : Int32)) := D30 (Or.inr (wd49 V)) (ty := .boolean) (by decide)
  refine G.callI H26 (m11_init V a27 a13 v0 h26_ H26.old isRef_v0 A29 F31 na27 F32 F33 F34) rfl (wd33 V) (wd34 V) (wd32 V) (wd35 V) (by decide) (a := a27) (argsL := [(.ref a13), v0, (.int (1 : Int32)), (.int (1 : Int32))]) (rest := [(.ref a27)]) (W := 1) rfl rfl (lenOf (pd_1) rfl) rfl rfl at_117 (pc' := 120) rfl (by decide) (by decide) (by decide) (by decide) all0 ?_
  intro T35 h35_ v36 s37 H35 Q38
  obtain ⟨rfl, rfl, K39, F40, F41, F42, F43, F44⟩ := Q38
  show Go p e below _ (T35.setTop (mkF m 120 #[.val (.int x0), .val (.int x1), .val (.int x2), .val (.int x3), .val (.int (1 : Int32)), .val (.int (1 : Int32)), .val (.int x4), .val v0, .val (.ref a2), .val (.ref a13), .unset, .unset, .unset] [(.ref a27)]))
  refine G.callV H35 (m12_kind V a27 h35_ H35.old F44 F43) (wd50 V) (wd51 V) (nf_sel (wd53 V)) (wd53 V) (wd52 V) (wd32 V) (wd54 V) (by decide) F40 (argsL := []) (rest := []) (W := 0) rfl rfl (lenOf (pd_2) rfl) rfl rfl at_120 (pc' := 123) rfl (by decide) (by decide) (by decide) (by decide) all0 ?_
  intro T45 h45_ v46 s47 H45 Q48
  obtain ⟨rfl, rfl, rfl⟩ := Q48
  show Go p e below _ (T45.setTop (mkF m 123 #[.val (.int x0), .val (.int x1), .val (.int x2), .val (.int x3), .val (.int (1 : Int32)), .val (.int (1 : Int32)), .val (.int x4), .val v0, .val (.ref a2), .val (.ref a13), .unset, .unset, .unset] [(.ref a_DATED_LOCALIZED)]))
  refine G.astore H45 (L' := #[.val (.int x0), .val (.int x1), .val (.int x2), .val (.int x3), .val (.int (1 : Int32)), .val (.int (1 : Int32)), .val (.int x4), .val v0, .val (.ref a2), .val (.ref a13), .val (.ref a_DATED_LOCALIZED), .unset, .unset]) at_123 (pc' := 125) rfl rfl rfl ?_
  refine G.aload H45 at_125 (pc' := 127) rfl rfl rfl ?_
  refine G.ifnonnullYes H45 at_127 (by decide) (pc' := 132) rfl ?_
  refine G.aload H45 at_132 (pc' := 134) rfl rfl rfl ?_
  refine G.getS H45 (wd58 V) Via.refl (Sta.ext H45.old.2 (S_a_DATED V)) at_134 (pc' := 137) rfl ?_
  intro T49 H50
  refine G.acmpNo H50 at_137 (pc' := 140) rfl rfl rfl (XT.aa_eq_f (fun q => (Ne.symm (Fld.ne (F_a_DATED_ordinal V) (F_a_DATED_LOCALIZED_ordinal V) (by decide))) (Value.ref.inj q))) ?_
  refine G.aload H50 at_140 (pc' := 142) rfl rfl rfl ?_
  refine G.getS H50 (wd60 V) Via.refl (Sta.ext H50.old.2 (S_a_DATED_LOCALIZED V)) at_142 (pc' := 145) rfl ?_
  intro T51 H52
  refine G.acmpNo H52 at_145 (pc' := 148) rfl rfl rfl (XT.aa_ne_f rfl) ?_
  refine G.iconst H52 at_148 (pc' := 149) rfl (v := (1 : Int32)) rfl ?_
  refine G.goto H52 at_149 (by decide) (pc' := 153) rfl ?_
  refine G.istore H52 (L' := #[.val (.int x0), .val (.int x1), .val (.int x2), .val (.int x3), .val (.int (1 : Int32)), .val (.int (1 : Int32)), .val (.int x4), .val v0, .val (.ref a2), .val (.ref a13), .val (.ref a_DATED_LOCALIZED), .val (.int (1 : Int32)), .unset]) at_153 (pc' := 155) rfl rfl ?_
  refine G.aload H52 at_155 (pc' := 157) rfl rfl rfl ?_
  refine G.getS H52 (wd62 V) Via.refl (Sta.ext H52.old.2 (S_a_LOCALIZED V)) at_157 (pc' := 160) rfl ?_
  intro T53 H54
  refine G.acmpNo H54 at_160 (pc' := 163) rfl rfl rfl (XT.aa_eq_f (fun q => (Fld.ne (F_a_DATED_LOCALIZED_ordinal V) (F_a_LOCALIZED_ordinal V) (by decide)) (Value.ref.inj q))) ?_
  refine G.aload H54 at_163 (pc' := 165) rfl rfl rfl ?_
  refine G.getS H54 (wd60 V) Via.refl (Sta.ext H54.old.2 (S_a_DATED_LOCALIZED V)) at_165 (pc' := 168) rfl ?_
  intro T55 H56
  refine G.acmpNo H56 at_168 (pc' := 171) rfl rfl rfl (XT.aa_ne_f rfl) ?_
  refine G.iconst H56 at_171 (pc' := 172) rfl (v := (1 : Int32)) rfl ?_
  refine G.goto H56 at_172 (by decide) (pc' := 176) rfl ?_
  refine G.istore H56 (L' := #[.val (.int x0), .val (.int x1), .val (.int x2), .val (.int x3), .val (.int (1 : Int32)), .val (.int (1 : Int32)), .val (.int x4), .val v0, .val (.ref a2), .val (.ref a13), .val (.ref a_DATED_LOCALIZED), .val (.int (1 : Int32)), .val (.int (1 : Int32))]) at_176 (pc' := 178) rfl rfl ?_
  refine G.iload H56 at_178 (pc' := 180) rfl rfl ?_
  refine G.iload H56 at_180 (pc' := 182) rfl rfl ?_
  refine G.icmpNo H56 at_182 (pc' := 185) rfl (by decide) ?_
  refine G.iload H56 at_185 (pc' := 187) rfl rfl ?_
  refine G.iload H56 at_187 (pc' := 189) rfl rfl ?_
  refine G.icmpNo H56 at_189 (pc' := 192) rfl (by decide) ?_
  refine G.iconst H56 at_192 (pc' := 193) rfl (v := (1 : Int32)) rfl ?_
  refine G.goto H56 at_193 (by decide) (pc' := 197) rfl ?_
  exact G.retN H56 (t := .boolean) rfl (by decide) at_197 (so := []) all0 (by decide) (by decide) rfl
set_option maxRecDepth 65536 in
set_option maxHeartbeats 40000000 in
theorem rmLaw {l : Launch} {Z : State} {a0 : Array Value} {n0 : Nat} {z_COMPACT_STRINGS : Int32} {z_SIOOBE_FORMATTER : Value} {a_PLAIN : Addr} {a_DATED : Addr} {a_DATED_LOCALIZED : Addr} {a_LOCALIZED : Addr} {a_DATE : Addr} {a_STRING : Addr} {a_DECIMAL : Addr} (V : Env1 Z a0 n0 z_COMPACT_STRINGS z_SIOOBE_FORMATTER a_PLAIN a_DATED a_DATED_LOCALIZED a_LOCALIZED a_DATE a_STRING a_DECIMAL) (x0 : Int32) (x1 : Int32) (x2 : Int32) (x3 : Int32) (h0 : Heap) (hO : Old Z n0 h0) :
    Met Z a0 [] False n0 l x code maxLocals ret room_1 #[(.int x0), (.int x1), (.int x2), (.int x3)] h0 [] (fun v h so => v = some (.int 1)) := by
  refine Met.of (EWl V) (by first | decide +kernel | rfl) hO (L0 := #[.val (.int x0), .val (.int x1), .val (.int x2), .val (.int x3), .unset, .unset, .unset, .unset, .unset, .unset, .unset, .unset, .unset]) rfl ?_
  intro p e s m below meth c T H
  show Go p e below _ (T.setTop (mkF m 0 #[.val (.int x0), .val (.int x1), .val (.int x2), .val (.int x3), .unset, .unset, .unset, .unset, .unset, .unset, .unset, .unset, .unset] []))
  refine G.iloadN H at_0 (pc' := 1) rfl rfl ?_
  refine G.iconst H at_1 (pc' := 2) rfl (v := (1 : Int32)) rfl ?_
  refine G.iand H at_2 (pc' := 3) rfl ?_
  by_cases c1 : (x0 &&& (1 : Int32)) = (0 : Int32)
  ·
    refine G.ifYes H at_3 (XT.i0_eq_t c1) (by decide) (pc' := 10) rfl ?_
    refine G.iconst H at_10 (pc' := 11) rfl (v := (0 : Int32)) rfl ?_
    refine G.istore H (L' := #[.val (.int x0), .val (.int x1), .val (.int x2), .val (.int x3), .val (.int (0 : Int32)), .unset, .unset, .unset, .unset, .unset, .unset, .unset, .unset]) at_11 (pc' := 13) rfl rfl ?_
    refine G.iloadN H at_13 (pc' := 14) rfl rfl ?_
    refine G.iconst H at_14 (pc' := 15) rfl (v := (2 : Int32)) rfl ?_
    refine G.iand H at_15 (pc' := 16) rfl ?_
    by_cases c2 : (x0 &&& (2 : Int32)) = (0 : Int32)
    ·
      refine G.ifYes H at_16 (XT.i0_eq_t c2) (by decide) (pc' := 23) rfl ?_
      refine G.iconst H at_23 (pc' := 24) rfl (v := (0 : Int32)) rfl ?_
      refine G.istore H (L' := #[.val (.int x0), .val (.int x1), .val (.int x2), .val (.int x3), .val (.int (0 : Int32)), .val (.int (0 : Int32)), .unset, .unset, .unset, .unset, .unset, .unset, .unset]) at_24 (pc' := 26) rfl rfl ?_
      refine G.iloadN H at_26 (pc' := 27) rfl rfl ?_
      refine G.iconst H at_27 (pc' := 28) rfl (v := (3 : Int32)) rfl ?_
      refine G.iand H at_28 (pc' := 29) rfl ?_
      refine G.istore H (L' := #[.val (.int x0), .val (.int x1), .val (.int x2), .val (.int x3), .val (.int (0 : Int32)), .val (.int (0 : Int32)), .val (.int (x1 &&& (3 : Int32))), .unset, .unset, .unset, .unset, .unset, .unset]) at_29 (pc' := 31) rfl rfl ?_
      refine G.iload H at_31 (pc' := 33) rfl rfl ?_
      by_cases c3 : (x1 &&& (3 : Int32)) = (0 : Int32)
      ·
        refine G.ifNo H at_33 (pc' := 36) rfl (XT.i0_ne_f c3) ?_
        refine G.getS H (wd69 V) Via.refl (Sta.ext H.old.2 (S_a_STRING V)) at_36 (pc' := 39) rfl ?_
        intro T4 H5
        refine G.goto H5 at_39 (by decide) (pc' := 67) rfl ?_
        exact cut4_67 V x0 x1 x2 x3 (x1 &&& (3 : Int32)) (.ref a_STRING) ((H5.less all0).mono (C' := 0) (S' := 0) (by decide) (by decide)) rfl
      ·
        refine G.ifYes H at_33 (XT.i0_ne_t c3) (by decide) (pc' := 42) rfl ?_
        refine G.iload H at_42 (pc' := 44) rfl rfl ?_
        refine G.iconst H at_44 (pc' := 45) rfl (v := (1 : Int32)) rfl ?_
        by_cases c6 : (x1 &&& (3 : Int32)) = (1 : Int32)
        ·
          refine G.icmpNo H at_45 (pc' := 48) rfl (XT.ii_ne_f c6) ?_
          refine G.getS H (wd72 V) Via.refl (Sta.ext H.old.2 (S_a_DECIMAL V)) at_48 (pc' := 51) rfl ?_
          intro T7 H8
          refine G.goto H8 at_51 (by decide) (pc' := 67) rfl ?_
          exact cut4_67 V x0 x1 x2 x3 (x1 &&& (3 : Int32)) (.ref a_DECIMAL) ((H8.less all0).mono (C' := 0) (S' := 0) (by decide) (by decide)) rfl
        ·
          refine G.icmpYes H at_45 (XT.ii_ne_t c6) (by decide) (pc' := 54) rfl ?_
          refine G.iload H at_54 (pc' := 56) rfl rfl ?_
          refine G.iconst H at_56 (pc' := 57) rfl (v := (2 : Int32)) rfl ?_
          by_cases c9 : (x1 &&& (3 : Int32)) = (2 : Int32)
          ·
            refine G.icmpNo H at_57 (pc' := 60) rfl (XT.ii_ne_f c9) ?_
            refine G.getS H (wd65 V) Via.refl (Sta.ext H.old.2 (S_a_DATE V)) at_60 (pc' := 63) rfl ?_
            intro T10 H11
            refine G.goto H11 at_63 (by decide) (pc' := 67) rfl ?_
            exact cut4_67 V x0 x1 x2 x3 (x1 &&& (3 : Int32)) (.ref a_DATE) ((H11.less all0).mono (C' := 0) (S' := 0) (by decide) (by decide)) rfl
          ·
            refine G.icmpYes H at_57 (XT.ii_ne_t c9) (by decide) (pc' := 66) rfl ?_
            refine G.aconstNull H at_66 (pc' := 67) rfl ?_
            exact cut4_67 V x0 x1 x2 x3 (x1 &&& (3 : Int32)) .null ((H.less all0).mono (C' := 0) (S' := 0) (by decide) (by decide)) rfl
    ·
      refine G.ifNo H at_16 (pc' := 19) rfl (XT.i0_eq_f c2) ?_
      refine G.iconst H at_19 (pc' := 20) rfl (v := (1 : Int32)) rfl ?_
      refine G.goto H at_20 (by decide) (pc' := 24) rfl ?_
      refine G.istore H (L' := #[.val (.int x0), .val (.int x1), .val (.int x2), .val (.int x3), .val (.int (0 : Int32)), .val (.int (1 : Int32)), .unset, .unset, .unset, .unset, .unset, .unset, .unset]) at_24 (pc' := 26) rfl rfl ?_
      refine G.iloadN H at_26 (pc' := 27) rfl rfl ?_
      refine G.iconst H at_27 (pc' := 28) rfl (v := (3 : Int32)) rfl ?_
      refine G.iand H at_28 (pc' := 29) rfl ?_
      refine G.istore H (L' := #[.val (.int x0), .val (.int x1), .val (.int x2), .val (.int x3), .val (.int (0 : Int32)), .val (.int (1 : Int32)), .val (.int (x1 &&& (3 : Int32))), .unset, .unset, .unset, .unset, .unset, .unset]) at_29 (pc' := 31) rfl rfl ?_
      refine G.iload H at_31 (pc' := 33) rfl rfl ?_
      by_cases c12 : (x1 &&& (3 : Int32)) = (0 : Int32)
      ·
        refine G.ifNo H at_33 (pc' := 36) rfl (XT.i0_ne_f c12) ?_
        refine G.getS H (wd69 V) Via.refl (Sta.ext H.old.2 (S_a_STRING V)) at_36 (pc' := 39) rfl ?_
        intro T13 H14
        refine G.goto H14 at_39 (by decide) (pc' := 67) rfl ?_
        exact cut7_67 V x0 x1 x2 x3 (x1 &&& (3 : Int32)) (.ref a_STRING) ((H14.less all0).mono (C' := 0) (S' := 0) (by decide) (by decide)) rfl
      ·
        refine G.ifYes H at_33 (XT.i0_ne_t c12) (by decide) (pc' := 42) rfl ?_
        refine G.iload H at_42 (pc' := 44) rfl rfl ?_
        refine G.iconst H at_44 (pc' := 45) rfl (v := (1 : Int32)) rfl ?_
        by_cases c15 : (x1 &&& (3 : Int32)) = (1 : Int32)
        ·
          refine G.icmpNo H at_45 (pc' := 48) rfl (XT.ii_ne_f c15) ?_
          refine G.getS H (wd72 V) Via.refl (Sta.ext H.old.2 (S_a_DECIMAL V)) at_48 (pc' := 51) rfl ?_
          intro T16 H17
          refine G.goto H17 at_51 (by decide) (pc' := 67) rfl ?_
          exact cut7_67 V x0 x1 x2 x3 (x1 &&& (3 : Int32)) (.ref a_DECIMAL) ((H17.less all0).mono (C' := 0) (S' := 0) (by decide) (by decide)) rfl
        ·
          refine G.icmpYes H at_45 (XT.ii_ne_t c15) (by decide) (pc' := 54) rfl ?_
          refine G.iload H at_54 (pc' := 56) rfl rfl ?_
          refine G.iconst H at_56 (pc' := 57) rfl (v := (2 : Int32)) rfl ?_
          by_cases c18 : (x1 &&& (3 : Int32)) = (2 : Int32)
          ·
            refine G.icmpNo H at_57 (pc' := 60) rfl (XT.ii_ne_f c18) ?_
            refine G.getS H (wd65 V) Via.refl (Sta.ext H.old.2 (S_a_DATE V)) at_60 (pc' := 63) rfl ?_
            intro T19 H20
            refine G.goto H20 at_63 (by decide) (pc' := 67) rfl ?_
            exact cut7_67 V x0 x1 x2 x3 (x1 &&& (3 : Int32)) (.ref a_DATE) ((H20.less all0).mono (C' := 0) (S' := 0) (by decide) (by decide)) rfl
          ·
            refine G.icmpYes H at_57 (XT.ii_ne_t c18) (by decide) (pc' := 66) rfl ?_
            refine G.aconstNull H at_66 (pc' := 67) rfl ?_
            exact cut7_67 V x0 x1 x2 x3 (x1 &&& (3 : Int32)) .null ((H.less all0).mono (C' := 0) (S' := 0) (by decide) (by decide)) rfl
  ·
    refine G.ifNo H at_3 (pc' := 6) rfl (XT.i0_eq_f c1) ?_
    refine G.iconst H at_6 (pc' := 7) rfl (v := (1 : Int32)) rfl ?_
    refine G.goto H at_7 (by decide) (pc' := 11) rfl ?_
    refine G.istore H (L' := #[.val (.int x0), .val (.int x1), .val (.int x2), .val (.int x3), .val (.int (1 : Int32)), .unset, .unset, .unset, .unset, .unset, .unset, .unset, .unset]) at_11 (pc' := 13) rfl rfl ?_
    refine G.iloadN H at_13 (pc' := 14) rfl rfl ?_
    refine G.iconst H at_14 (pc' := 15) rfl (v := (2 : Int32)) rfl ?_
    refine G.iand H at_15 (pc' := 16) rfl ?_
    by_cases c21 : (x0 &&& (2 : Int32)) = (0 : Int32)
    ·
      refine G.ifYes H at_16 (XT.i0_eq_t c21) (by decide) (pc' := 23) rfl ?_
      refine G.iconst H at_23 (pc' := 24) rfl (v := (0 : Int32)) rfl ?_
      refine G.istore H (L' := #[.val (.int x0), .val (.int x1), .val (.int x2), .val (.int x3), .val (.int (1 : Int32)), .val (.int (0 : Int32)), .unset, .unset, .unset, .unset, .unset, .unset, .unset]) at_24 (pc' := 26) rfl rfl ?_
      refine G.iloadN H at_26 (pc' := 27) rfl rfl ?_
      refine G.iconst H at_27 (pc' := 28) rfl (v := (3 : Int32)) rfl ?_
      refine G.iand H at_28 (pc' := 29) rfl ?_
      refine G.istore H (L' := #[.val (.int x0), .val (.int x1), .val (.int x2), .val (.int x3), .val (.int (1 : Int32)), .val (.int (0 : Int32)), .val (.int (x1 &&& (3 : Int32))), .unset, .unset, .unset, .unset, .unset, .unset]) at_29 (pc' := 31) rfl rfl ?_
      refine G.iload H at_31 (pc' := 33) rfl rfl ?_
      by_cases c22 : (x1 &&& (3 : Int32)) = (0 : Int32)
      ·
        refine G.ifNo H at_33 (pc' := 36) rfl (XT.i0_ne_f c22) ?_
        refine G.getS H (wd69 V) Via.refl (Sta.ext H.old.2 (S_a_STRING V)) at_36 (pc' := 39) rfl ?_
        intro T23 H24
        refine G.goto H24 at_39 (by decide) (pc' := 67) rfl ?_
        exact cut10_67 V x0 x1 x2 x3 (x1 &&& (3 : Int32)) (.ref a_STRING) ((H24.less all0).mono (C' := 0) (S' := 0) (by decide) (by decide)) rfl
      ·
        refine G.ifYes H at_33 (XT.i0_ne_t c22) (by decide) (pc' := 42) rfl ?_
        refine G.iload H at_42 (pc' := 44) rfl rfl ?_
        refine G.iconst H at_44 (pc' := 45) rfl (v := (1 : Int32)) rfl ?_
        by_cases c25 : (x1 &&& (3 : Int32)) = (1 : Int32)
        ·
          refine G.icmpNo H at_45 (pc' := 48) rfl (XT.ii_ne_f c25) ?_
          refine G.getS H (wd72 V) Via.refl (Sta.ext H.old.2 (S_a_DECIMAL V)) at_48 (pc' := 51) rfl ?_
          intro T26 H27
          refine G.goto H27 at_51 (by decide) (pc' := 67) rfl ?_
          exact cut10_67 V x0 x1 x2 x3 (x1 &&& (3 : Int32)) (.ref a_DECIMAL) ((H27.less all0).mono (C' := 0) (S' := 0) (by decide) (by decide)) rfl
        ·
          refine G.icmpYes H at_45 (XT.ii_ne_t c25) (by decide) (pc' := 54) rfl ?_
          refine G.iload H at_54 (pc' := 56) rfl rfl ?_
          refine G.iconst H at_56 (pc' := 57) rfl (v := (2 : Int32)) rfl ?_
          by_cases c28 : (x1 &&& (3 : Int32)) = (2 : Int32)
          ·
            refine G.icmpNo H at_57 (pc' := 60) rfl (XT.ii_ne_f c28) ?_
            refine G.getS H (wd65 V) Via.refl (Sta.ext H.old.2 (S_a_DATE V)) at_60 (pc' := 63) rfl ?_
            intro T29 H30
            refine G.goto H30 at_63 (by decide) (pc' := 67) rfl ?_
            exact cut10_67 V x0 x1 x2 x3 (x1 &&& (3 : Int32)) (.ref a_DATE) ((H30.less all0).mono (C' := 0) (S' := 0) (by decide) (by decide)) rfl
          ·
            refine G.icmpYes H at_57 (XT.ii_ne_t c28) (by decide) (pc' := 66) rfl ?_
            refine G.aconstNull H at_66 (pc' := 67) rfl ?_
            exact cut10_67 V x0 x1 x2 x3 (x1 &&& (3 : Int32)) .null ((H.less all0).mono (C' := 0) (S' := 0) (by decide) (by decide)) rfl
    ·
      refine G.ifNo H at_16 (pc' := 19) rfl (XT.i0_eq_f c21) ?_
      refine G.iconst H at_19 (pc' := 20) rfl (v := (1 : Int32)) rfl ?_
      refine G.goto H at_20 (by decide) (pc' := 24) rfl ?_
      refine G.istore H (L' := #[.val (.int x0), .val (.int x1), .val (.int x2), .val (.int x3), .val (.int (1 : Int32)), .val (.int (1 : Int32)), .unset, .unset, .unset, .unset, .unset, .unset, .unset]) at_24 (pc' := 26) rfl rfl ?_
      refine G.iloadN H at_26 (pc' := 27) rfl rfl ?_
      refine G.iconst H at_27 (pc' := 28) rfl (v := (3 : Int32)) rfl ?_
      refine G.iand H at_28 (pc' := 29) rfl ?_
      refine G.istore H (L' := #[.val (.int x0), .val (.int x1), .val (.int x2), .val (.int x3), .val (.int (1 : Int32)), .val (.int (1 : Int32)), .val (.int (x1 &&& (3 : Int32))), .unset, .unset, .unset, .unset, .unset, .unset]) at_29 (pc' := 31) rfl rfl ?_
      refine G.iload H at_31 (pc' := 33) rfl rfl ?_
      by_cases c31 : (x1 &&& (3 : Int32)) = (0 : Int32)
      ·
        refine G.ifNo H at_33 (pc' := 36) rfl (XT.i0_ne_f c31) ?_
        refine G.getS H (wd69 V) Via.refl (Sta.ext H.old.2 (S_a_STRING V)) at_36 (pc' := 39) rfl ?_
        intro T32 H33
        refine G.goto H33 at_39 (by decide) (pc' := 67) rfl ?_
        exact cut13_67 V x0 x1 x2 x3 (x1 &&& (3 : Int32)) (.ref a_STRING) ((H33.less all0).mono (C' := 0) (S' := 0) (by decide) (by decide)) rfl
      ·
        refine G.ifYes H at_33 (XT.i0_ne_t c31) (by decide) (pc' := 42) rfl ?_
        refine G.iload H at_42 (pc' := 44) rfl rfl ?_
        refine G.iconst H at_44 (pc' := 45) rfl (v := (1 : Int32)) rfl ?_
        by_cases c34 : (x1 &&& (3 : Int32)) = (1 : Int32)
        ·
          refine G.icmpNo H at_45 (pc' := 48) rfl (XT.ii_ne_f c34) ?_
          refine G.getS H (wd72 V) Via.refl (Sta.ext H.old.2 (S_a_DECIMAL V)) at_48 (pc' := 51) rfl ?_
          intro T35 H36
          refine G.goto H36 at_51 (by decide) (pc' := 67) rfl ?_
          exact cut13_67 V x0 x1 x2 x3 (x1 &&& (3 : Int32)) (.ref a_DECIMAL) ((H36.less all0).mono (C' := 0) (S' := 0) (by decide) (by decide)) rfl
        ·
          refine G.icmpYes H at_45 (XT.ii_ne_t c34) (by decide) (pc' := 54) rfl ?_
          refine G.iload H at_54 (pc' := 56) rfl rfl ?_
          refine G.iconst H at_56 (pc' := 57) rfl (v := (2 : Int32)) rfl ?_
          by_cases c37 : (x1 &&& (3 : Int32)) = (2 : Int32)
          ·
            refine G.icmpNo H at_57 (pc' := 60) rfl (XT.ii_ne_f c37) ?_
            refine G.getS H (wd65 V) Via.refl (Sta.ext H.old.2 (S_a_DATE V)) at_60 (pc' := 63) rfl ?_
            intro T38 H39
            refine G.goto H39 at_63 (by decide) (pc' := 67) rfl ?_
            exact cut13_67 V x0 x1 x2 x3 (x1 &&& (3 : Int32)) (.ref a_DATE) ((H39.less all0).mono (C' := 0) (S' := 0) (by decide) (by decide)) rfl
          ·
            refine G.icmpYes H at_57 (XT.ii_ne_t c37) (by decide) (pc' := 66) rfl ?_
            refine G.aconstNull H at_66 (pc' := 67) rfl ?_
            exact cut13_67 V x0 x1 x2 x3 (x1 &&& (3 : Int32)) .null ((H.less all0).mono (C' := 0) (S' := 0) (by decide) (by decide)) rfl

set_option maxRecDepth 65536 in
set_option maxHeartbeats 40000000 in
theorem comes_1 {Post : Tables → Env → Array Value → State → Outcome → State → Prop} (hpost : ∀ tb e args s v u, (limb_1_1.after args s (.returned v) u = true ∧ limb_1_2.after args s (.returned v) u = true ∧ True) → FrameEnd s (.returned v) u (Jvm.fieldLocs frame_1_writes args s ++ Jvm.arrayLocs frame_1_arrays args s ++ Jvm.staticLocs frame_1_statics s) 16 128 → Post tb e args s (.returned v) u) :
    ArmFor flags0 classFile x code maxLocals ret World_1 tables_1 room_1 Calls_1 rest_1 Pre_1 Post := by
  intro l hfl _ _ p e ha hc hk s m args below hf hA hF happ hP
  obtain ⟨hcalls, hrest, hpre⟩ := hP
  obtain ⟨-, -, -, hnamed, -, -, -, hat⟩ := (Spec.applies_iff hf).mp happ
  obtain ⟨hg, hn⟩ := and_e (Cond.before_iff.mp (show (Jvm.Cond.and given_1 narrow_1).before args s = true from hpre))
  obtain ⟨hg0, hg1⟩ := and_e hg
  obtain ⟨ha0, hg2⟩ := and_e hg1
  obtain ⟨ha1, hg3⟩ := and_e hg2
  obtain ⟨ha2, hg4⟩ := and_e hg3
  have ha3 := hg4
  obtain ⟨w0, w1, w2, w3, rfl⟩ : ∃ w0 w1 w2 w3 : Value, args = #[w0, w1, w2, w3] := by
    have hs : args.size = 4 := by simpa [Cond.value, given_1] using hg0
    obtain ⟨L⟩ := args
    match L, hs with
    | [w0, w1, w2, w3], _ => exact ⟨w0, w1, w2, w3, rfl⟩
  have hw := fun d (hd : d ∈ tables_1) => atoms_spec (ws := Jvm.Cond.code x code maxLocals ret :: tables_1) hat d (List.mem_cons_of_mem _ hd)
  obtain ⟨hsets, hown0⟩ := atoms_of _ (rest_1_c_eq ▸ (show rest_1_c.before _ s = true from hrest))
  have hr0 := Cond.before_iff.mp hown0
  have hfit : Fit s := fun {y c} hc i hi => by
    obtain ⟨ha, rfl⟩ := Array.getElem?_eq_some_iff.mp hc
    have q := List.all_eq_true.mp ((Array.all_eq_true_iff_forall_mem.mp hF) _ (Array.getElem_mem ha)) i (List.mem_range.mpr hi)
    simpa [Array.getElem?_eq_getElem hi] using q
  obtain ⟨i0, e0⟩ := is_v ha0
  obtain rfl : w0 = (.int i0) := Option.some.inj e0
  obtain ⟨i1, e1⟩ := is_v ha1
  obtain rfl : w1 = (.int i1) := Option.some.inj e1
  obtain ⟨i2, e2⟩ := is_v ha2
  obtain rfl : w2 = (.int i2) := Option.some.inj e2
  obtain ⟨i3, e3⟩ := is_v ha3
  obtain rfl : w3 = (.int i3) := Option.some.inj e3
  obtain ⟨z_COMPACT_STRINGS, ez_COMPACT_STRINGS⟩ := is_v (Cond.before_iff.mp (hsets _ (List.mem_of_getElem? (i := 1) rfl)))
  have s_COMPACT_STRINGS := Sta.start ez_COMPACT_STRINGS (Or.inl (hsets _ (List.mem_of_getElem? (i := 0) rfl)))
  have cz : ¬ (z_COMPACT_STRINGS = (0 : Int32)) := gotF (Cond.eq_ints ez_COMPACT_STRINGS (Term.int_eval (0))) (not_v (Cond.before_iff.mp (hsets _ (List.mem_of_getElem? (i := 2) rfl))))
  obtain ⟨z_SIOOBE_FORMATTER, ez_SIOOBE_FORMATTER, r_SIOOBE_FORMATTER⟩ := isR_v (Cond.before_iff.mp (hsets _ (List.mem_of_getElem? (i := 8) rfl)))
  have s_SIOOBE_FORMATTER := Sta.start ez_SIOOBE_FORMATTER (Or.inl (hsets _ (List.mem_of_getElem? (i := 7) rfl)))
  obtain ⟨nr0, hn0⟩ := and_e hn
  obtain ⟨nr1, hn1⟩ := and_e hn0
  obtain ⟨nr2, hn2⟩ := and_e hn1
  obtain ⟨nr3, hn3⟩ := and_e hn2
  obtain ⟨nr4, hn4⟩ := and_e hn3
  obtain ⟨nr5, hn5⟩ := and_e hn4
  obtain ⟨nr6, hn6⟩ := and_e hn5
  obtain ⟨nr7, hn7⟩ := and_e hn6
  obtain ⟨nr8, hn8⟩ := and_e hn7
  obtain ⟨nr9, hn9⟩ := and_e hn8
  have nr10 := hn9
  obtain ⟨a_PLAIN, e_a_PLAIN⟩ := exa_v nr0
  have S_a_PLAIN := Sta.start e_a_PLAIN (Or.inr ⟨hw _ (List.mem_of_getElem? (i := 56) rfl), hw _ (List.mem_of_getElem? (i := 57) rfl)⟩)
  have X_a_PLAIN := Exa.start e_a_PLAIN nr0
  obtain ⟨a_DATED, e_a_DATED⟩ := exa_v nr1
  have S_a_DATED := Sta.start e_a_DATED (Or.inr ⟨hw _ (List.mem_of_getElem? (i := 56) rfl), hw _ (List.mem_of_getElem? (i := 59) rfl)⟩)
  have X_a_DATED := Exa.start e_a_DATED nr1
  have F_a_PLAIN_ordinal := own_fldeq e_a_PLAIN nr2
  have F_a_DATED_ordinal := own_fldeq e_a_DATED nr3
  obtain ⟨a_DATED_LOCALIZED, e_a_DATED_LOCALIZED⟩ := exa_v nr4
  have S_a_DATED_LOCALIZED := Sta.start e_a_DATED_LOCALIZED (Or.inr ⟨hw _ (List.mem_of_getElem? (i := 56) rfl), hw _ (List.mem_of_getElem? (i := 61) rfl)⟩)
  have X_a_DATED_LOCALIZED := Exa.start e_a_DATED_LOCALIZED nr4
  have F_a_DATED_LOCALIZED_ordinal := own_fldeq e_a_DATED_LOCALIZED nr5
  obtain ⟨a_LOCALIZED, e_a_LOCALIZED⟩ := exa_v nr6
  have S_a_LOCALIZED := Sta.start e_a_LOCALIZED (Or.inr ⟨hw _ (List.mem_of_getElem? (i := 56) rfl), hw _ (List.mem_of_getElem? (i := 63) rfl)⟩)
  have X_a_LOCALIZED := Exa.start e_a_LOCALIZED nr6
  have F_a_LOCALIZED_ordinal := own_fldeq e_a_LOCALIZED nr7
  obtain ⟨a_DATE, e_a_DATE⟩ := exa_v nr8
  have S_a_DATE := Sta.start e_a_DATE (Or.inr ⟨hw _ (List.mem_of_getElem? (i := 66) rfl), hw _ (List.mem_of_getElem? (i := 67) rfl)⟩)
  have X_a_DATE := Exa.start e_a_DATE nr8
  obtain ⟨a_STRING, e_a_STRING⟩ := exa_v nr9
  have S_a_STRING := Sta.start e_a_STRING (Or.inr ⟨hw _ (List.mem_of_getElem? (i := 66) rfl), hw _ (List.mem_of_getElem? (i := 70) rfl)⟩)
  have X_a_STRING := Exa.start e_a_STRING nr9
  obtain ⟨a_DECIMAL, e_a_DECIMAL⟩ := exa_v nr10
  have S_a_DECIMAL := Sta.start e_a_DECIMAL (Or.inr ⟨hw _ (List.mem_of_getElem? (i := 66) rfl), hw _ (List.mem_of_getElem? (i := 73) rfl)⟩)
  have X_a_DECIMAL := Exa.start e_a_DECIMAL nr10
  have V : Env1 s _ s.heap.size z_COMPACT_STRINGS z_SIOOBE_FORMATTER a_PLAIN a_DATED a_DATED_LOCALIZED a_LOCALIZED a_DATE a_STRING a_DECIMAL := ⟨hw, EW.nil, s_COMPACT_STRINGS, cz, s_SIOOBE_FORMATTER, r_SIOOBE_FORMATTER, S_a_PLAIN, X_a_PLAIN, S_a_DATED, X_a_DATED, F_a_PLAIN_ordinal, F_a_DATED_ordinal, S_a_DATED_LOCALIZED, X_a_DATED_LOCALIZED, F_a_DATED_LOCALIZED_ordinal, S_a_LOCALIZED, X_a_LOCALIZED, F_a_LOCALIZED_ordinal, S_a_DATE, X_a_DATE, S_a_STRING, X_a_STRING, S_a_DECIMAL, X_a_DECIMAL, trivial⟩
  have hCH : CHv s [] s.vm s.heap := fun q hq => nomatch hq
  obtain ⟨n, o, g1, g2, g3, v, L, so, rfl, rfl, -, N, -, -, hq, hq2⟩ := rmLaw (l := l) V i0 i1 i2 i3 s.heap (Old.start s) tables_1 p e ha hc hk s m _ below hf ((Spec.applies_iff_loose hf).mp happ).1 ⟨rfl, State.Warmed39.refl s, rfl, hCH, fun _ q => nomatch q⟩ trivial
  have hq := hq2.resolve_left (fun q => q)
  refine ⟨n, _, g1, g2, g3, hpost _ _ _ _ _ _ ⟨Cond.after_iff.mpr rfl, Cond.after_iff.mpr (eq_i res_at (Term.int_eval (1)) rfl), trivial⟩ ⟨hq.1, hq.2.1, (hq.2.2.sift fun y hy => Or.inr (N y hy)).mono (by decide) (by decide)⟩⟩
theorem main_1_1 : Claimed_1_1 := comes_1 fun _ _ _ _ _ _ h hF => ⟨h.1, hF⟩
theorem main_1_2 : Claimed_1_2 := comes_1 fun _ _ _ _ _ _ h hF => ⟨h.2.1, hF⟩
end Jvm.Pilot.@@N@@
namespace Jvm.Pilot.@@N@@
open Jvm Jvm.ClassFile Sem Op Lib Jvm.Free Jvm.Stand Jvm.Pilot.@@N@@.Jvm.D
/-! MADE BY PROGRAM (witnessworld.py) out of the Statement's table words and the real class files: 24 classes; the members and pool entries that the words name. The judged class is class 1, her method 1. -/
namespace start1
open Jvm.ClassFile
def u (s : String) : CpInfo := .utf8 (stringToUtf16 s)
/-- a pool by its gaps: so many unusable entries, then the entry; so many at the end -/
def gap : Nat → List CpInfo → List CpInfo
  | 0, r => r
  | n + 1, r => .unusable :: gap n r
def poolList (es : List (Nat × CpInfo)) (last : Nat) : List CpInfo := es.foldr (fun e r => gap e.1 (e.2 :: r)) (gap last [])
def pool (es : List (Nat × CpInfo)) (last : Nat) : Array CpInfo := ⟨poolList es last⟩
def fileOf (pool : Array CpInfo) (this : Nat) (attrs : Array Attribute := #[]) (ms : Array MethodInfo := #[]) (fl : Nat := 33) (sup : Nat := 0) (ifs : Array Nat := #[]) (fds : Array FieldInfo := #[]) : ClassFile where
  minorVersion := 0
  majorVersion := 65
  constantPool := pool
  accessFlags := fl
  thisClass := this
  superClass := sup
  interfaces := ifs
  fields := fds
  methods := ms
  attributes := attrs
def plain (name : String) (sup : Option ClassId) : Class where
  name := name
  kind := .ordinary
  loader := none
  accessFlags := 33
  super := sup
  interfaces := #[]
  cf := none
  fields := #[]
  methods := #[]
  instanceTypes := #[]
  staticTypes := #[]
  resolved := #[]
  callSites := []
  init := .initialized
  statics := none
  mirror := none

def pool0 : Array CpInfo := pool [(5, u "<init>"), (0, u "()V"), (1, .class_ 10), (1, u "java/lang/Object")] 113

def k0c0 : Code := { maxStack := 0, maxLocals := 1, code := object_method_1_code, exceptionTable := #[], attributes := #[] }
def k0m0 : Method := { name := "<init>", desc := "()V", sig := { parameters := [], returnType := none }, accessFlags := 1, code := some k0c0 }
/-- java/lang/Object -/
def k0 : Class := { plain "java/lang/Object" none with
  accessFlags := 33
  interfaces := #[]
  cf := some (fileOf pool0 8 #[] #[{ accessFlags := 1, nameIndex := 5, descriptorIndex := 6, attributes := #[] }] 33 0 #[] #[])
  fields := #[]
  methods := #[k0m0]
  instanceTypes := #[]
  staticTypes := #[]
  resolved := Array.replicate 124 none
  statics := none }

def pool1 : Array CpInfo := pool [(2, .class_ 4), (1, u "java/lang/Object"), (0, u "<init>"), (0, u "()V"), (0, .fieldref 8 9), (0, .class_ 10), (0, .nameAndType 11 12), (0, u "com/example/tenure/tenure/AttributeType"), (0, u "STRING"), (0, u "Lcom/example/tenure/tenure/AttributeType;"), (0, .fieldref 8 14), (0, .nameAndType 15 12), (0, u "DECIMAL"), (0, .fieldref 8 17), (0, .nameAndType 18 12), (0, u "DATE"), (0, .class_ 20), (0, u "java/lang/String"), (0, .methodref 19 22), (0, .nameAndType 5 23), (0, u "([C)V"), (0, .class_ 25), (0, u "com/example/tenure/tenure/Attribute"), (0, .methodref 24 27), (0, .nameAndType 5 28), (0, u "(Ljava/lang/String;Lcom/example/tenure/tenure/AttributeType;ZZ)V"), (0, .methodref 24 30), (0, .nameAndType 31 32), (0, u "kind"), (0, u "()Lcom/example/tenure/tenure/Attribute$Kind;"), (0, .fieldref 34 35), (0, .class_ 36), (0, .nameAndType 37 38), (0, u "com/example/tenure/tenure/Attribute$Kind"), (0, u "DATED"), (0, u "Lcom/example/tenure/tenure/Attribute$Kind;"), (0, .fieldref 34 40), (0, .nameAndType 41 38), (0, u "DATED_LOCALIZED"), (0, .fieldref 34 43), (0, .nameAndType 44 38), (0, u "LOCALIZED"), (0, .class_ 46), (0, u "com/example/tenure/tenure/AttributeKindPinLaw"), (2, u "law"), (0, u "(IIII)Z")] 7

def k1m0 : Method := { name := "<init>", desc := "()V", sig := { parameters := [], returnType := none }, accessFlags := 1, code := none }
def k1c1 : Code := { maxStack := 6, maxLocals := 13, code := code, exceptionTable := #[], attributes := #[] }
def k1m1 : Method := { name := "law", desc := "(IIII)Z", sig := { parameters := [.int, .int, .int, .int], returnType := some .boolean }, accessFlags := 9, code := some k1c1 }
/-- com/example/tenure/tenure/AttributeKindPinLaw -/
def k1 : Class := { plain "com/example/tenure/tenure/AttributeKindPinLaw" (some 0) with
  accessFlags := 49
  interfaces := #[]
  cf := some (fileOf pool1 45 #[] #[{ accessFlags := 1, nameIndex := 5, descriptorIndex := 6, attributes := #[] }, { accessFlags := 9, nameIndex := 49, descriptorIndex := 50, attributes := #[] }] 49 2 #[] #[])
  fields := #[]
  methods := #[k1m0, k1m1]
  instanceTypes := #[]
  staticTypes := #[]
  resolved := Array.replicate 58 none
  statics := none }

def pool2 : Array CpInfo := pool [(1, .class_ 2), (0, u "java/io/Serializable"), (0, .class_ 4), (0, u "java/lang/Object")] 2

/-- java/io/Serializable -/
def k2 : Class := { plain "java/io/Serializable" (some 0) with
  accessFlags := 1537
  interfaces := #[]
  cf := some (fileOf pool2 1 #[] #[] 1537 3 #[] #[])
  fields := #[]
  methods := #[]
  instanceTypes := #[]
  staticTypes := #[]
  resolved := Array.replicate 7 none
  statics := none }

def pool3 : Array CpInfo := pool [(1, .class_ 2), (0, u "java/lang/Comparable"), (0, .class_ 4), (0, u "java/lang/Object")] 7

/-- java/lang/Comparable -/
def k3 : Class := { plain "java/lang/Comparable" (some 0) with
  accessFlags := 1537
  interfaces := #[]
  cf := some (fileOf pool3 1 #[] #[] 1537 3 #[] #[])
  fields := #[]
  methods := #[]
  instanceTypes := #[]
  staticTypes := #[]
  resolved := Array.replicate 12 none
  statics := none }

def pool4 : Array CpInfo := pool [(2, .class_ 4), (1, u "java/lang/CharSequence"), (42, .class_ 48), (0, u "java/lang/CharSequence$1CodePointIterator"), (10, .class_ 60), (0, u "java/lang/CharSequence$1CharIterator"), (5, .class_ 67), (0, u "java/lang/Object")] 63

/-- java/lang/CharSequence -/
def k4 : Class := { plain "java/lang/CharSequence" (some 0) with
  accessFlags := 1537
  interfaces := #[]
  cf := some (fileOf pool4 2 #[.nestMembers #[47, 59]] #[] 1537 66 #[] #[])
  fields := #[]
  methods := #[]
  instanceTypes := #[]
  staticTypes := #[]
  resolved := Array.replicate 131 none
  statics := none }

def pool5 : Array CpInfo := pool [(1, .class_ 2), (0, u "java/lang/constant/Constable"), (0, .class_ 4), (0, u "java/lang/Object")] 6

/-- java/lang/constant/Constable -/
def k5 : Class := { plain "java/lang/constant/Constable" (some 0) with
  accessFlags := 1537
  interfaces := #[]
  cf := some (fileOf pool5 1 #[] #[] 1537 3 #[] #[])
  fields := #[]
  methods := #[]
  instanceTypes := #[]
  staticTypes := #[]
  resolved := Array.replicate 11 none
  statics := none }

def pool6 : Array CpInfo := pool [(1, .class_ 2), (0, u "java/lang/constant/ConstantDesc"), (0, .class_ 4), (0, u "java/lang/Object")] 32

/-- java/lang/constant/ConstantDesc -/
def k6 : Class := { plain "java/lang/constant/ConstantDesc" (some 0) with
  accessFlags := 1537
  interfaces := #[]
  cf := some (fileOf pool6 1 #[] #[] 1537 3 #[] #[])
  fields := #[]
  methods := #[]
  instanceTypes := #[]
  staticTypes := #[]
  resolved := Array.replicate 37 none
  statics := none }

def pool7 : Array CpInfo := pool [(1, .methodref 2 3), (0, .class_ 4), (0, .nameAndType 5 6), (0, u "java/lang/Object"), (0, u "<init>"), (0, u "()V"), (2, .fieldref 10 11), (0, .class_ 12), (0, .nameAndType 13 14), (0, u "java/lang/String"), (0, u "value"), (0, u "[B"), (0, .fieldref 10 16), (0, .nameAndType 17 18), (0, u "coder"), (0, u "B"), (2, u "hash"), (0, u "I"), (2, u "hashIsZero"), (0, u "Z"), (0, .methodref 10 28), (0, .nameAndType 5 29), (0, u "([CIILjava/lang/Void;)V"), (8, .fieldref 10 39), (0, .nameAndType 40 26), (0, u "COMPACT_STRINGS"), (1, .class_ 44), (1, u "java/lang/StringUTF16"), (0, u "compress"), (1, .methodref 42 48), (0, .nameAndType 49 50), (0, u "coderFromArrayLen"), (0, u "([BI)B"), (126, .methodref 42 178), (0, .nameAndType 45 179), (0, u "([CII)[B"), (395, .class_ 576), (0, u "java/lang/CharSequence"), (22, u "CASE_INSENSITIVE_ORDER"), (0, u "Ljava/util/Comparator;"), (409, u "([C)V"), (90, u "serialPersistentFields"), (0, u "[Ljava/io/ObjectStreamField;"), (0, .class_ 1104), (0, u "java/lang/String$CaseInsensitiveComparator"), (1, .class_ 1107), (0, u "java/io/Serializable"), (0, .class_ 1109), (0, u "java/lang/Comparable"), (0, .class_ 1111), (0, u "java/lang/constant/Constable"), (0, .class_ 1113), (0, u "java/lang/constant/ConstantDesc"), (2, u "serialVersionUID"), (0, u "J"), (3, u "REPL"), (0, u "C"), (2, u "LATIN1"), (1, u "UTF16")] 323

def k7m0 : Method := { name := "<init>", desc := "()V", sig := { parameters := [], returnType := none }, accessFlags := 1, code := none }
def k7c1 : Code := { maxStack := 5, maxLocals := 2, code := jdk_42_method_3_code, exceptionTable := #[], attributes := #[] }
def k7m1 : Method := { name := "<init>", desc := "([C)V", sig := { parameters := [(.array .char)], returnType := none }, accessFlags := 1, code := some k7c1 }
def k7c2 : Code := { maxStack := 4, maxLocals := 6, code := jdk_42_method_149_code, exceptionTable := #[], attributes := #[] }
def k7m2 : Method := { name := "<init>", desc := "([CIILjava/lang/Void;)V", sig := { parameters := [(.array .char), .int, .int, (.object "java/lang/Void")], returnType := none }, accessFlags := 2, code := some k7c2 }
/-- java/lang/String -/
def k7 : Class := { plain "java/lang/String" (some 0) with
  accessFlags := 49
  interfaces := #[2, 3, 4, 5, 6]
  cf := some (fileOf pool7 10 #[.nestMembers #[1103]] #[{ accessFlags := 1, nameIndex := 5, descriptorIndex := 6, attributes := #[] }, { accessFlags := 1, nameIndex := 5, descriptorIndex := 1010, attributes := #[] }, { accessFlags := 2, nameIndex := 5, descriptorIndex := 29, attributes := #[] }] 49 2 #[1106, 1108, 575, 1110, 1112] #[{ accessFlags := 18, nameIndex := 13, descriptorIndex := 14, attributes := #[] }, { accessFlags := 18, nameIndex := 17, descriptorIndex := 18, attributes := #[] }, { accessFlags := 2, nameIndex := 21, descriptorIndex := 22, attributes := #[] }, { accessFlags := 2, nameIndex := 25, descriptorIndex := 26, attributes := #[] }, { accessFlags := 26, nameIndex := 1116, descriptorIndex := 1117, attributes := #[] }, { accessFlags := 24, nameIndex := 40, descriptorIndex := 26, attributes := #[] }, { accessFlags := 26, nameIndex := 1101, descriptorIndex := 1102, attributes := #[] }, { accessFlags := 26, nameIndex := 1121, descriptorIndex := 1122, attributes := #[] }, { accessFlags := 25, nameIndex := 599, descriptorIndex := 600, attributes := #[] }, { accessFlags := 24, nameIndex := 1125, descriptorIndex := 18, attributes := #[] }, { accessFlags := 24, nameIndex := 1127, descriptorIndex := 18, attributes := #[] }])
  fields := #[{ name := "value", type := (.array .byte), accessFlags := 18, slot := 0, constantValue := 0 }, { name := "coder", type := .byte, accessFlags := 18, slot := 1, constantValue := 0 }, { name := "hash", type := .int, accessFlags := 2, slot := 2, constantValue := 0 }, { name := "hashIsZero", type := .boolean, accessFlags := 2, slot := 3, constantValue := 0 }, { name := "serialVersionUID", type := .long, accessFlags := 26, slot := 0, constantValue := 0 }, { name := "COMPACT_STRINGS", type := .boolean, accessFlags := 24, slot := 1, constantValue := 0 }, { name := "serialPersistentFields", type := (.array (.object "java/io/ObjectStreamField")), accessFlags := 26, slot := 2, constantValue := 0 }, { name := "REPL", type := .char, accessFlags := 26, slot := 3, constantValue := 0 }, { name := "CASE_INSENSITIVE_ORDER", type := (.object "java/util/Comparator"), accessFlags := 25, slot := 4, constantValue := 0 }, { name := "LATIN1", type := .byte, accessFlags := 24, slot := 5, constantValue := 0 }, { name := "UTF16", type := .byte, accessFlags := 24, slot := 6, constantValue := 0 }]
  methods := #[k7m0, k7m1, k7m2]
  instanceTypes := #[(.array .byte), .byte, .int, .boolean]
  staticTypes := #[.long, .boolean, (.array (.object "java/io/ObjectStreamField")), .char, (.object "java/util/Comparator"), .byte, .byte]
  resolved := Array.replicate 1451 none
  statics := some 0 }

def pool8 : Array CpInfo := pool [(6, .class_ 8), (1, u "java/lang/Object"), (0, u "<init>"), (0, u "()V"), (1, .class_ 14), (1, u "java/lang/StringUTF16"), (31, u "$assertionsDisabled"), (0, u "Z"), (13, u "HI_BYTE_SHIFT"), (0, u "I"), (2, u "LO_BYTE_SHIFT"), (49, .methodref 12 116), (0, .nameAndType 117 118), (0, u "compress"), (0, u "([CI[BII)I"), (3, u "([CII)[B"), (138, u "coderFromArrayLen"), (0, u "([BI)B"), (106, .class_ 371), (1, u "java/lang/StringUTF16$LinesSpliterator"), (58, u "MAX_LENGTH"), (196, .class_ 628), (0, u "java/lang/StringUTF16$CodePointsSpliterator"), (0, .class_ 630), (0, u "java/lang/StringUTF16$CharsSpliterator")] 4

def k8m0 : Method := { name := "<init>", desc := "()V", sig := { parameters := [], returnType := none }, accessFlags := 0, code := none }
def k8c1 : Code := { maxStack := 2, maxLocals := 2, code := jdk_52_method_15_code, exceptionTable := #[], attributes := #[] }
def k8m1 : Method := { name := "coderFromArrayLen", desc := "([BI)B", sig := { parameters := [(.array .byte), .int], returnType := some .byte }, accessFlags := 8, code := some k8c1 }
def k8c2 : Code := { maxStack := 5, maxLocals := 6, code := jdk_52_method_16_code, exceptionTable := #[], attributes := #[] }
def k8m2 : Method := { name := "compress", desc := "([CII)[B", sig := { parameters := [(.array .char), .int, .int], returnType := some (.array .byte) }, accessFlags := 9, code := some k8c2 }
def k8c3 : Code := { maxStack := 3, maxLocals := 7, code := jdk_52_method_21_code, exceptionTable := #[], attributes := #[] }
def k8m3 : Method := { name := "compress", desc := "([CI[BII)I", sig := { parameters := [(.array .char), .int, (.array .byte), .int, .int], returnType := some .int }, accessFlags := 9, code := some k8c3 }
/-- java/lang/StringUTF16 -/
def k8 : Class := { plain "java/lang/StringUTF16" (some 0) with
  accessFlags := 48
  interfaces := #[]
  cf := some (fileOf pool8 12 #[.nestMembers #[627, 629, 369]] #[{ accessFlags := 0, nameIndex := 9, descriptorIndex := 10, attributes := #[] }, { accessFlags := 8, nameIndex := 261, descriptorIndex := 262, attributes := #[] }, { accessFlags := 9, nameIndex := 117, descriptorIndex := 122, attributes := #[] }, { accessFlags := 9, nameIndex := 117, descriptorIndex := 118, attributes := #[] }] 48 6 #[] #[{ accessFlags := 26, nameIndex := 61, descriptorIndex := 62, attributes := #[] }, { accessFlags := 26, nameIndex := 65, descriptorIndex := 62, attributes := #[] }, { accessFlags := 24, nameIndex := 430, descriptorIndex := 62, attributes := #[] }, { accessFlags := 4120, nameIndex := 46, descriptorIndex := 47, attributes := #[] }])
  fields := #[{ name := "HI_BYTE_SHIFT", type := .int, accessFlags := 26, slot := 0, constantValue := 0 }, { name := "LO_BYTE_SHIFT", type := .int, accessFlags := 26, slot := 1, constantValue := 0 }, { name := "MAX_LENGTH", type := .int, accessFlags := 24, slot := 2, constantValue := 0 }, { name := "$assertionsDisabled", type := .boolean, accessFlags := 4120, slot := 3, constantValue := 0 }]
  methods := #[k8m0, k8m1, k8m2, k8m3]
  instanceTypes := #[]
  staticTypes := #[.int, .int, .int, .boolean]
  resolved := Array.replicate 635 none
  statics := none }

def pool9 : Array CpInfo := pool [(1, .methodref 2 3), (0, .class_ 4), (0, .nameAndType 5 6), (0, u "java/lang/Object"), (0, u "<init>"), (0, u "()V"), (0, .class_ 8), (0, u "java/lang/Record")] 13

def k9c0 : Code := { maxStack := 1, maxLocals := 1, code := jdk_30_method_1_code, exceptionTable := #[], attributes := #[] }
def k9m0 : Method := { name := "<init>", desc := "()V", sig := { parameters := [], returnType := none }, accessFlags := 4, code := some k9c0 }
/-- java/lang/Record -/
def k9 : Class := { plain "java/lang/Record" (some 0) with
  accessFlags := 1057
  interfaces := #[]
  cf := some (fileOf pool9 7 #[] #[{ accessFlags := 4, nameIndex := 5, descriptorIndex := 6, attributes := #[] }] 1057 2 #[] #[])
  fields := #[]
  methods := #[k9m0]
  instanceTypes := #[]
  staticTypes := #[]
  resolved := Array.replicate 22 none
  statics := none }

def pool10 : Array CpInfo := pool [(1, .methodref 2 3), (0, .class_ 4), (0, .nameAndType 5 6), (0, u "java/lang/Record"), (0, u "<init>"), (0, u "()V"), (0, .fieldref 8 9), (0, .class_ 10), (0, .nameAndType 11 12), (0, u "com/example/tenure/tenure/Attribute"), (0, u "name"), (0, u "Ljava/lang/String;"), (0, .fieldref 8 14), (0, .nameAndType 15 16), (0, u "type"), (0, u "Lcom/example/tenure/tenure/AttributeType;"), (0, .fieldref 8 18), (0, .nameAndType 19 20), (0, u "dated"), (0, u "Z"), (0, .fieldref 8 22), (0, .nameAndType 23 20), (0, u "localized"), (0, .fieldref 25 26), (0, .class_ 27), (0, .nameAndType 28 29), (0, u "com/example/tenure/tenure/Attribute$Kind"), (0, u "DATED_LOCALIZED"), (0, u "Lcom/example/tenure/tenure/Attribute$Kind;"), (0, .fieldref 25 31), (0, .nameAndType 32 29), (0, u "LOCALIZED"), (0, .fieldref 25 34), (0, .nameAndType 35 29), (0, u "DATED"), (0, .fieldref 25 37), (0, .nameAndType 38 29), (0, u "PLAIN"), (12, u "(Ljava/lang/String;Lcom/example/tenure/tenure/AttributeType;ZZ)V"), (3, u "kind"), (0, u "()Lcom/example/tenure/tenure/Attribute$Kind;")] 31

def k10c0 : Code := { maxStack := 2, maxLocals := 5, code := prog_3_method_1_code, exceptionTable := #[], attributes := #[] }
def k10m0 : Method := { name := "<init>", desc := "(Ljava/lang/String;Lcom/example/tenure/tenure/AttributeType;ZZ)V", sig := { parameters := [(.object "java/lang/String"), (.object "com/example/tenure/tenure/AttributeType"), .boolean, .boolean], returnType := none }, accessFlags := 1, code := some k10c0 }
def k10c1 : Code := { maxStack := 1, maxLocals := 1, code := prog_3_method_2_code, exceptionTable := #[], attributes := #[] }
def k10m1 : Method := { name := "kind", desc := "()Lcom/example/tenure/tenure/Attribute$Kind;", sig := { parameters := [], returnType := some (.object "com/example/tenure/tenure/Attribute$Kind") }, accessFlags := 1, code := some k10c1 }
/-- com/example/tenure/tenure/Attribute -/
def k10 : Class := { plain "com/example/tenure/tenure/Attribute" (some 9) with
  accessFlags := 49
  interfaces := #[]
  cf := some (fileOf pool10 8 #[.nestMembers #[25]] #[{ accessFlags := 1, nameIndex := 5, descriptorIndex := 51, attributes := #[] }, { accessFlags := 1, nameIndex := 55, descriptorIndex := 56, attributes := #[] }] 49 2 #[] #[{ accessFlags := 18, nameIndex := 11, descriptorIndex := 12, attributes := #[] }, { accessFlags := 18, nameIndex := 15, descriptorIndex := 16, attributes := #[] }, { accessFlags := 18, nameIndex := 19, descriptorIndex := 20, attributes := #[] }, { accessFlags := 18, nameIndex := 23, descriptorIndex := 20, attributes := #[] }])
  fields := #[{ name := "name", type := (.object "java/lang/String"), accessFlags := 18, slot := 0, constantValue := 0 }, { name := "type", type := (.object "com/example/tenure/tenure/AttributeType"), accessFlags := 18, slot := 1, constantValue := 0 }, { name := "dated", type := .boolean, accessFlags := 18, slot := 2, constantValue := 0 }, { name := "localized", type := .boolean, accessFlags := 18, slot := 3, constantValue := 0 }]
  methods := #[k10m0, k10m1]
  instanceTypes := #[(.object "java/lang/String"), (.object "com/example/tenure/tenure/AttributeType"), .boolean, .boolean]
  staticTypes := #[]
  resolved := Array.replicate 88 none
  statics := none }

def pool11 : Array CpInfo := pool [(2, .class_ 4), (1, u "java/lang/Enum"), (0, u "name"), (0, u "Ljava/lang/String;"), (2, u "ordinal"), (0, u "I"), (1, .class_ 14), (1, u "java/lang/Object"), (4, u "hash"), (86, .class_ 108), (1, u "java/lang/Enum$EnumDesc"), (2, .class_ 112), (0, u "java/lang/constant/Constable"), (0, .class_ 114), (0, u "java/lang/Comparable"), (0, .class_ 116), (0, u "java/io/Serializable")] 87

/-- java/lang/Enum -/
def k11 : Class := { plain "java/lang/Enum" (some 0) with
  accessFlags := 1057
  interfaces := #[5, 3, 2]
  cf := some (fileOf pool11 2 #[.nestMembers #[106]] #[] 1057 12 #[111, 113, 115] #[{ accessFlags := 18, nameIndex := 5, descriptorIndex := 6, attributes := #[] }, { accessFlags := 18, nameIndex := 9, descriptorIndex := 10, attributes := #[] }, { accessFlags := 2, nameIndex := 19, descriptorIndex := 10, attributes := #[] }])
  fields := #[{ name := "name", type := (.object "java/lang/String"), accessFlags := 18, slot := 0, constantValue := 0 }, { name := "ordinal", type := .int, accessFlags := 18, slot := 1, constantValue := 0 }, { name := "hash", type := .int, accessFlags := 2, slot := 2, constantValue := 0 }]
  methods := #[]
  instanceTypes := #[(.object "java/lang/String"), .int, .int]
  staticTypes := #[]
  resolved := Array.replicate 204 none
  statics := none }

def pool12 : Array CpInfo := pool [(1, .class_ 2), (0, u "com/example/tenure/tenure/Attribute$Kind"), (2, u "PLAIN"), (0, u "Lcom/example/tenure/tenure/Attribute$Kind;"), (2, u "DATED"), (2, u "LOCALIZED"), (2, u "DATED_LOCALIZED"), (2, u "$VALUES"), (0, u "[Lcom/example/tenure/tenure/Attribute$Kind;"), (6, .class_ 28), (1, u "java/lang/Enum"), (27, .class_ 57), (0, u "com/example/tenure/tenure/Attribute")] 2

/-- com/example/tenure/tenure/Attribute$Kind -/
def k12 : Class := { plain "com/example/tenure/tenure/Attribute$Kind" (some 11) with
  accessFlags := 16433
  interfaces := #[]
  cf := some (fileOf pool12 1 #[.nestHost 56] #[] 16433 26 #[] #[{ accessFlags := 16409, nameIndex := 5, descriptorIndex := 6, attributes := #[] }, { accessFlags := 16409, nameIndex := 9, descriptorIndex := 6, attributes := #[] }, { accessFlags := 16409, nameIndex := 12, descriptorIndex := 6, attributes := #[] }, { accessFlags := 16409, nameIndex := 15, descriptorIndex := 6, attributes := #[] }, { accessFlags := 4122, nameIndex := 18, descriptorIndex := 19, attributes := #[] }])
  fields := #[{ name := "PLAIN", type := (.object "com/example/tenure/tenure/Attribute$Kind"), accessFlags := 16409, slot := 0, constantValue := 0 }, { name := "DATED", type := (.object "com/example/tenure/tenure/Attribute$Kind"), accessFlags := 16409, slot := 1, constantValue := 0 }, { name := "LOCALIZED", type := (.object "com/example/tenure/tenure/Attribute$Kind"), accessFlags := 16409, slot := 2, constantValue := 0 }, { name := "DATED_LOCALIZED", type := (.object "com/example/tenure/tenure/Attribute$Kind"), accessFlags := 16409, slot := 3, constantValue := 0 }, { name := "$VALUES", type := (.array (.object "com/example/tenure/tenure/Attribute$Kind")), accessFlags := 4122, slot := 4, constantValue := 0 }]
  methods := #[]
  instanceTypes := #[(.object "java/lang/String"), .int, .int]
  staticTypes := #[(.object "com/example/tenure/tenure/Attribute$Kind"), (.object "com/example/tenure/tenure/Attribute$Kind"), (.object "com/example/tenure/tenure/Attribute$Kind"), (.object "com/example/tenure/tenure/Attribute$Kind"), (.array (.object "com/example/tenure/tenure/Attribute$Kind"))]
  resolved := Array.replicate 60 none
  statics := some 1 }

def pool13 : Array CpInfo := pool [(1, .class_ 2), (0, u "com/example/tenure/tenure/AttributeType"), (2, u "STRING"), (0, u "Lcom/example/tenure/tenure/AttributeType;"), (2, u "DECIMAL"), (2, u "DATE"), (2, u "$VALUES"), (0, u "[Lcom/example/tenure/tenure/AttributeType;"), (6, .class_ 25), (1, u "java/lang/Enum"), (8, u "schemaName"), (0, u "Ljava/lang/String;")] 136

/-- com/example/tenure/tenure/AttributeType -/
def k13 : Class := { plain "com/example/tenure/tenure/AttributeType" (some 11) with
  accessFlags := 16433
  interfaces := #[]
  cf := some (fileOf pool13 1 #[] #[] 16433 23 #[] #[{ accessFlags := 16409, nameIndex := 5, descriptorIndex := 6, attributes := #[] }, { accessFlags := 16409, nameIndex := 9, descriptorIndex := 6, attributes := #[] }, { accessFlags := 16409, nameIndex := 12, descriptorIndex := 6, attributes := #[] }, { accessFlags := 18, nameIndex := 34, descriptorIndex := 35, attributes := #[] }, { accessFlags := 4122, nameIndex := 15, descriptorIndex := 16, attributes := #[] }])
  fields := #[{ name := "STRING", type := (.object "com/example/tenure/tenure/AttributeType"), accessFlags := 16409, slot := 0, constantValue := 0 }, { name := "DECIMAL", type := (.object "com/example/tenure/tenure/AttributeType"), accessFlags := 16409, slot := 1, constantValue := 0 }, { name := "DATE", type := (.object "com/example/tenure/tenure/AttributeType"), accessFlags := 16409, slot := 2, constantValue := 0 }, { name := "schemaName", type := (.object "java/lang/String"), accessFlags := 18, slot := 3, constantValue := 0 }, { name := "$VALUES", type := (.array (.object "com/example/tenure/tenure/AttributeType")), accessFlags := 4122, slot := 3, constantValue := 0 }]
  methods := #[]
  instanceTypes := #[(.object "java/lang/String"), .int, .int, (.object "java/lang/String")]
  staticTypes := #[(.object "com/example/tenure/tenure/AttributeType"), (.object "com/example/tenure/tenure/AttributeType"), (.object "com/example/tenure/tenure/AttributeType"), (.array (.object "com/example/tenure/tenure/AttributeType"))]
  resolved := Array.replicate 172 none
  statics := some 2 }

def pool14 : Array CpInfo := pool [(4, .class_ 6), (1, u "java/lang/Object"), (0, u "<init>"), (0, u "()V"), (5, .class_ 16), (1, u "java/lang/StringLatin1"), (104, u "$assertionsDisabled"), (0, u "Z"), (98, .class_ 223), (1, u "java/lang/StringLatin1$LinesSpliterator"), (166, .class_ 391), (0, u "java/lang/StringLatin1$CharsSpliterator")] 3

def k14m0 : Method := { name := "<init>", desc := "()V", sig := { parameters := [], returnType := none }, accessFlags := 0, code := none }
/-- java/lang/StringLatin1 -/
def k14 : Class := { plain "java/lang/StringLatin1" (some 0) with
  accessFlags := 48
  interfaces := #[]
  cf := some (fileOf pool14 14 #[.nestMembers #[390, 221]] #[{ accessFlags := 0, nameIndex := 7, descriptorIndex := 8, attributes := #[] }] 48 4 #[] #[{ accessFlags := 4120, nameIndex := 121, descriptorIndex := 122, attributes := #[] }])
  fields := #[{ name := "$assertionsDisabled", type := .boolean, accessFlags := 4120, slot := 0, constantValue := 0 }]
  methods := #[k14m0]
  instanceTypes := #[]
  staticTypes := #[.boolean]
  resolved := Array.replicate 395 none
  statics := none }

def pool15 : Array CpInfo := pool [(2, .class_ 4), (1, u "java/lang/Object"), (0, u "<init>"), (0, u "()V"), (17, .class_ 26), (1, u "jdk/internal/util/Preconditions"), (28, .class_ 56), (0, u "jdk/internal/util/Preconditions$4"), (57, .class_ 115), (0, u "jdk/internal/util/Preconditions$1"), (7, u "SIOOBE_FORMATTER"), (0, u "Ljava/util/function/BiFunction;"), (0, .class_ 126), (0, u "jdk/internal/util/Preconditions$2"), (3, u "AIOOBE_FORMATTER"), (0, .class_ 132), (0, u "jdk/internal/util/Preconditions$3"), (3, u "IOOBE_FORMATTER")] 57

def k15m0 : Method := { name := "<init>", desc := "()V", sig := { parameters := [], returnType := none }, accessFlags := 1, code := none }
/-- jdk/internal/util/Preconditions -/
def k15 : Class := { plain "jdk/internal/util/Preconditions" (some 0) with
  accessFlags := 33
  interfaces := #[]
  cf := some (fileOf pool15 24 #[.nestMembers #[55, 131, 125, 114]] #[{ accessFlags := 1, nameIndex := 5, descriptorIndex := 6, attributes := #[] }] 33 2 #[] #[{ accessFlags := 25, nameIndex := 123, descriptorIndex := 124, attributes := #[] }, { accessFlags := 25, nameIndex := 130, descriptorIndex := 124, attributes := #[] }, { accessFlags := 25, nameIndex := 136, descriptorIndex := 124, attributes := #[] }])
  fields := #[{ name := "SIOOBE_FORMATTER", type := (.object "java/util/function/BiFunction"), accessFlags := 25, slot := 0, constantValue := 0 }, { name := "AIOOBE_FORMATTER", type := (.object "java/util/function/BiFunction"), accessFlags := 25, slot := 1, constantValue := 0 }, { name := "IOOBE_FORMATTER", type := (.object "java/util/function/BiFunction"), accessFlags := 25, slot := 2, constantValue := 0 }]
  methods := #[k15m0]
  instanceTypes := #[]
  staticTypes := #[(.object "java/util/function/BiFunction"), (.object "java/util/function/BiFunction"), (.object "java/util/function/BiFunction")]
  resolved := Array.replicate 194 none
  statics := some 3 }

def pool16 : Array CpInfo := pool [(9, u "<init>"), (6, .class_ 18), (1, u "java/lang/Object"), (0, u "()V"), (1, .class_ 23), (1, u "jdk/internal/util/ArraysSupport"), (0, u "LOG2_ARRAY_LONG_INDEX_SCALE"), (0, u "I"), (2, u "U"), (0, u "Ljdk/internal/misc/Unsafe;"), (8, u "BIG_ENDIAN"), (0, u "Z"), (8, u "LOG2_BYTE_BIT_SIZE"), (4, u "LOG2_ARRAY_INT_INDEX_SCALE"), (54, u "JLA"), (0, u "Ljdk/internal/access/JavaLangAccess;"), (11, u "LOG2_ARRAY_BOOLEAN_INDEX_SCALE"), (9, u "LOG2_ARRAY_BYTE_INDEX_SCALE"), (5, u "LOG2_ARRAY_CHAR_INDEX_SCALE"), (5, u "LOG2_ARRAY_SHORT_INDEX_SCALE"), (18, u "LOG2_ARRAY_FLOAT_INDEX_SCALE"), (24, u "LOG2_ARRAY_DOUBLE_INDEX_SCALE"), (89, u "T_BOOLEAN"), (2, u "T_CHAR"), (1, u "T_FLOAT"), (1, u "T_DOUBLE"), (1, u "T_BYTE"), (1, u "T_SHORT"), (1, u "T_INT"), (1, u "T_LONG"), (1, u "SOFT_MAX_ARRAY_LENGTH")] 83

def k16m0 : Method := { name := "<init>", desc := "()V", sig := { parameters := [], returnType := none }, accessFlags := 2, code := none }
/-- jdk/internal/util/ArraysSupport -/
def k16 : Class := { plain "jdk/internal/util/ArraysSupport" (some 0) with
  accessFlags := 33
  interfaces := #[]
  cf := some (fileOf pool16 21 #[] #[{ accessFlags := 2, nameIndex := 9, descriptorIndex := 19, attributes := #[] }] 33 16 #[] #[{ accessFlags := 24, nameIndex := 28, descriptorIndex := 29, attributes := #[] }, { accessFlags := 26, nameIndex := 38, descriptorIndex := 39, attributes := #[] }, { accessFlags := 25, nameIndex := 121, descriptorIndex := 25, attributes := #[] }, { accessFlags := 25, nameIndex := 131, descriptorIndex := 25, attributes := #[] }, { accessFlags := 25, nameIndex := 137, descriptorIndex := 25, attributes := #[] }, { accessFlags := 25, nameIndex := 143, descriptorIndex := 25, attributes := #[] }, { accessFlags := 25, nameIndex := 53, descriptorIndex := 25, attributes := #[] }, { accessFlags := 25, nameIndex := 24, descriptorIndex := 25, attributes := #[] }, { accessFlags := 25, nameIndex := 162, descriptorIndex := 25, attributes := #[] }, { accessFlags := 25, nameIndex := 187, descriptorIndex := 25, attributes := #[] }, { accessFlags := 26, nameIndex := 48, descriptorIndex := 25, attributes := #[] }, { accessFlags := 25, nameIndex := 277, descriptorIndex := 25, attributes := #[] }, { accessFlags := 25, nameIndex := 280, descriptorIndex := 25, attributes := #[] }, { accessFlags := 25, nameIndex := 282, descriptorIndex := 25, attributes := #[] }, { accessFlags := 25, nameIndex := 284, descriptorIndex := 25, attributes := #[] }, { accessFlags := 25, nameIndex := 286, descriptorIndex := 25, attributes := #[] }, { accessFlags := 25, nameIndex := 288, descriptorIndex := 25, attributes := #[] }, { accessFlags := 25, nameIndex := 290, descriptorIndex := 25, attributes := #[] }, { accessFlags := 25, nameIndex := 292, descriptorIndex := 25, attributes := #[] }, { accessFlags := 26, nameIndex := 108, descriptorIndex := 109, attributes := #[] }, { accessFlags := 25, nameIndex := 294, descriptorIndex := 25, attributes := #[] }])
  fields := #[{ name := "U", type := (.object "jdk/internal/misc/Unsafe"), accessFlags := 24, slot := 0, constantValue := 0 }, { name := "BIG_ENDIAN", type := .boolean, accessFlags := 26, slot := 1, constantValue := 0 }, { name := "LOG2_ARRAY_BOOLEAN_INDEX_SCALE", type := .int, accessFlags := 25, slot := 2, constantValue := 0 }, { name := "LOG2_ARRAY_BYTE_INDEX_SCALE", type := .int, accessFlags := 25, slot := 3, constantValue := 0 }, { name := "LOG2_ARRAY_CHAR_INDEX_SCALE", type := .int, accessFlags := 25, slot := 4, constantValue := 0 }, { name := "LOG2_ARRAY_SHORT_INDEX_SCALE", type := .int, accessFlags := 25, slot := 5, constantValue := 0 }, { name := "LOG2_ARRAY_INT_INDEX_SCALE", type := .int, accessFlags := 25, slot := 6, constantValue := 0 }, { name := "LOG2_ARRAY_LONG_INDEX_SCALE", type := .int, accessFlags := 25, slot := 7, constantValue := 0 }, { name := "LOG2_ARRAY_FLOAT_INDEX_SCALE", type := .int, accessFlags := 25, slot := 8, constantValue := 0 }, { name := "LOG2_ARRAY_DOUBLE_INDEX_SCALE", type := .int, accessFlags := 25, slot := 9, constantValue := 0 }, { name := "LOG2_BYTE_BIT_SIZE", type := .int, accessFlags := 26, slot := 10, constantValue := 0 }, { name := "T_BOOLEAN", type := .int, accessFlags := 25, slot := 11, constantValue := 0 }, { name := "T_CHAR", type := .int, accessFlags := 25, slot := 12, constantValue := 0 }, { name := "T_FLOAT", type := .int, accessFlags := 25, slot := 13, constantValue := 0 }, { name := "T_DOUBLE", type := .int, accessFlags := 25, slot := 14, constantValue := 0 }, { name := "T_BYTE", type := .int, accessFlags := 25, slot := 15, constantValue := 0 }, { name := "T_SHORT", type := .int, accessFlags := 25, slot := 16, constantValue := 0 }, { name := "T_INT", type := .int, accessFlags := 25, slot := 17, constantValue := 0 }, { name := "T_LONG", type := .int, accessFlags := 25, slot := 18, constantValue := 0 }, { name := "JLA", type := (.object "jdk/internal/access/JavaLangAccess"), accessFlags := 26, slot := 19, constantValue := 0 }, { name := "SOFT_MAX_ARRAY_LENGTH", type := .int, accessFlags := 25, slot := 20, constantValue := 0 }]
  methods := #[k16m0]
  instanceTypes := #[]
  staticTypes := #[(.object "jdk/internal/misc/Unsafe"), .boolean, .int, .int, .int, .int, .int, .int, .int, .int, .int, .int, .int, .int, .int, .int, .int, .int, .int, (.object "jdk/internal/access/JavaLangAccess"), .int]
  resolved := Array.replicate 378 none
  statics := none }

def pool17 : Array CpInfo := pool [(1, u "java/lang/Cloneable"), (0, .class_ 1), (0, u "java/lang/Object"), (0, .class_ 3)] 3

/-- java/lang/Cloneable -/
def k17 : Class := { plain "java/lang/Cloneable" (some 0) with
  accessFlags := 1537
  interfaces := #[]
  cf := some (fileOf pool17 2 #[] #[] 1537 4 #[] #[])
  fields := #[]
  methods := #[]
  instanceTypes := #[]
  staticTypes := #[]
  resolved := Array.replicate 8 none
  statics := none }

/-- the primitive byte -/
def k18 : Class := { plain "byte" none with kind := .primitive 'B', accessFlags := 0x411 }
/-- [B -/
def k19 : Class := { plain "[B" (some 0) with kind := .array 18 .byte, interfaces := #[17, 2], accessFlags := 1041 }

/-- the primitive char -/
def k20 : Class := { plain "char" none with kind := .primitive 'C', accessFlags := 0x411 }
/-- [C -/
def k21 : Class := { plain "[C" (some 0) with kind := .array 20 .char, interfaces := #[17, 2], accessFlags := 1041 }

/-- the primitive int -/
def k22 : Class := { plain "int" none with kind := .primitive 'I', accessFlags := 0x411 }
/-- [I -/
def k23 : Class := { plain "[I" (some 0) with kind := .array 22 .int, interfaces := #[17, 2], accessFlags := 1041 }

def heap : Heap := #[{ cls := 7, slots := #[.long 0, .int 1, .null, .int 0, .null, .int 0, .int 0], vm := .statics 7 },
  { cls := 12, slots := #[.ref 4, .ref 5, .ref 6, .ref 7, .null], vm := .statics 12 },
  { cls := 13, slots := #[.ref 8, .ref 8, .ref 8, .null], vm := .statics 13 },
  { cls := 15, slots := #[.null, .null, .null], vm := .statics 15 },
  { cls := 12, slots := #[.null, .int 0, .int 0], vm := .none },
  { cls := 12, slots := #[.null, .int 1, .int 0], vm := .none },
  { cls := 12, slots := #[.null, .int 2, .int 0], vm := .none },
  { cls := 12, slots := #[.null, .int 3, .int 0], vm := .none },
  { cls := 13, slots := #[.null, .int 0, .int 0, .null], vm := .none }]
def classes : Array Class := #[k0, k1, k2, k3, k4, k5, k6, k7, k8, k9, k10, k11, k12, k13, k14, k15, k16, k17, k18, k19, k20, k21, k22, k23]
def interned : List (Array UInt16 × Addr) := []
def slotsUsed : Nat := 35
def theMethod : MethodId := ⟨1, 1⟩
def args0 : Array Value := #[.int 5, .int 1, .int 65, .int 66]
def aboutOver (below : List Frame) : State where
  vm := { classes := classes, interned := interned.toArray }
  heap := heap
  slotsUsed := slotsUsed
  threads := #[{ frames := .invoking theMethod args0 :: below }]
def below0 : List Frame := [.native { method := ⟨0, 0⟩, args := #[] }]
def about1 : State := aboutOver below0
def p0 : Program := .bare "" "" ""
def e0 : Env := launch0.env 0 0 0
theorem w_frames : about1.frames = Frame.invoking theMethod args0 :: below0 := rfl
set_option maxRecDepth 65536 in
theorem w_args : argsFit about1.vm theMethod args0 = true := by decide +kernel
set_option maxRecDepth 65536 in
theorem w_heap : heapFits about1 = true := by decide +kernel
set_option maxRecDepth 65536 in
theorem w_runnable : about1.curStatus? = some .runnable := by decide +kernel
set_option maxRecDepth 65536 in
theorem w_alone : about1.alone = true := by decide +kernel
set_option maxRecDepth 65536 in
theorem w_named : about1.methodNamed? x = some theMethod := by decide +kernel
set_option maxRecDepth 65536 in
theorem w_hears : about1.hears theMethod below0 = true := by decide +kernel
set_option maxRecDepth 65536 in
theorem w_ripe : about1.ripe theMethod args0 below0 = true := by decide +kernel
theorem w_running : about1.status = .running := rfl
set_option maxRecDepth 65536 in
theorem w_room : about1.hasRoom e0.platform room_1 = true :=
  launch0.hasRoom_least _ room_1 (by decide +kernel) (by decide +kernel) (by decide +kernel) (by decide +kernel) (by decide +kernel) (by decide +kernel)
theorem allAtoms_all (ts : List Jvm.Cond) (a : Array Jvm.Value) (st : Jvm.State) : (allAtoms ts).before a st = ts.all (fun c => c.before a st) := by
  induction ts with
  | nil => rfl
  | cons c t ih =>
    show (Jvm.Cond.and c (allAtoms t)).before a st = _
    rw [Jvm.Cond.before_and, ih, List.all_cons]
def words1 : List Jvm.Cond := Jvm.Cond.code x code maxLocals ret :: tables_1
/-- a 'code' word, met by the world's own term for the bytes: nothing is compared byte by byte -/
theorem code_word {y : MethodName} {bytes : ByteArray} {mx : Nat} {rt : Option FieldType} {a : Array Value} {s : State} {m : MethodId} {meth : Method} {c : Code} (h1 : s.methodNamed? y = some m) (h2 : s.vm.method? m = some meth) (h3 : meth.code = some c) (h4 : c.code = bytes)
    (h5 : (c.maxLocals == mx && c.exceptionTable.isEmpty && decide (c.maxStack ≤ mostOperands) && decide (meth.sig.returnType = rt) && !meth.locks && decide (parseMethodDescriptor y.desc = some meth.sig)) = true) : (Jvm.Cond.code y bytes mx rt).before a s = true := by
  simp only [Bool.and_eq_true, beq_iff_eq, Bool.not_eq_true', decide_eq_true_eq] at h5
  obtain ⟨⟨⟨⟨⟨g1, g2⟩, g3⟩, g4⟩, g5⟩, g6⟩ := h5
  simp [Cond.before, Cond.holds, Cond.value, h1, h2, h3, h4, g1, g2, g3, g4, g5, g6]
def isCode : Jvm.Cond → Bool
  | .code _ _ _ _ => true
  | _ => false
theorem all_split {L : List Jvm.Cond} {P : Jvm.Cond → Bool} (h1 : L.all (fun c => isCode c || P c) = true) (h2 : ∀ c ∈ L.filter isCode, P c = true) : L.all P = true := by
  refine List.all_eq_true.mpr fun c hc => ?_
  have h := List.all_eq_true.mp h1 c hc
  rcases Bool.eq_false_or_eq_true (isCode c) with hi | hi
  · exact h2 c (List.mem_filter.mpr ⟨hc, hi⟩)
  · simpa [hi] using h
set_option maxRecDepth 65536 in
theorem w_c0 : (Jvm.Cond.code x code maxLocals ret).before args0 about1 = true := code_word (m := ⟨1, 1⟩) (meth := k1m1) (c := k1c1) (by decide +kernel) rfl rfl rfl (by decide +kernel)
set_option maxRecDepth 65536 in
theorem w_c1 : (Jvm.Cond.code ({ cls := "java/lang/String", name := "<init>", desc := "([C)V" } : Jvm.MethodName) jdk_42_method_3_code (2 : Nat) (Option.none : Option Jvm.ClassFile.FieldType)).before args0 about1 = true := code_word (m := ⟨7, 1⟩) (meth := k7m1) (c := k7c1) (by decide +kernel) rfl rfl rfl (by decide +kernel)
set_option maxRecDepth 65536 in
theorem w_c2 : (Jvm.Cond.code ({ cls := "java/lang/String", name := "<init>", desc := "([CIILjava/lang/Void;)V" } : Jvm.MethodName) jdk_42_method_149_code (6 : Nat) (Option.none : Option Jvm.ClassFile.FieldType)).before args0 about1 = true := code_word (m := ⟨7, 2⟩) (meth := k7m2) (c := k7c2) (by decide +kernel) rfl rfl rfl (by decide +kernel)
set_option maxRecDepth 65536 in
theorem w_c3 : (Jvm.Cond.code ({ cls := "java/lang/Object", name := "<init>", desc := "()V" } : Jvm.MethodName) object_method_1_code (1 : Nat) (Option.none : Option Jvm.ClassFile.FieldType)).before args0 about1 = true := code_word (m := ⟨0, 0⟩) (meth := k0m0) (c := k0c0) (by decide +kernel) rfl rfl rfl (by decide +kernel)
set_option maxRecDepth 65536 in
theorem w_c4 : (Jvm.Cond.code ({ cls := "java/lang/StringUTF16", name := "compress", desc := "([CII)[B" } : Jvm.MethodName) jdk_52_method_16_code (6 : Nat) (Option.some (Jvm.ClassFile.FieldType.array Jvm.ClassFile.FieldType.byte))).before args0 about1 = true := code_word (m := ⟨8, 2⟩) (meth := k8m2) (c := k8c2) (by decide +kernel) rfl rfl rfl (by decide +kernel)
set_option maxRecDepth 65536 in
theorem w_c5 : (Jvm.Cond.code ({ cls := "java/lang/StringUTF16", name := "compress", desc := "([CI[BII)I" } : Jvm.MethodName) jdk_52_method_21_code (7 : Nat) (Option.some Jvm.ClassFile.FieldType.int)).before args0 about1 = true := code_word (m := ⟨8, 3⟩) (meth := k8m3) (c := k8c3) (by decide +kernel) rfl rfl rfl (by decide +kernel)
set_option maxRecDepth 65536 in
theorem w_c6 : (Jvm.Cond.code ({ cls := "java/lang/StringUTF16", name := "coderFromArrayLen", desc := "([BI)B" } : Jvm.MethodName) jdk_52_method_15_code (2 : Nat) (Option.some Jvm.ClassFile.FieldType.byte)).before args0 about1 = true := code_word (m := ⟨8, 1⟩) (meth := k8m1) (c := k8c1) (by decide +kernel) rfl rfl rfl (by decide +kernel)
set_option maxRecDepth 65536 in
theorem w_c7 : (Jvm.Cond.code ({ cls := "com/example/tenure/tenure/Attribute", name := "<init>", desc := "(Ljava/lang/String;Lcom/example/tenure/tenure/AttributeType;ZZ)V" } : Jvm.MethodName) prog_3_method_1_code (5 : Nat) (Option.none : Option Jvm.ClassFile.FieldType)).before args0 about1 = true := code_word (m := ⟨10, 0⟩) (meth := k10m0) (c := k10c0) (by decide +kernel) rfl rfl rfl (by decide +kernel)
set_option maxRecDepth 65536 in
theorem w_c8 : (Jvm.Cond.code ({ cls := "java/lang/Record", name := "<init>", desc := "()V" } : Jvm.MethodName) jdk_30_method_1_code (1 : Nat) (Option.none : Option Jvm.ClassFile.FieldType)).before args0 about1 = true := code_word (m := ⟨9, 0⟩) (meth := k9m0) (c := k9c0) (by decide +kernel) rfl rfl rfl (by decide +kernel)
set_option maxRecDepth 65536 in
theorem w_c9 : (Jvm.Cond.code ({ cls := "com/example/tenure/tenure/Attribute", name := "kind", desc := "()Lcom/example/tenure/tenure/Attribute$Kind;" } : Jvm.MethodName) prog_3_method_2_code (1 : Nat) (Option.some (Jvm.ClassFile.FieldType.object "com/example/tenure/tenure/Attribute$Kind"))).before args0 about1 = true := code_word (m := ⟨10, 1⟩) (meth := k10m1) (c := k10c1) (by decide +kernel) rfl rfl rfl (by decide +kernel)
def codes1 : List Jvm.Cond := [Jvm.Cond.code x code maxLocals ret, Jvm.Cond.code ({ cls := "java/lang/String", name := "<init>", desc := "([C)V" } : Jvm.MethodName) jdk_42_method_3_code (2 : Nat) (Option.none : Option Jvm.ClassFile.FieldType), Jvm.Cond.code ({ cls := "java/lang/String", name := "<init>", desc := "([CIILjava/lang/Void;)V" } : Jvm.MethodName) jdk_42_method_149_code (6 : Nat) (Option.none : Option Jvm.ClassFile.FieldType), Jvm.Cond.code ({ cls := "java/lang/Object", name := "<init>", desc := "()V" } : Jvm.MethodName) object_method_1_code (1 : Nat) (Option.none : Option Jvm.ClassFile.FieldType), Jvm.Cond.code ({ cls := "java/lang/StringUTF16", name := "compress", desc := "([CII)[B" } : Jvm.MethodName) jdk_52_method_16_code (6 : Nat) (Option.some (Jvm.ClassFile.FieldType.array Jvm.ClassFile.FieldType.byte)), Jvm.Cond.code ({ cls := "java/lang/StringUTF16", name := "compress", desc := "([CI[BII)I" } : Jvm.MethodName) jdk_52_method_21_code (7 : Nat) (Option.some Jvm.ClassFile.FieldType.int), Jvm.Cond.code ({ cls := "java/lang/StringUTF16", name := "coderFromArrayLen", desc := "([BI)B" } : Jvm.MethodName) jdk_52_method_15_code (2 : Nat) (Option.some Jvm.ClassFile.FieldType.byte), Jvm.Cond.code ({ cls := "com/example/tenure/tenure/Attribute", name := "<init>", desc := "(Ljava/lang/String;Lcom/example/tenure/tenure/AttributeType;ZZ)V" } : Jvm.MethodName) prog_3_method_1_code (5 : Nat) (Option.none : Option Jvm.ClassFile.FieldType), Jvm.Cond.code ({ cls := "java/lang/Record", name := "<init>", desc := "()V" } : Jvm.MethodName) jdk_30_method_1_code (1 : Nat) (Option.none : Option Jvm.ClassFile.FieldType), Jvm.Cond.code ({ cls := "com/example/tenure/tenure/Attribute", name := "kind", desc := "()Lcom/example/tenure/tenure/Attribute$Kind;" } : Jvm.MethodName) prog_3_method_2_code (1 : Nat) (Option.some (Jvm.ClassFile.FieldType.object "com/example/tenure/tenure/Attribute$Kind"))]
set_option maxRecDepth 65536 in
theorem codes_eq : words1.filter isCode = codes1 := rfl
theorem w_codes : ∀ c ∈ words1.filter isCode, c.before args0 about1 = true := by
  rw [codes_eq]
  intro c hc
  simp only [codes1, List.mem_cons, List.not_mem_nil, or_false] at hc
  rcases hc with rfl | rfl | rfl | rfl | rfl | rfl | rfl | rfl | rfl | rfl
  · exact w_c0
  · exact w_c1
  · exact w_c2
  · exact w_c3
  · exact w_c4
  · exact w_c5
  · exact w_c6
  · exact w_c7
  · exact w_c8
  · exact w_c9
set_option maxRecDepth 65536 in
theorem w_t1 : (words1.take 24).all (fun c => isCode c || c.before args0 about1) = true := by decide +kernel
set_option maxRecDepth 65536 in
theorem w_t2 : ((words1.drop 24).take 24).all (fun c => isCode c || c.before args0 about1) = true := by decide +kernel
set_option maxRecDepth 65536 in
theorem w_t3 : (((words1.drop 24).drop 24).take 24).all (fun c => isCode c || c.before args0 about1) = true := by decide +kernel
set_option maxRecDepth 65536 in
theorem w_t4 : (((words1.drop 24).drop 24).drop 24).all (fun c => isCode c || c.before args0 about1) = true := by decide +kernel
theorem w_tables : (allAtoms (Jvm.Cond.code x code maxLocals ret :: tables_1)).before args0 about1 = true := by
  rw [allAtoms_all]
  show words1.all (fun c => c.before args0 about1) = true
  refine all_split ?_ w_codes
  rw [← List.take_append_drop 24 words1, List.all_append, w_t1, ← List.take_append_drop 24 (words1.drop 24), List.all_append, w_t2, ← List.take_append_drop 24 ((words1.drop 24).drop 24), List.all_append, w_t3, w_t4]
  rfl
set_option maxRecDepth 65536 in
theorem w_rest : rest_1_c.before args0 about1 = true := by decide +kernel
set_option maxRecDepth 65536 in
theorem w_case : (Jvm.Cond.and given_1 narrow_1).before args0 about1 = true := by decide +kernel
theorem w_applies : (headSpec (Jvm.Cond.code x code maxLocals ret :: tables_1) room_1).applies x e0.platform about1 = true :=
  (Spec.applies_iff w_frames).mpr ⟨w_running, w_runnable, w_alone, w_named, w_hears, w_ripe, w_room, w_tables⟩
theorem atStart : AtStart classFile x code maxLocals ret World_1 tables_1 room_1 Calls_1 rest_1 Pre_1 launch0 p0 e0 about1 theMethod args0 below0 :=
  ⟨lists_1, trivial, launch0.admits_env _ _ _, launch0.least_env, fairChoices_fair.cas, fairChoices_fair.clock, w_frames, w_args, w_heap, w_applies, trivial, w_rest, w_case⟩
end start1
theorem witness_1 : WitnessClaimed_1 := ⟨start1.p0, start1.e0, start1.about1, start1.theMethod, start1.args0, start1.below0, start1.atStart⟩
end Jvm.Pilot.@@N@@
