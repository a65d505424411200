import JvmDerived
import JvmDerived.Pilot.@@N@@Statement
import JvmDerived.Pilot.@@N@@Code
set_option linter.unusedVariables false
set_option linter.unusedSimpArgs false
namespace Jvm.Pilot.@@N@@
namespace W
open Jvm Jvm.ClassFile Sem Op Lib Jvm.Free Jvm.Stand Jvm.LawKit Jvm.RoadKit Bundle

/-- how a method's end is booked: wide (it may have interned) or plain -/
def EndAt (w : Bool) (s : State) (o : Outcome) (t : State) (L : List Loc) (k n : Nat) : Prop := if w = true then ReturnedEndW s o t L k n else FrameEnd s o t L k n
/-- the address may be written: it is no held literal's cell -/
def Ok (Z : State) (EL : List (String × Nat)) (h : Heap) (sf : List Addr) (x : Addr) : Prop :=
  EL = [] ∨ x ∈ sf ∨ (∃ C, Exa Z h x C ∧ C ≠ "java/lang/String" ∧ C ≠ "[B") ∨ ∃ (cl : Cell) (ty : FieldType), Arr Z h x cl ty ∧ ty ≠ .byte
theorem Ok.safe {Z : State} {EL : List (String × Nat)} {h : Heap} {sf : List Addr} {x : Addr} {vm : Vm} (K : Ok Z EL h sf x) (hal : Z.vm.Alike vm) (S : ∀ y ∈ sf, y < h.size ∧ Safe Z EL vm h y) : Safe Z EL vm h x := by
  rcases K with rfl | q | ⟨C, E, h1, h2⟩ | ⟨cl, ty, A, h1⟩
  · rintro ⟨p, hp, -⟩; cases hp
  · exact (S x q).2
  · exact Safe.exa hal E h1 h2
  · exact Safe.arr hal A h1
/-- the walk stands at T, over the heap h; k cells and n slots are made; sf may be written -/
def St (w : Bool) (Z : State) (a0 : Array Value) (EL : List (String × Nat)) (y : MethodName) (bytes : ByteArray) (maxL : Nat) (ret : Option FieldType) (p : Program) (l : Launch) (e : Env) (R : Room) (s : State) (m : MethodId) (args : Array Value) (below : List Frame) (meth : Method) (c : Code) (T : State) (h : Heap) (sf : List Addr) (k n : Nat) : Prop :=
  (p.tables.exec = Jvm.exec ∧ c.code = bytes ∧ c.maxLocals = maxL ∧ meth.sig.returnType = ret ∧ meth.locks = false ∧ meth.name = y.name ∧ EW Z a0 EL) ∧
  ∃ (vm0 : Vm) (k0 : Nat) (locs : List Loc), Stand p l e R (s.setVm vm0) m args below meth c T locs k n ∧ T.heap = h ∧ s.Since vm0 k0 ∧ k0 ≤ h.size ∧ Z.Warmed39 vm0 ∧ vm0.findClass y.cls = some m.cls ∧ Fr Z.heap.size locs ∧ Ext Z.heap h ∧ (w = false → vm0 = s.vm ∧ EL = []) ∧ CHr Z EL s.vm s.heap vm0 h ∧ ∀ x ∈ sf, x < h.size ∧ Safe Z EL vm0 h x
/-- from here the method comes to its end as Q wants it -/
def Go (w : Bool) (Z : State) (EL : List (String × Nat)) (C N : Nat) (Q : Option Value → Heap → (Addr → Prop) → Prop) (p : Program) (e : Env) (s : State) (below : List Frame) (T : State) (g : JFrame) : Prop :=
  ∃ (s₂ : State) (o : Outcome), Steps p.tables e below (T.setTop g) s₂ ∧ s₂.status = .running ∧ Ended s₂ below o ∧ ∃ v L, o = .returned v ∧ (Fr Z.heap.size L ∧ Ext Z.heap s₂.heap ∧ CHr Z EL s.vm s.heap s₂.vm s₂.heap ∧ Q v s₂.heap (Safe Z EL s₂.vm s₂.heap)) ∧ EndAt w s o s₂ L C N
/-- a method's contract, at arguments and a heap that are known -/
def Ct (w : Bool) (Z : State) (a0 : Array Value) (EL : List (String × Nat)) (l : Launch) (y : MethodName) (bytes : ByteArray) (maxL : Nat) (ret : Option FieldType) (rm : Room) (as : Array Value) (h0 : Heap) (sf0 : List Addr) (Q : Option Value → Heap → (Addr → Prop) → Prop) : Prop :=
  ∀ ws : List Jvm.Cond, EW Z a0 EL → Ext Z.heap h0 → MetFree l y (head1 (Cond.code y bytes maxL ret :: ws) rm) (fun a U => a = as ∧ Z.Warmed39 U.vm ∧ U.heap = h0 ∧ CHv Z EL U.vm h0 ∧ ∀ x ∈ sf0, x < h0.size ∧ Safe Z EL U.vm h0 x) (fun _ _ _ _ _ => True)
    (fun _ U o U' => ∃ v L, o = .returned v ∧ (Fr Z.heap.size L ∧ Ext Z.heap U'.heap ∧ CHr Z EL U.vm U.heap U'.vm U'.heap ∧ Q v U'.heap (Safe Z EL U'.vm U'.heap)) ∧ EndAt w U o U' L rm.cells rm.slots)

section
variable {w : Bool} {Z : State} {a0 : Array Value} {EL : List (String × Nat)} {y : MethodName} {bytes : ByteArray} {maxL : Nat} {ret : Option FieldType} {p : Program} {l : Launch} {e : Env} {R : Room} {s : State} {m : MethodId} {args : Array Value} {below : List Frame} {meth : Method} {c : Code} {T : State} {h : Heap} {sf : List Addr} {k n C N : Nat} {Q : Option Value → Heap → (Addr → Prop) → Prop} {rm : Room} {as : Array Value} {h0 : Heap} {sf0 : List Addr}

theorem Ct.walk (hwe : w = false → EL = []) (hpl : plainFor y = true) (body : ∀ (p : Program) (e : Env) (s : State) (m : MethodId) (below : List Frame) (meth : Method) (c : Code) (T : State), Ext Z.heap h0 → St w Z a0 EL y bytes maxL ret p l e rm s m as below meth c T h0 sf0 0 0 → Go w Z EL rm.cells rm.slots Q p e s below T (entryFrame m as maxL)) :
    Ct w Z a0 EL l y bytes maxL ret rm as h0 sf0 Q := by
  intro ws hEW hext
  refine MetFree.of_bodySF hpl hisR ?_
  intro p e s m args below meth c s₁ Bd hml hP hK
  obtain ⟨rfl, hZ, hh, hcv, hsf⟩ := hP
  have X0 : Stand p l e rm s m args below meth c s₁ [] 0 0 := Stand.of_body Bd
  have e0 : s₁.heap = h0 := by rw [← hh, Bd.state]; rfl
  refine body p e s m below meth c s₁ hext ⟨⟨Bd.exec, Bd.bytes, hml, Bd.returns, Bd.notSynchronized, (name_of_methodNamed Bd.named Bd.method).1, hEW⟩, s.vm, 0, [], X0, e0, ?_, Nat.zero_le _, hZ, findClass_of_methodNamed Bd.named, Fr.nil _, hext, fun q => ⟨rfl, hwe q⟩, ?_, hsf⟩
  · exact (State.WarmedH.refl s).since 0
  · rw [hh]; exact CHr.refl hcv

/-- a step that leaves the state as it is but for the top frame -/
theorem ps (X : St w Z a0 EL y bytes maxL ret p l e R s m args below meth c T h sf k n) {g g' : JFrame} (f : At T m c below → p.tables.exec = Jvm.exec → c.code = bytes → ∀ target, Steps p.tables e below (T.setTop g') target → Steps p.tables e below (T.setTop g) target) (kk : Go w Z EL C N Q p e s below T g') : Go w Z EL C N Q p e s below T g := by
  obtain ⟨⟨hx, hby, -⟩, vm0, k0, locs, X0, -⟩ := X
  obtain ⟨s₂, o, hs, r⟩ := kk
  exact ⟨s₂, o, f X0.here hx hby _ hs, r⟩
theorem castG {g g' : JFrame} (q : g = g') (kk : Go w Z EL C N Q p e s below T g') : Go w Z EL C N Q p e s below T g := q ▸ kk
theorem o_aloadN (X : St w Z a0 EL y bytes maxL ret p l e R s m args below meth c T h sf k n) {pc pc' : Nat} {L : Array Slot} {S : List Value} {i : Fin 4} {v : Value} (hd : decode bytes pc = .ok (.aload_n i, 1)) (hp : pc + 1 = pc') (hl : L[i.val]? = some (.val v)) (hv : v.isRef = true) (kk : Go w Z EL C N Q p e s below T (mkF m pc' L (v :: S))) : Go w Z EL C N Q p e s below T (mkF m pc L S) := by
  subst hp
  exact ps X (fun H hx hby _ q => XS.aloadN H hx rfl (hb hby hd) hl hv q) kk
theorem o_aload (X : St w Z a0 EL y bytes maxL ret p l e R s m args below meth c T h sf k n) {pc pc' : Nat} {L : Array Slot} {S : List Value} {i : Nat} {v : Value} (hd : decode bytes pc = .ok (.aload i, 2)) (hp : pc + 2 = pc') (hl : L[i]? = some (.val v)) (hv : v.isRef = true) (kk : Go w Z EL C N Q p e s below T (mkF m pc' L (v :: S))) : Go w Z EL C N Q p e s below T (mkF m pc L S) := by
  subst hp
  exact ps X (fun H hx hby _ q => XS.aload H hx rfl (hb hby hd) hl hv q) kk
theorem o_iloadN (X : St w Z a0 EL y bytes maxL ret p l e R s m args below meth c T h sf k n) {pc pc' : Nat} {L : Array Slot} {S : List Value} {i : Fin 4} {v : Int32} (hd : decode bytes pc = .ok (.iload_n i, 1)) (hp : pc + 1 = pc') (hl : L[i.val]? = some (.val (.int v))) (kk : Go w Z EL C N Q p e s below T (mkF m pc' L (.int v :: S))) : Go w Z EL C N Q p e s below T (mkF m pc L S) := by
  subst hp
  exact ps X (fun H hx hby _ q => XS.iloadN H hx rfl (hb hby hd) hl q) kk
theorem o_iload (X : St w Z a0 EL y bytes maxL ret p l e R s m args below meth c T h sf k n) {pc pc' : Nat} {L : Array Slot} {S : List Value} {i : Nat} {v : Int32} (hd : decode bytes pc = .ok (.iload i, 2)) (hp : pc + 2 = pc') (hl : L[i]? = some (.val (.int v))) (kk : Go w Z EL C N Q p e s below T (mkF m pc' L (.int v :: S))) : Go w Z EL C N Q p e s below T (mkF m pc L S) := by
  subst hp
  exact ps X (fun H hx hby _ q => XS.iload H hx rfl (hb hby hd) hl q) kk
theorem o_lloadN (X : St w Z a0 EL y bytes maxL ret p l e R s m args below meth c T h sf k n) {pc pc' : Nat} {L : Array Slot} {S : List Value} {i : Fin 4} {v : Int64} (hd : decode bytes pc = .ok (.lload_n i, 1)) (hp : pc + 1 = pc') (hl : L[i.val]? = some (.val (.long v))) (kk : Go w Z EL C N Q p e s below T (mkF m pc' L (.long v :: S))) : Go w Z EL C N Q p e s below T (mkF m pc L S) := by
  subst hp
  exact ps X (fun H hx hby _ q => XS.lloadN H hx rfl (hb hby hd) hl q) kk
theorem o_lload (X : St w Z a0 EL y bytes maxL ret p l e R s m args below meth c T h sf k n) {pc pc' : Nat} {L : Array Slot} {S : List Value} {i : Nat} {v : Int64} (hd : decode bytes pc = .ok (.lload i, 2)) (hp : pc + 2 = pc') (hl : L[i]? = some (.val (.long v))) (kk : Go w Z EL C N Q p e s below T (mkF m pc' L (.long v :: S))) : Go w Z EL C N Q p e s below T (mkF m pc L S) := by
  subst hp
  exact ps X (fun H hx hby _ q => XS.lload H hx rfl (hb hby hd) hl q) kk
theorem o_istoreN (X : St w Z a0 EL y bytes maxL ret p l e R s m args below meth c T h sf k n) {pc pc' : Nat} {L : Array Slot} {S : List Value} {i : Fin 4} {v : Int32} {L' : Array Slot} (hd : decode bytes pc = .ok (.istore_n i, 1)) (hp : pc + 1 = pc') (hl : storeLocals L i.val (.int v) = some L') (kk : Go w Z EL C N Q p e s below T (mkF m pc' L' S)) : Go w Z EL C N Q p e s below T (mkF m pc L (.int v :: S)) := by
  subst hp
  exact ps X (fun H hx hby _ q => XS.istoreN H hx rfl (hb hby hd) rfl hl q) kk
theorem o_istore (X : St w Z a0 EL y bytes maxL ret p l e R s m args below meth c T h sf k n) {pc pc' : Nat} {L : Array Slot} {S : List Value} {i : Nat} {v : Int32} {L' : Array Slot} (hd : decode bytes pc = .ok (.istore i, 2)) (hp : pc + 2 = pc') (hl : storeLocals L i (.int v) = some L') (kk : Go w Z EL C N Q p e s below T (mkF m pc' L' S)) : Go w Z EL C N Q p e s below T (mkF m pc L (.int v :: S)) := by
  subst hp
  exact ps X (fun H hx hby _ q => XS.istore H hx rfl (hb hby hd) rfl hl q) kk
theorem o_lstoreN (X : St w Z a0 EL y bytes maxL ret p l e R s m args below meth c T h sf k n) {pc pc' : Nat} {L : Array Slot} {S : List Value} {i : Fin 4} {v : Int64} {L' : Array Slot} (hd : decode bytes pc = .ok (.lstore_n i, 1)) (hp : pc + 1 = pc') (hl : storeLocals L i.val (.long v) = some L') (kk : Go w Z EL C N Q p e s below T (mkF m pc' L' S)) : Go w Z EL C N Q p e s below T (mkF m pc L (.long v :: S)) := by
  subst hp
  exact ps X (fun H hx hby _ q => XS.lstoreN H hx rfl (hb hby hd) rfl hl q) kk
theorem o_lstore (X : St w Z a0 EL y bytes maxL ret p l e R s m args below meth c T h sf k n) {pc pc' : Nat} {L : Array Slot} {S : List Value} {i : Nat} {v : Int64} {L' : Array Slot} (hd : decode bytes pc = .ok (.lstore i, 2)) (hp : pc + 2 = pc') (hl : storeLocals L i (.long v) = some L') (kk : Go w Z EL C N Q p e s below T (mkF m pc' L' S)) : Go w Z EL C N Q p e s below T (mkF m pc L (.long v :: S)) := by
  subst hp
  exact ps X (fun H hx hby _ q => XS.lstore H hx rfl (hb hby hd) rfl hl q) kk
theorem o_astoreN (X : St w Z a0 EL y bytes maxL ret p l e R s m args below meth c T h sf k n) {pc pc' : Nat} {L : Array Slot} {S : List Value} {i : Fin 4} {v : Value} {L' : Array Slot} (hd : decode bytes pc = .ok (.astore_n i, 1)) (hp : pc + 1 = pc') (hl : storeLocals L i.val v = some L') (hv : v.isRef = true) (kk : Go w Z EL C N Q p e s below T (mkF m pc' L' S)) : Go w Z EL C N Q p e s below T (mkF m pc L (v :: S)) := by
  subst hp
  exact ps X (fun H hx hby _ q => XS.astoreN H hx rfl (hb hby hd) rfl hv hl q) kk
theorem o_astore (X : St w Z a0 EL y bytes maxL ret p l e R s m args below meth c T h sf k n) {pc pc' : Nat} {L : Array Slot} {S : List Value} {i : Nat} {v : Value} {L' : Array Slot} (hd : decode bytes pc = .ok (.astore i, 2)) (hp : pc + 2 = pc') (hl : storeLocals L i v = some L') (hv : v.isRef = true) (kk : Go w Z EL C N Q p e s below T (mkF m pc' L' S)) : Go w Z EL C N Q p e s below T (mkF m pc L (v :: S)) := by
  subst hp
  exact ps X (fun H hx hby _ q => XS.astore H hx rfl (hb hby hd) rfl hv hl q) kk
theorem o_iconst (X : St w Z a0 EL y bytes maxL ret p l e R s m args below meth c T h sf k n) {pc pc' : Nat} {L : Array Slot} {S : List Value} {i : Int} (v : Int32) (hd : decode bytes pc = .ok (.iconst i, 1)) (hp : pc + 1 = pc') (hv : Int32.ofInt i = v) (kk : Go w Z EL C N Q p e s below T (mkF m pc' L (.int v :: S))) : Go w Z EL C N Q p e s below T (mkF m pc L S) := by
  subst hp
  exact ps X (fun H hx hby _ q => XT.iconstV H hx rfl v (hb hby hd) hv q) kk
theorem o_bipush (X : St w Z a0 EL y bytes maxL ret p l e R s m args below meth c T h sf k n) {pc pc' : Nat} {L : Array Slot} {S : List Value} {i : Int} (v : Int32) (hd : decode bytes pc = .ok (.bipush i, 2)) (hp : pc + 2 = pc') (hv : (Int8.ofInt i).toInt32 = v) (kk : Go w Z EL C N Q p e s below T (mkF m pc' L (.int v :: S))) : Go w Z EL C N Q p e s below T (mkF m pc L S) := by
  subst hp
  exact ps X (fun H hx hby _ q => XT.bipushV H hx rfl v (hb hby hd) hv q) kk
theorem o_sipush (X : St w Z a0 EL y bytes maxL ret p l e R s m args below meth c T h sf k n) {pc pc' : Nat} {L : Array Slot} {S : List Value} {i : Int} (v : Int32) (hd : decode bytes pc = .ok (.sipush i, 3)) (hp : pc + 3 = pc') (hv : (Int16.ofInt i).toInt32 = v) (kk : Go w Z EL C N Q p e s below T (mkF m pc' L (.int v :: S))) : Go w Z EL C N Q p e s below T (mkF m pc L S) := by
  subst hp
  exact ps X (fun H hx hby _ q => XT.sipushV H hx rfl v (hb hby hd) hv q) kk
theorem o_lconst (X : St w Z a0 EL y bytes maxL ret p l e R s m args below meth c T h sf k n) {pc pc' : Nat} {L : Array Slot} {S : List Value} {i : Fin 2} (v : Int64) (hd : decode bytes pc = .ok (.lconst i, 1)) (hp : pc + 1 = pc') (hv : Int64.ofNat i = v) (kk : Go w Z EL C N Q p e s below T (mkF m pc' L (.long v :: S))) : Go w Z EL C N Q p e s below T (mkF m pc L S) := by
  subst hp
  exact ps X (fun H hx hby _ q => XT.lconstV H hx rfl v (hb hby hd) hv q) kk
theorem o_aconst_null (X : St w Z a0 EL y bytes maxL ret p l e R s m args below meth c T h sf k n) {pc pc' : Nat} {L : Array Slot} {S : List Value}  (hd : decode bytes pc = .ok (.aconst_null, 1)) (hp : pc + 1 = pc')  (kk : Go w Z EL C N Q p e s below T (mkF m pc' L (.null :: S))) : Go w Z EL C N Q p e s below T (mkF m pc L S) := by
  subst hp
  exact ps X (fun H hx hby _ q => XS.aconstNull H hx rfl (hb hby hd)  q) kk
theorem o_iadd (X : St w Z a0 EL y bytes maxL ret p l e R s m args below meth c T h sf k n) {pc pc' : Nat} {L : Array Slot} {S : List Value} {x z : Int32} (hd : decode bytes pc = .ok (.iadd, 1)) (hp : pc + 1 = pc')  (kk : Go w Z EL C N Q p e s below T (mkF m pc' L (.int (x + z) :: S))) : Go w Z EL C N Q p e s below T (mkF m pc L (.int z :: .int x :: S)) := by
  subst hp
  exact ps X (fun H hx hby _ q => XS.iadd H hx rfl (hb hby hd) rfl q) kk
theorem o_ladd (X : St w Z a0 EL y bytes maxL ret p l e R s m args below meth c T h sf k n) {pc pc' : Nat} {L : Array Slot} {S : List Value} {x z : Int64} (hd : decode bytes pc = .ok (.ladd, 1)) (hp : pc + 1 = pc')  (kk : Go w Z EL C N Q p e s below T (mkF m pc' L (.long (x + z) :: S))) : Go w Z EL C N Q p e s below T (mkF m pc L (.long z :: .long x :: S)) := by
  subst hp
  exact ps X (fun H hx hby _ q => XS.ladd H hx rfl (hb hby hd) rfl q) kk
theorem o_isub (X : St w Z a0 EL y bytes maxL ret p l e R s m args below meth c T h sf k n) {pc pc' : Nat} {L : Array Slot} {S : List Value} {x z : Int32} (hd : decode bytes pc = .ok (.isub, 1)) (hp : pc + 1 = pc')  (kk : Go w Z EL C N Q p e s below T (mkF m pc' L (.int (x - z) :: S))) : Go w Z EL C N Q p e s below T (mkF m pc L (.int z :: .int x :: S)) := by
  subst hp
  exact ps X (fun H hx hby _ q => XS.isub H hx rfl (hb hby hd) rfl q) kk
theorem o_lsub (X : St w Z a0 EL y bytes maxL ret p l e R s m args below meth c T h sf k n) {pc pc' : Nat} {L : Array Slot} {S : List Value} {x z : Int64} (hd : decode bytes pc = .ok (.lsub, 1)) (hp : pc + 1 = pc')  (kk : Go w Z EL C N Q p e s below T (mkF m pc' L (.long (x - z) :: S))) : Go w Z EL C N Q p e s below T (mkF m pc L (.long z :: .long x :: S)) := by
  subst hp
  exact ps X (fun H hx hby _ q => XS.lsub H hx rfl (hb hby hd) rfl q) kk
theorem o_imul (X : St w Z a0 EL y bytes maxL ret p l e R s m args below meth c T h sf k n) {pc pc' : Nat} {L : Array Slot} {S : List Value} {x z : Int32} (hd : decode bytes pc = .ok (.imul, 1)) (hp : pc + 1 = pc')  (kk : Go w Z EL C N Q p e s below T (mkF m pc' L (.int (x * z) :: S))) : Go w Z EL C N Q p e s below T (mkF m pc L (.int z :: .int x :: S)) := by
  subst hp
  exact ps X (fun H hx hby _ q => XS.imul H hx rfl (hb hby hd) rfl q) kk
theorem o_lmul (X : St w Z a0 EL y bytes maxL ret p l e R s m args below meth c T h sf k n) {pc pc' : Nat} {L : Array Slot} {S : List Value} {x z : Int64} (hd : decode bytes pc = .ok (.lmul, 1)) (hp : pc + 1 = pc')  (kk : Go w Z EL C N Q p e s below T (mkF m pc' L (.long (x * z) :: S))) : Go w Z EL C N Q p e s below T (mkF m pc L (.long z :: .long x :: S)) := by
  subst hp
  exact ps X (fun H hx hby _ q => XS.lmul H hx rfl (hb hby hd) rfl q) kk
theorem o_iand (X : St w Z a0 EL y bytes maxL ret p l e R s m args below meth c T h sf k n) {pc pc' : Nat} {L : Array Slot} {S : List Value} {x z : Int32} (hd : decode bytes pc = .ok (.iand, 1)) (hp : pc + 1 = pc')  (kk : Go w Z EL C N Q p e s below T (mkF m pc' L (.int (x &&& z) :: S))) : Go w Z EL C N Q p e s below T (mkF m pc L (.int z :: .int x :: S)) := by
  subst hp
  exact ps X (fun H hx hby _ q => XS.iand H hx rfl (hb hby hd) rfl q) kk
theorem o_land (X : St w Z a0 EL y bytes maxL ret p l e R s m args below meth c T h sf k n) {pc pc' : Nat} {L : Array Slot} {S : List Value} {x z : Int64} (hd : decode bytes pc = .ok (.land, 1)) (hp : pc + 1 = pc')  (kk : Go w Z EL C N Q p e s below T (mkF m pc' L (.long (x &&& z) :: S))) : Go w Z EL C N Q p e s below T (mkF m pc L (.long z :: .long x :: S)) := by
  subst hp
  exact ps X (fun H hx hby _ q => XS.land H hx rfl (hb hby hd) rfl q) kk
theorem o_ior (X : St w Z a0 EL y bytes maxL ret p l e R s m args below meth c T h sf k n) {pc pc' : Nat} {L : Array Slot} {S : List Value} {x z : Int32} (hd : decode bytes pc = .ok (.ior, 1)) (hp : pc + 1 = pc')  (kk : Go w Z EL C N Q p e s below T (mkF m pc' L (.int (x ||| z) :: S))) : Go w Z EL C N Q p e s below T (mkF m pc L (.int z :: .int x :: S)) := by
  subst hp
  exact ps X (fun H hx hby _ q => XS.ior H hx rfl (hb hby hd) rfl q) kk
theorem o_lor (X : St w Z a0 EL y bytes maxL ret p l e R s m args below meth c T h sf k n) {pc pc' : Nat} {L : Array Slot} {S : List Value} {x z : Int64} (hd : decode bytes pc = .ok (.lor, 1)) (hp : pc + 1 = pc')  (kk : Go w Z EL C N Q p e s below T (mkF m pc' L (.long (x ||| z) :: S))) : Go w Z EL C N Q p e s below T (mkF m pc L (.long z :: .long x :: S)) := by
  subst hp
  exact ps X (fun H hx hby _ q => XS.lor H hx rfl (hb hby hd) rfl q) kk
theorem o_ixor (X : St w Z a0 EL y bytes maxL ret p l e R s m args below meth c T h sf k n) {pc pc' : Nat} {L : Array Slot} {S : List Value} {x z : Int32} (hd : decode bytes pc = .ok (.ixor, 1)) (hp : pc + 1 = pc')  (kk : Go w Z EL C N Q p e s below T (mkF m pc' L (.int (x ^^^ z) :: S))) : Go w Z EL C N Q p e s below T (mkF m pc L (.int z :: .int x :: S)) := by
  subst hp
  exact ps X (fun H hx hby _ q => XS.ixor H hx rfl (hb hby hd) rfl q) kk
theorem o_lxor (X : St w Z a0 EL y bytes maxL ret p l e R s m args below meth c T h sf k n) {pc pc' : Nat} {L : Array Slot} {S : List Value} {x z : Int64} (hd : decode bytes pc = .ok (.lxor, 1)) (hp : pc + 1 = pc')  (kk : Go w Z EL C N Q p e s below T (mkF m pc' L (.long (x ^^^ z) :: S))) : Go w Z EL C N Q p e s below T (mkF m pc L (.long z :: .long x :: S)) := by
  subst hp
  exact ps X (fun H hx hby _ q => XS.lxor H hx rfl (hb hby hd) rfl q) kk
theorem o_ishl (X : St w Z a0 EL y bytes maxL ret p l e R s m args below meth c T h sf k n) {pc pc' : Nat} {L : Array Slot} {S : List Value} {x z : Int32} (hd : decode bytes pc = .ok (.ishl, 1)) (hp : pc + 1 = pc')  (kk : Go w Z EL C N Q p e s below T (mkF m pc' L (.int (x <<< (z &&& 31)) :: S))) : Go w Z EL C N Q p e s below T (mkF m pc L (.int z :: .int x :: S)) := by
  subst hp
  exact ps X (fun H hx hby _ q => XS.ishl H hx rfl (hb hby hd) rfl q) kk
theorem o_ishr (X : St w Z a0 EL y bytes maxL ret p l e R s m args below meth c T h sf k n) {pc pc' : Nat} {L : Array Slot} {S : List Value} {x z : Int32} (hd : decode bytes pc = .ok (.ishr, 1)) (hp : pc + 1 = pc')  (kk : Go w Z EL C N Q p e s below T (mkF m pc' L (.int (x >>> (z &&& 31)) :: S))) : Go w Z EL C N Q p e s below T (mkF m pc L (.int z :: .int x :: S)) := by
  subst hp
  exact ps X (fun H hx hby _ q => XS.ishr H hx rfl (hb hby hd) rfl q) kk
theorem o_iushr (X : St w Z a0 EL y bytes maxL ret p l e R s m args below meth c T h sf k n) {pc pc' : Nat} {L : Array Slot} {S : List Value} {x z : Int32} (hd : decode bytes pc = .ok (.iushr, 1)) (hp : pc + 1 = pc')  (kk : Go w Z EL C N Q p e s below T (mkF m pc' L (.int ((x.toUInt32 >>> (z &&& 31).toUInt32).toInt32) :: S))) : Go w Z EL C N Q p e s below T (mkF m pc L (.int z :: .int x :: S)) := by
  subst hp
  exact ps X (fun H hx hby _ q => XS.iushr H hx rfl (hb hby hd) rfl q) kk
theorem o_idiv (X : St w Z a0 EL y bytes maxL ret p l e R s m args below meth c T h sf k n) {pc pc' : Nat} {L : Array Slot} {S : List Value} {x z : Int32} (hd : decode bytes pc = .ok (.idiv, 1)) (hp : pc + 1 = pc') (hz : z ≠ 0) (kk : Go w Z EL C N Q p e s below T (mkF m pc' L (.int (x / z) :: S))) : Go w Z EL C N Q p e s below T (mkF m pc L (.int z :: .int x :: S)) := by
  subst hp
  exact ps X (fun H hx hby _ q => XS.idiv H hx rfl (hb hby hd) rfl hz q) kk
theorem o_ineg (X : St w Z a0 EL y bytes maxL ret p l e R s m args below meth c T h sf k n) {pc pc' : Nat} {L : Array Slot} {S : List Value} {x : Int32} (hd : decode bytes pc = .ok (.ineg, 1)) (hp : pc + 1 = pc')  (kk : Go w Z EL C N Q p e s below T (mkF m pc' L (.int (-x) :: S))) : Go w Z EL C N Q p e s below T (mkF m pc L (.int x :: S)) := by
  subst hp
  exact ps X (fun H hx hby _ q => XS.ineg H hx rfl (hb hby hd) rfl q) kk
theorem o_i2c (X : St w Z a0 EL y bytes maxL ret p l e R s m args below meth c T h sf k n) {pc pc' : Nat} {L : Array Slot} {S : List Value} {x : Int32} (hd : decode bytes pc = .ok (.i2c, 1)) (hp : pc + 1 = pc')  (kk : Go w Z EL C N Q p e s below T (mkF m pc' L (.int (x.toUInt32.toUInt16.toUInt32.toInt32) :: S))) : Go w Z EL C N Q p e s below T (mkF m pc L (.int x :: S)) := by
  subst hp
  exact ps X (fun H hx hby _ q => XS.i2c H hx rfl (hb hby hd) rfl q) kk
theorem o_i2b (X : St w Z a0 EL y bytes maxL ret p l e R s m args below meth c T h sf k n) {pc pc' : Nat} {L : Array Slot} {S : List Value} {x : Int32} (hd : decode bytes pc = .ok (.i2b, 1)) (hp : pc + 1 = pc')  (kk : Go w Z EL C N Q p e s below T (mkF m pc' L (.int (x.toInt8.toInt32) :: S))) : Go w Z EL C N Q p e s below T (mkF m pc L (.int x :: S)) := by
  subst hp
  exact ps X (fun H hx hby _ q => XS.i2b H hx rfl (hb hby hd) rfl q) kk
theorem o_i2s (X : St w Z a0 EL y bytes maxL ret p l e R s m args below meth c T h sf k n) {pc pc' : Nat} {L : Array Slot} {S : List Value} {x : Int32} (hd : decode bytes pc = .ok (.i2s, 1)) (hp : pc + 1 = pc')  (kk : Go w Z EL C N Q p e s below T (mkF m pc' L (.int (x.toInt16.toInt32) :: S))) : Go w Z EL C N Q p e s below T (mkF m pc L (.int x :: S)) := by
  subst hp
  exact ps X (fun H hx hby _ q => XS.i2s H hx rfl (hb hby hd) rfl q) kk
theorem o_i2l (X : St w Z a0 EL y bytes maxL ret p l e R s m args below meth c T h sf k n) {pc pc' : Nat} {L : Array Slot} {S : List Value} {x : Int32} (hd : decode bytes pc = .ok (.i2l, 1)) (hp : pc + 1 = pc')  (kk : Go w Z EL C N Q p e s below T (mkF m pc' L (.long (x.toInt64) :: S))) : Go w Z EL C N Q p e s below T (mkF m pc L (.int x :: S)) := by
  subst hp
  exact ps X (fun H hx hby _ q => XS.i2l H hx rfl (hb hby hd) rfl q) kk
theorem o_l2i (X : St w Z a0 EL y bytes maxL ret p l e R s m args below meth c T h sf k n) {pc pc' : Nat} {L : Array Slot} {S : List Value} {x : Int64} (hd : decode bytes pc = .ok (.l2i, 1)) (hp : pc + 1 = pc')  (kk : Go w Z EL C N Q p e s below T (mkF m pc' L (.int (x.toInt32) :: S))) : Go w Z EL C N Q p e s below T (mkF m pc L (.long x :: S)) := by
  subst hp
  exact ps X (fun H hx hby _ q => XS.l2i H hx rfl (hb hby hd) rfl q) kk
theorem o_lcmp (X : St w Z a0 EL y bytes maxL ret p l e R s m args below meth c T h sf k n) {pc pc' : Nat} {L : Array Slot} {S : List Value} {x z : Int64} (hd : decode bytes pc = .ok (.lcmp, 1)) (hp : pc + 1 = pc')  (kk : Go w Z EL C N Q p e s below T (mkF m pc' L (.int (XT.cmpL x z) :: S))) : Go w Z EL C N Q p e s below T (mkF m pc L (.long z :: .long x :: S)) := by
  subst hp
  exact ps X (fun H hx hby _ q => XT.lcmp H hx rfl (hb hby hd) rfl q) kk
theorem o_dup (X : St w Z a0 EL y bytes maxL ret p l e R s m args below meth c T h sf k n) {pc pc' : Nat} {L : Array Slot} {S : List Value} {v : Value} (hd : decode bytes pc = .ok (.dup, 1)) (hp : pc + 1 = pc') (hv : v.category = 1) (kk : Go w Z EL C N Q p e s below T (mkF m pc' L (v :: v :: S))) : Go w Z EL C N Q p e s below T (mkF m pc L (v :: S)) := by
  subst hp
  exact ps X (fun H hx hby _ q => XS.dup H hx rfl (hb hby hd) rfl hv q) kk
theorem o_pop (X : St w Z a0 EL y bytes maxL ret p l e R s m args below meth c T h sf k n) {pc pc' : Nat} {L : Array Slot} {S : List Value} {v : Value} (hd : decode bytes pc = .ok (.pop, 1)) (hp : pc + 1 = pc') (hv : v.category = 1) (kk : Go w Z EL C N Q p e s below T (mkF m pc' L S)) : Go w Z EL C N Q p e s below T (mkF m pc L (v :: S)) := by
  subst hp
  exact ps X (fun H hx hby _ q => XS.pop H hx rfl (hb hby hd) rfl hv q) kk
theorem o_dup_x1 (X : St w Z a0 EL y bytes maxL ret p l e R s m args below meth c T h sf k n) {pc pc' : Nat} {L : Array Slot} {S : List Value} {u v : Value} (hd : decode bytes pc = .ok (.dup_x1, 1)) (hp : pc + 1 = pc') (hu : u.category = 1) (hv : v.category = 1) (kk : Go w Z EL C N Q p e s below T (mkF m pc' L (u :: v :: u :: S))) : Go w Z EL C N Q p e s below T (mkF m pc L (u :: v :: S)) := by
  subst hp
  exact ps X (fun H hx hby _ q => XT.dupX1 H hx rfl (hb hby hd) rfl hu hv q) kk
theorem o_dup2 (X : St w Z a0 EL y bytes maxL ret p l e R s m args below meth c T h sf k n) {pc pc' : Nat} {L : Array Slot} {S : List Value} {u v : Value} (hd : decode bytes pc = .ok (.dup2, 1)) (hp : pc + 1 = pc') (hu : u.category = 1) (hv : v.category = 1) (kk : Go w Z EL C N Q p e s below T (mkF m pc' L (u :: v :: u :: v :: S))) : Go w Z EL C N Q p e s below T (mkF m pc L (u :: v :: S)) := by
  subst hp
  exact ps X (fun H hx hby _ q => XT.dup2 H hx rfl (hb hby hd) rfl hu hv q) kk
theorem o_iinc (X : St w Z a0 EL y bytes maxL ret p l e R s m args below meth c T h sf k n) {pc pc' : Nat} {L : Array Slot} {S : List Value} {i : Nat} {cst : Int} {x : Int32} {L' : Array Slot} (v : Int32) (hd : decode bytes pc = .ok (.iinc i cst, 3)) (hp : pc + 3 = pc') (hv : Int32.ofInt cst = v) (hl : L[i]? = some (.val (.int x))) (hl' : storeLocals L i (.int (x + v)) = some L') (kk : Go w Z EL C N Q p e s below T (mkF m pc' L' S)) : Go w Z EL C N Q p e s below T (mkF m pc L S) := by
  subst hp
  exact ps X (fun H hx hby _ q => XS.iinc H hx rfl (hb hby hd) hl (by rw [hv]; exact hl') q) kk
theorem o_irem (X : St w Z a0 EL y bytes maxL ret p l e R s m args below meth c T h sf k n) {pc pc' : Nat} {L : Array Slot} {S : List Value} {x z : Int32} (hd : decode bytes pc = .ok (.irem, 1)) (hp : pc + 1 = pc') (hz : z ≠ 0) (kk : Go w Z EL C N Q p e s below T (mkF m pc' L (.int (x % z) :: S))) : Go w Z EL C N Q p e s below T (mkF m pc L (.int z :: .int x :: S)) := by
  subst hp
  exact ps X (fun H hx hby _ q => XS.irem H hx rfl (hb hby hd) rfl hz (by rw [irem_eq_mod]; exact q)) kk
theorem o_goto (X : St w Z a0 EL y bytes maxL ret p l e R s m args below meth c T h sf k n) {pc pc' : Nat} {L : Array Slot} {S : List Value} {o : Int} (hd : decode bytes pc = .ok (.goto o, 3)) (hp : 0 ≤ (pc : Int) + o ∧ ((pc : Int) + o).toNat = pc') (kk : Go w Z EL C N Q p e s below T (mkF m pc' L S)) : Go w Z EL C N Q p e s below T (mkF m pc L S) :=
  ps X (fun H hx hby _ q => XS.goto H hx rfl (pc0 := pc) rfl (hb hby hd) hp.1 hp.2 q) kk
theorem o_if_icmpeq (X : St w Z a0 EL y bytes maxL ret p l e R s m args below meth c T h sf k n) {pc pt pf : Nat} {L : Array Slot} {S : List Value} {x z : Int32} {o : Int} (hd : decode bytes pc = .ok (.if_icmp .eq o, 3)) (hp : 0 ≤ (pc : Int) + o ∧ ((pc : Int) + o).toNat = pt) (hf : pc + 3 = pf) (kt : x = z → Go w Z EL C N Q p e s below T (mkF m pt L S)) (kf : ¬ x = z → Go w Z EL C N Q p e s below T (mkF m pf L S)) : Go w Z EL C N Q p e s below T (mkF m pc L (.int z :: .int x :: S)) := by
  subst hf
  by_cases hc : x = z
  · exact ps X (fun H hx hby _ q => XS.icmpYes H hx rfl (pc0 := pc) rfl (hb hby hd) rfl (XT.ii_eq_t hc) hp.1 hp.2 q) (kt hc)
  · exact ps X (fun H hx hby _ q => XS.icmpNo H hx rfl (hb hby hd) rfl (XT.ii_eq_f hc) q) (kf hc)
theorem o_ifeq (X : St w Z a0 EL y bytes maxL ret p l e R s m args below meth c T h sf k n) {pc pt pf : Nat} {L : Array Slot} {S : List Value} {x : Int32} {o : Int} (hd : decode bytes pc = .ok (.ifCond .eq o, 3)) (hp : 0 ≤ (pc : Int) + o ∧ ((pc : Int) + o).toNat = pt) (hf : pc + 3 = pf) (kt : x = 0 → Go w Z EL C N Q p e s below T (mkF m pt L S)) (kf : ¬ x = 0 → Go w Z EL C N Q p e s below T (mkF m pf L S)) : Go w Z EL C N Q p e s below T (mkF m pc L (.int x :: S)) := by
  subst hf
  by_cases hc : x = 0
  · exact ps X (fun H hx hby _ q => XS.ifYes H hx rfl (pc0 := pc) rfl (hb hby hd) rfl (XT.i0_eq_t hc) hp.1 hp.2 q) (kt hc)
  · exact ps X (fun H hx hby _ q => XS.ifNo H hx rfl (hb hby hd) rfl (XT.i0_eq_f hc) q) (kf hc)
theorem o_if_icmpne (X : St w Z a0 EL y bytes maxL ret p l e R s m args below meth c T h sf k n) {pc pt pf : Nat} {L : Array Slot} {S : List Value} {x z : Int32} {o : Int} (hd : decode bytes pc = .ok (.if_icmp .ne o, 3)) (hp : 0 ≤ (pc : Int) + o ∧ ((pc : Int) + o).toNat = pt) (hf : pc + 3 = pf) (kt : ¬ x = z → Go w Z EL C N Q p e s below T (mkF m pt L S)) (kf : x = z → Go w Z EL C N Q p e s below T (mkF m pf L S)) : Go w Z EL C N Q p e s below T (mkF m pc L (.int z :: .int x :: S)) := by
  subst hf
  by_cases hc : x = z
  · exact ps X (fun H hx hby _ q => XS.icmpNo H hx rfl (hb hby hd) rfl (XT.ii_ne_f hc) q) (kf hc)
  · exact ps X (fun H hx hby _ q => XS.icmpYes H hx rfl (pc0 := pc) rfl (hb hby hd) rfl (XT.ii_ne_t hc) hp.1 hp.2 q) (kt hc)
theorem o_ifne (X : St w Z a0 EL y bytes maxL ret p l e R s m args below meth c T h sf k n) {pc pt pf : Nat} {L : Array Slot} {S : List Value} {x : Int32} {o : Int} (hd : decode bytes pc = .ok (.ifCond .ne o, 3)) (hp : 0 ≤ (pc : Int) + o ∧ ((pc : Int) + o).toNat = pt) (hf : pc + 3 = pf) (kt : ¬ x = 0 → Go w Z EL C N Q p e s below T (mkF m pt L S)) (kf : x = 0 → Go w Z EL C N Q p e s below T (mkF m pf L S)) : Go w Z EL C N Q p e s below T (mkF m pc L (.int x :: S)) := by
  subst hf
  by_cases hc : x = 0
  · exact ps X (fun H hx hby _ q => XS.ifNo H hx rfl (hb hby hd) rfl (XT.i0_ne_f hc) q) (kf hc)
  · exact ps X (fun H hx hby _ q => XS.ifYes H hx rfl (pc0 := pc) rfl (hb hby hd) rfl (XT.i0_ne_t hc) hp.1 hp.2 q) (kt hc)
theorem o_if_icmplt (X : St w Z a0 EL y bytes maxL ret p l e R s m args below meth c T h sf k n) {pc pt pf : Nat} {L : Array Slot} {S : List Value} {x z : Int32} {o : Int} (hd : decode bytes pc = .ok (.if_icmp .lt o, 3)) (hp : 0 ≤ (pc : Int) + o ∧ ((pc : Int) + o).toNat = pt) (hf : pc + 3 = pf) (kt : x < z → Go w Z EL C N Q p e s below T (mkF m pt L S)) (kf : ¬ x < z → Go w Z EL C N Q p e s below T (mkF m pf L S)) : Go w Z EL C N Q p e s below T (mkF m pc L (.int z :: .int x :: S)) := by
  subst hf
  by_cases hc : x < z
  · exact ps X (fun H hx hby _ q => XS.icmpYes H hx rfl (pc0 := pc) rfl (hb hby hd) rfl (XT.ii_lt_t hc) hp.1 hp.2 q) (kt hc)
  · exact ps X (fun H hx hby _ q => XS.icmpNo H hx rfl (hb hby hd) rfl (XT.ii_lt_f hc) q) (kf hc)
theorem o_iflt (X : St w Z a0 EL y bytes maxL ret p l e R s m args below meth c T h sf k n) {pc pt pf : Nat} {L : Array Slot} {S : List Value} {x : Int32} {o : Int} (hd : decode bytes pc = .ok (.ifCond .lt o, 3)) (hp : 0 ≤ (pc : Int) + o ∧ ((pc : Int) + o).toNat = pt) (hf : pc + 3 = pf) (kt : x < 0 → Go w Z EL C N Q p e s below T (mkF m pt L S)) (kf : ¬ x < 0 → Go w Z EL C N Q p e s below T (mkF m pf L S)) : Go w Z EL C N Q p e s below T (mkF m pc L (.int x :: S)) := by
  subst hf
  by_cases hc : x < 0
  · exact ps X (fun H hx hby _ q => XS.ifYes H hx rfl (pc0 := pc) rfl (hb hby hd) rfl (XT.i0_lt_t hc) hp.1 hp.2 q) (kt hc)
  · exact ps X (fun H hx hby _ q => XS.ifNo H hx rfl (hb hby hd) rfl (XT.i0_lt_f hc) q) (kf hc)
theorem o_if_icmpge (X : St w Z a0 EL y bytes maxL ret p l e R s m args below meth c T h sf k n) {pc pt pf : Nat} {L : Array Slot} {S : List Value} {x z : Int32} {o : Int} (hd : decode bytes pc = .ok (.if_icmp .ge o, 3)) (hp : 0 ≤ (pc : Int) + o ∧ ((pc : Int) + o).toNat = pt) (hf : pc + 3 = pf) (kt : ¬ x < z → Go w Z EL C N Q p e s below T (mkF m pt L S)) (kf : x < z → Go w Z EL C N Q p e s below T (mkF m pf L S)) : Go w Z EL C N Q p e s below T (mkF m pc L (.int z :: .int x :: S)) := by
  subst hf
  by_cases hc : x < z
  · exact ps X (fun H hx hby _ q => XS.icmpNo H hx rfl (hb hby hd) rfl (XT.ii_ge_f hc) q) (kf hc)
  · exact ps X (fun H hx hby _ q => XS.icmpYes H hx rfl (pc0 := pc) rfl (hb hby hd) rfl (XT.ii_ge_t hc) hp.1 hp.2 q) (kt hc)
theorem o_ifge (X : St w Z a0 EL y bytes maxL ret p l e R s m args below meth c T h sf k n) {pc pt pf : Nat} {L : Array Slot} {S : List Value} {x : Int32} {o : Int} (hd : decode bytes pc = .ok (.ifCond .ge o, 3)) (hp : 0 ≤ (pc : Int) + o ∧ ((pc : Int) + o).toNat = pt) (hf : pc + 3 = pf) (kt : ¬ x < 0 → Go w Z EL C N Q p e s below T (mkF m pt L S)) (kf : x < 0 → Go w Z EL C N Q p e s below T (mkF m pf L S)) : Go w Z EL C N Q p e s below T (mkF m pc L (.int x :: S)) := by
  subst hf
  by_cases hc : x < 0
  · exact ps X (fun H hx hby _ q => XS.ifNo H hx rfl (hb hby hd) rfl (XT.i0_ge_f hc) q) (kf hc)
  · exact ps X (fun H hx hby _ q => XS.ifYes H hx rfl (pc0 := pc) rfl (hb hby hd) rfl (XT.i0_ge_t hc) hp.1 hp.2 q) (kt hc)
theorem o_if_icmpgt (X : St w Z a0 EL y bytes maxL ret p l e R s m args below meth c T h sf k n) {pc pt pf : Nat} {L : Array Slot} {S : List Value} {x z : Int32} {o : Int} (hd : decode bytes pc = .ok (.if_icmp .gt o, 3)) (hp : 0 ≤ (pc : Int) + o ∧ ((pc : Int) + o).toNat = pt) (hf : pc + 3 = pf) (kt : z < x → Go w Z EL C N Q p e s below T (mkF m pt L S)) (kf : ¬ z < x → Go w Z EL C N Q p e s below T (mkF m pf L S)) : Go w Z EL C N Q p e s below T (mkF m pc L (.int z :: .int x :: S)) := by
  subst hf
  by_cases hc : z < x
  · exact ps X (fun H hx hby _ q => XS.icmpYes H hx rfl (pc0 := pc) rfl (hb hby hd) rfl (XT.ii_gt_t hc) hp.1 hp.2 q) (kt hc)
  · exact ps X (fun H hx hby _ q => XS.icmpNo H hx rfl (hb hby hd) rfl (XT.ii_gt_f hc) q) (kf hc)
theorem o_ifgt (X : St w Z a0 EL y bytes maxL ret p l e R s m args below meth c T h sf k n) {pc pt pf : Nat} {L : Array Slot} {S : List Value} {x : Int32} {o : Int} (hd : decode bytes pc = .ok (.ifCond .gt o, 3)) (hp : 0 ≤ (pc : Int) + o ∧ ((pc : Int) + o).toNat = pt) (hf : pc + 3 = pf) (kt : 0 < x → Go w Z EL C N Q p e s below T (mkF m pt L S)) (kf : ¬ 0 < x → Go w Z EL C N Q p e s below T (mkF m pf L S)) : Go w Z EL C N Q p e s below T (mkF m pc L (.int x :: S)) := by
  subst hf
  by_cases hc : 0 < x
  · exact ps X (fun H hx hby _ q => XS.ifYes H hx rfl (pc0 := pc) rfl (hb hby hd) rfl (XT.i0_gt_t hc) hp.1 hp.2 q) (kt hc)
  · exact ps X (fun H hx hby _ q => XS.ifNo H hx rfl (hb hby hd) rfl (XT.i0_gt_f hc) q) (kf hc)
theorem o_if_icmple (X : St w Z a0 EL y bytes maxL ret p l e R s m args below meth c T h sf k n) {pc pt pf : Nat} {L : Array Slot} {S : List Value} {x z : Int32} {o : Int} (hd : decode bytes pc = .ok (.if_icmp .le o, 3)) (hp : 0 ≤ (pc : Int) + o ∧ ((pc : Int) + o).toNat = pt) (hf : pc + 3 = pf) (kt : ¬ z < x → Go w Z EL C N Q p e s below T (mkF m pt L S)) (kf : z < x → Go w Z EL C N Q p e s below T (mkF m pf L S)) : Go w Z EL C N Q p e s below T (mkF m pc L (.int z :: .int x :: S)) := by
  subst hf
  by_cases hc : z < x
  · exact ps X (fun H hx hby _ q => XS.icmpNo H hx rfl (hb hby hd) rfl (XT.ii_le_f hc) q) (kf hc)
  · exact ps X (fun H hx hby _ q => XS.icmpYes H hx rfl (pc0 := pc) rfl (hb hby hd) rfl (XT.ii_le_t hc) hp.1 hp.2 q) (kt hc)
theorem o_ifle (X : St w Z a0 EL y bytes maxL ret p l e R s m args below meth c T h sf k n) {pc pt pf : Nat} {L : Array Slot} {S : List Value} {x : Int32} {o : Int} (hd : decode bytes pc = .ok (.ifCond .le o, 3)) (hp : 0 ≤ (pc : Int) + o ∧ ((pc : Int) + o).toNat = pt) (hf : pc + 3 = pf) (kt : ¬ 0 < x → Go w Z EL C N Q p e s below T (mkF m pt L S)) (kf : 0 < x → Go w Z EL C N Q p e s below T (mkF m pf L S)) : Go w Z EL C N Q p e s below T (mkF m pc L (.int x :: S)) := by
  subst hf
  by_cases hc : 0 < x
  · exact ps X (fun H hx hby _ q => XS.ifNo H hx rfl (hb hby hd) rfl (XT.i0_le_f hc) q) (kf hc)
  · exact ps X (fun H hx hby _ q => XS.ifYes H hx rfl (pc0 := pc) rfl (hb hby hd) rfl (XT.i0_le_t hc) hp.1 hp.2 q) (kt hc)
theorem o_ifnull_y (X : St w Z a0 EL y bytes maxL ret p l e R s m args below meth c T h sf k n) {pc pt : Nat} {L : Array Slot} {S : List Value} {o : Int} (hd : decode bytes pc = .ok (.ifnull o, 3)) (hp : 0 ≤ (pc : Int) + o ∧ ((pc : Int) + o).toNat = pt) (kk : Go w Z EL C N Q p e s below T (mkF m pt L S)) : Go w Z EL C N Q p e s below T (mkF m pc L (.null :: S)) :=
  ps X (fun H hx hby _ q => XS.ifnullYes H hx rfl (pc0 := pc) rfl (hb hby hd) rfl hp.1 hp.2 q) kk
theorem o_ifnull_n (X : St w Z a0 EL y bytes maxL ret p l e R s m args below meth c T h sf k n) {pc pf : Nat} {L : Array Slot} {S : List Value} {o : Int} {b : Addr} (hd : decode bytes pc = .ok (.ifnull o, 3)) (hf : pc + 3 = pf) (kk : Go w Z EL C N Q p e s below T (mkF m pf L S)) : Go w Z EL C N Q p e s below T (mkF m pc L (.ref b :: S)) := by
  subst hf
  exact ps X (fun H hx hby _ q => XS.ifnullNo H hx rfl (hb hby hd) rfl q) kk
theorem o_ifnonnull_y (X : St w Z a0 EL y bytes maxL ret p l e R s m args below meth c T h sf k n) {pc pt : Nat} {L : Array Slot} {S : List Value} {o : Int} {b : Addr} (hd : decode bytes pc = .ok (.ifnonnull o, 3)) (hp : 0 ≤ (pc : Int) + o ∧ ((pc : Int) + o).toNat = pt) (kk : Go w Z EL C N Q p e s below T (mkF m pt L S)) : Go w Z EL C N Q p e s below T (mkF m pc L (.ref b :: S)) :=
  ps X (fun H hx hby _ q => XS.ifnonnullYes H hx rfl (pc0 := pc) rfl (hb hby hd) rfl hp.1 hp.2 q) kk
theorem o_ifnonnull_n (X : St w Z a0 EL y bytes maxL ret p l e R s m args below meth c T h sf k n) {pc pf : Nat} {L : Array Slot} {S : List Value} {o : Int} (hd : decode bytes pc = .ok (.ifnonnull o, 3)) (hf : pc + 3 = pf) (kk : Go w Z EL C N Q p e s below T (mkF m pf L S)) : Go w Z EL C N Q p e s below T (mkF m pc L (.null :: S)) := by
  subst hf
  exact ps X (fun H hx hby _ q => XS.ifnonnullNo H hx rfl (hb hby hd) rfl q) kk
theorem o_if_acmpeq (X : St w Z a0 EL y bytes maxL ret p l e R s m args below meth c T h sf k n) {pc pt pf : Nat} {L : Array Slot} {S : List Value} {u v : Value} {o : Int} (hd : decode bytes pc = .ok (.if_acmp .eq o, 3)) (hu : u.isRef = true) (hv : v.isRef = true) (hp : 0 ≤ (pc : Int) + o ∧ ((pc : Int) + o).toNat = pt) (hf : pc + 3 = pf) (kt : u = v → Go w Z EL C N Q p e s below T (mkF m pt L S)) (kf : ¬ u = v → Go w Z EL C N Q p e s below T (mkF m pf L S)) : Go w Z EL C N Q p e s below T (mkF m pc L (v :: u :: S)) := by
  subst hf
  by_cases hc : u = v
  · exact ps X (fun H hx hby _ q => XT.acmpYes H hx rfl (pc0 := pc) rfl (hb hby hd) rfl hu hv (XT.aa_eq_t hc) hp.1 hp.2 q) (kt hc)
  · exact ps X (fun H hx hby _ q => XT.acmpNo H hx rfl (hb hby hd) rfl hu hv (XT.aa_eq_f hc) q) (kf hc)
theorem o_if_acmpne (X : St w Z a0 EL y bytes maxL ret p l e R s m args below meth c T h sf k n) {pc pt pf : Nat} {L : Array Slot} {S : List Value} {u v : Value} {o : Int} (hd : decode bytes pc = .ok (.if_acmp .ne o, 3)) (hu : u.isRef = true) (hv : v.isRef = true) (hp : 0 ≤ (pc : Int) + o ∧ ((pc : Int) + o).toNat = pt) (hf : pc + 3 = pf) (kt : ¬ u = v → Go w Z EL C N Q p e s below T (mkF m pt L S)) (kf : u = v → Go w Z EL C N Q p e s below T (mkF m pf L S)) : Go w Z EL C N Q p e s below T (mkF m pc L (v :: u :: S)) := by
  subst hf
  by_cases hc : u = v
  · exact ps X (fun H hx hby _ q => XT.acmpNo H hx rfl (hb hby hd) rfl hu hv (XT.aa_ne_f hc) q) (kf hc)
  · exact ps X (fun H hx hby _ q => XT.acmpYes H hx rfl (pc0 := pc) rfl (hb hby hd) rfl hu hv (XT.aa_ne_t hc) hp.1 hp.2 q) (kt hc)
theorem St.ext (X : St w Z a0 EL y bytes maxL ret p l e R s m args below meth c T h sf k n) : Ext Z.heap h := by
  obtain ⟨-, vm0, k0, locs, X0, eT, hS, hk, hZ, hown, N, E, -⟩ := X; exact E
theorem St.drop (X : St w Z a0 EL y bytes maxL ret p l e R s m args below meth c T h sf k n) {sf' : List Addr} (q : ∀ x ∈ sf', x ∈ sf) : St w Z a0 EL y bytes maxL ret p l e R s m args below meth c T h sf' k n := by
  obtain ⟨c0, vm0, k0, locs, X0, eT, hS, hk, hZ, hown, N, E, hw, hC, hsf⟩ := X
  exact ⟨c0, vm0, k0, locs, X0, eT, hS, hk, hZ, hown, N, E, hw, hC, fun x hx => hsf x (q x hx)⟩
theorem o_getfield (X : St w Z a0 EL y bytes maxL ret p l e R s m args below meth c T h sf k n) {pc pc' : Nat} {L : Array Slot} {S : List Value} {idx : Nat} {R0 O nm d : String} {a : Addr} {v : Value} (hd : decode bytes pc = .ok (.getfield idx, 3)) (hp : pc + 3 = pc') (w1 : (Cond.fieldLink y.cls idx R0 nm d).before a0 Z = true) (via : Via Z R0 O nm d) (F : Fld Z h a O nm d v)
    (kk : ∀ T', St w Z a0 EL y bytes maxL ret p l e R s m args below meth c T' h sf k n → Go w Z EL C N Q p e s below T' (mkF m pc' L (v :: S))) : Go w Z EL C N Q p e s below T (mkF m pc L (.ref a :: S)) := by
  subst hp
  obtain ⟨⟨hx, hby, c1⟩, vm0, k0, locs, X0, eT, hS, hk, hZ, hown, N, E, hw, hC, hsf⟩ := X
  obtain ⟨T', X', e', st⟩ := getF (s := s.setVm vm0) X0 hx hZ hown (host := "") (Or.inl w1) via eT F (g := mkF m pc L (.ref a :: S)) rfl rfl (hb hby hd)
  obtain ⟨s₂, o, hs, r⟩ := kk T' ⟨⟨hx, hby, c1⟩, vm0, k0, locs, X', e', hS, hk, hZ, hown, N, E, hw, hC, hsf⟩
  exact ⟨s₂, o, st _ hs, r⟩
theorem o_getfieldNest (X : St w Z a0 EL y bytes maxL ret p l e R s m args below meth c T h sf k n) {pc pc' : Nat} {L : Array Slot} {S : List Value} {idx : Nat} {R0 O nm d host : String} {a : Addr} {v : Value} (hd : decode bytes pc = .ok (.getfield idx, 3)) (hp : pc + 3 = pc') (w1 : (Cond.fieldLinkNest y.cls idx R0 nm d host).before a0 Z = true) (via : Via Z R0 O nm d) (F : Fld Z h a O nm d v)
    (kk : ∀ T', St w Z a0 EL y bytes maxL ret p l e R s m args below meth c T' h sf k n → Go w Z EL C N Q p e s below T' (mkF m pc' L (v :: S))) : Go w Z EL C N Q p e s below T (mkF m pc L (.ref a :: S)) := by
  subst hp
  obtain ⟨⟨hx, hby, c1⟩, vm0, k0, locs, X0, eT, hS, hk, hZ, hown, N, E, hw, hC, hsf⟩ := X
  obtain ⟨T', X', e', st⟩ := getF (s := s.setVm vm0) X0 hx hZ hown (Or.inr w1) via eT F (g := mkF m pc L (.ref a :: S)) rfl rfl (hb hby hd)
  obtain ⟨s₂, o, hs, r⟩ := kk T' ⟨⟨hx, hby, c1⟩, vm0, k0, locs, X', e', hS, hk, hZ, hown, N, E, hw, hC, hsf⟩
  exact ⟨s₂, o, st _ hs, r⟩
theorem o_getstatic (X : St w Z a0 EL y bytes maxL ret p l e R s m args below meth c T h sf k n) {pc pc' : Nat} {L : Array Slot} {S : List Value} {idx : Nat} {R0 O nm d : String} {v : Value} (hd : decode bytes pc = .ok (.getstatic idx, 3)) (hp : pc + 3 = pc') (w1 : (Cond.fieldLink y.cls idx R0 nm d).before a0 Z = true) (via : Via Z R0 O nm d) (F : Sta Z Z.heap O nm d v)
    (kk : ∀ T', St w Z a0 EL y bytes maxL ret p l e R s m args below meth c T' h sf k n → Go w Z EL C N Q p e s below T' (mkF m pc' L (v :: S))) : Go w Z EL C N Q p e s below T (mkF m pc L S) := by
  subst hp
  obtain ⟨⟨hx, hby, c1⟩, vm0, k0, locs, X0, eT, hS, hk, hZ, hown, N, E, hw, hC, hsf⟩ := X
  obtain ⟨T', X', e', st⟩ := getS (s := s.setVm vm0) X0 hx hZ hown (host := "") w1 via eT (F.ext E) (g := mkF m pc L S) rfl (hb hby hd)
  obtain ⟨s₂, o, hs, r⟩ := kk T' ⟨⟨hx, hby, c1⟩, vm0, k0, locs, X', e', hS, hk, hZ, hown, N, E, hw, hC, hsf⟩
  exact ⟨s₂, o, st _ hs, r⟩
/-- behind a write of one slot -/
theorem St.wrote {vm0 : Vm} {k0 : Nat} {locs : List Loc} {T' : State} {h' : Heap} {a : Addr} {sl : Nat} {v : Value} (c1 : p.tables.exec = Jvm.exec ∧ c.code = bytes ∧ c.maxLocals = maxL ∧ meth.sig.returnType = ret ∧ meth.locks = false ∧ meth.name = y.name ∧ EW Z a0 EL)
    (X' : Stand p l e R (s.setVm vm0) m args below meth c T' (locs ++ [⟨a, sl⟩]) k n) (e' : T'.heap = h') (hS : s.Since vm0 k0) (hk : k0 ≤ h.size) (hZ : Z.Warmed39 vm0) (hown : vm0.findClass y.cls = some m.cls) (N : Fr Z.heap.size locs) (E : Ext Z.heap h) (hw : w = false → vm0 = s.vm ∧ EL = []) (hC : CHr Z EL s.vm s.heap vm0 h) (hsf : ∀ x ∈ sf, x < h.size ∧ Safe Z EL vm0 h x)
    (W : Wr h h' a sl v) (ha : Z.heap.size ≤ a) (ok : Ok Z EL h sf a) : St w Z a0 EL y bytes maxL ret p l e R s m args below meth c T' h' sf k n := by
  have S := ok.safe hZ.alike hsf
  refine ⟨c1, vm0, k0, _, X', e', hS, by rw [W.size]; exact hk, hZ, hown, Fr.snoc X' N ha, (Old.wr (Z := Z) (n0 := Z.heap.size) ⟨rfl, E⟩ W ha).2, hw, hC.trans (CHr.wr W S hC.1), fun x hx => ⟨by rw [W.size]; exact (hsf x hx).1, Safe.wr W S hC.1 (hsf x hx).2⟩⟩
theorem o_putfield (X : St w Z a0 EL y bytes maxL ret p l e R s m args below meth c T h sf k n) {pc pc' : Nat} {L : Array Slot} {S : List Value} {idx kk0 : Nat} {R0 O nm d K : String} {ty : FieldType} {a : Addr} {v old : Value} (hd : decode bytes pc = .ok (.putfield idx, 3)) (hp : pc + 3 = pc') (w1 : (Cond.fieldLink y.cls idx R0 nm d).before a0 Z = true) (via : Via Z R0 O nm d) (F : Fld Z h a O nm d old) (E0 : Exa Z h a K)
    (L0 : (Cond.lays K O nm d).before a0 Z = true ∨ ((Cond.laysFinal K O nm d).before a0 Z = true ∧ y.cls = O ∧ y.name = "<init>")) (wi : (Cond.instantiable K kk0).before a0 Z = true) (hty : parseFieldDescriptor d = some ty) (hn : narrow ty v = v) (hf : fits ty v = true) (ha : Z.heap.size ≤ a) (ok : Ok Z EL h sf a)
    (kk : ∀ T' h', Wr h h' a (Jvm.RoadKit.slotOf Z O nm d) v → St w Z a0 EL y bytes maxL ret p l e R s m args below meth c T' h' sf k n → Go w Z EL C N Q p e s below T' (mkF m pc' L S)) : Go w Z EL C N Q p e s below T (mkF m pc L (v :: .ref a :: S)) := by
  subst hp
  obtain ⟨c1, vm0, k0, locs, X0, eT, hS, hk, hZ, hown, N, E, hw, hC, hsf⟩ := X
  obtain ⟨T', h', X', e', W, st⟩ := putF (s := s.setVm vm0) X0 c1.1 hZ hown (host := "") (Or.inl w1) via eT F E0 (L0.imp id fun q => ⟨q.1, q.2.1, c1.2.2.2.2.2.1.trans q.2.2⟩) wi hty hn hf (g := mkF m pc L (v :: .ref a :: S)) rfl rfl (hb c1.2.1 hd)
  obtain ⟨s₂, o, hs, r⟩ := kk T' h' W (St.wrote c1 X' e' hS hk hZ hown N E hw hC hsf W ha ok)
  exact ⟨s₂, o, st _ hs, r⟩
theorem o_putfieldN (X : St w Z a0 EL y bytes maxL ret p l e R s m args below meth c T h sf k n) {pc pc' : Nat} {L : Array Slot} {S : List Value} {idx kk0 : Nat} {R0 O nm d K : String} {ty : FieldType} {a : Addr} {v v' old : Value} (hd : decode bytes pc = .ok (.putfield idx, 3)) (hp : pc + 3 = pc') (w1 : (Cond.fieldLink y.cls idx R0 nm d).before a0 Z = true) (via : Via Z R0 O nm d) (F : Fld Z h a O nm d old) (E0 : Exa Z h a K)
    (L0 : (Cond.lays K O nm d).before a0 Z = true ∨ ((Cond.laysFinal K O nm d).before a0 Z = true ∧ y.cls = O ∧ y.name = "<init>")) (wi : (Cond.instantiable K kk0).before a0 Z = true) (hty : parseFieldDescriptor d = some ty) (hn : narrow ty v = v') (hf : fits ty v' = true) (ha : Z.heap.size ≤ a) (ok : Ok Z EL h sf a)
    (kk : ∀ T' h', Wr h h' a (Jvm.RoadKit.slotOf Z O nm d) v' → St w Z a0 EL y bytes maxL ret p l e R s m args below meth c T' h' sf k n → Go w Z EL C N Q p e s below T' (mkF m pc' L S)) : Go w Z EL C N Q p e s below T (mkF m pc L (v :: .ref a :: S)) := by
  subst hp
  obtain ⟨c1, vm0, k0, locs, X0, eT, hS, hk, hZ, hown, N, E, hw, hC, hsf⟩ := X
  obtain ⟨T', h', X', e', W, st⟩ := putFN (s := s.setVm vm0) X0 c1.1 hZ hown w1 via eT F E0 (L0.imp id fun q => ⟨q.1, q.2.1, c1.2.2.2.2.2.1.trans q.2.2⟩) wi hty hn hf (g := mkF m pc L (v :: .ref a :: S)) rfl rfl (hb c1.2.1 hd)
  obtain ⟨s₂, o, hs, r⟩ := kk T' h' W (St.wrote c1 X' e' hS hk hZ hown N E hw hC hsf W ha ok)
  exact ⟨s₂, o, st _ hs, r⟩
/-- behind an instruction that made one cell -/
theorem St.made {vm0 : Vm} {k0 : Nat} {locs : List Loc} {T' : State} {h' : Heap} {k1 n1 : Nat} (c1 : p.tables.exec = Jvm.exec ∧ c.code = bytes ∧ c.maxLocals = maxL ∧ meth.sig.returnType = ret ∧ meth.locks = false ∧ meth.name = y.name ∧ EW Z a0 EL)
    (X' : Stand p l e R (s.setVm vm0) m args below meth c T' locs k1 n1) (e' : T'.heap = h') (hS : s.Since vm0 k0) (hk : k0 ≤ h.size) (hZ : Z.Warmed39 vm0) (hown : vm0.findClass y.cls = some m.cls) (N : Fr Z.heap.size locs) (E : Ext Z.heap h) (hw : w = false → vm0 = s.vm ∧ EL = []) (hC : CHr Z EL s.vm s.heap vm0 h) (hsf : ∀ x ∈ sf, x < h.size ∧ Safe Z EL vm0 h x)
    (E2 : Ext h h') (hlt : h.size < h'.size) : St w Z a0 EL y bytes maxL ret p l e R s m args below meth c T' h' (h.size :: sf) k1 n1 := by
  refine ⟨c1, vm0, k0, locs, X', e', hS, Nat.le_trans hk E2.1, hZ, hown, N, ⟨Nat.le_trans E.1 E2.1, fun a q r => E2.2 _ _ (E.2 _ _ r)⟩, hw, hC.trans (CHr.ext E2 hC.1), fun x hx => ?_⟩
  rcases List.mem_cons.mp hx with rfl | hx
  · exact ⟨hlt, Safe.ext E2 hC.1 (Safe.new (Nat.le_refl _))⟩
  · exact ⟨Nat.lt_of_lt_of_le (hsf x hx).1 E2.1, Safe.ext E2 hC.1 (hsf x hx).2⟩
theorem o_new (X : St w Z a0 EL y bytes maxL ret p l e R s m args below meth c T h sf k n) {pc pc' : Nat} {L : Array Slot} {S : List Value} {idx nn : Nat} {K : String} (hd : decode bytes pc = .ok (.new idx, 3)) (hp : pc + 3 = pc') (w1 : (Cond.classLink y.cls idx K).before a0 Z = true) (wi : (Cond.instantiable K nn).before a0 Z = true) (wz : (Cond.initialized K).before a0 Z = true) (hc : k + 1 ≤ R.cells) (hl : n + nn ≤ R.slots)
    (kk : ∀ T' h' a, a = h.size → Z.heap.size ≤ a → Ext h h' → Exa Z h' a K → (∀ {O nm d : String} {ty : FieldType}, Laid Z a0 K O nm d → parseFieldDescriptor d = some ty → Fld Z h' a O nm d (defaultValue ty)) → St w Z a0 EL y bytes maxL ret p l e R s m args below meth c T' h' (a :: sf) (k + 1) (n + nn) → Go w Z EL C N Q p e s below T' (mkF m pc' L (.ref a :: S))) : Go w Z EL C N Q p e s below T (mkF m pc L S) := by
  subst hp
  obtain ⟨c1, vm0, k0, locs, X0, eT, hS, hk, hZ, hown, N, E, hw, hC, hsf⟩ := X
  obtain ⟨T', h', X', e', E2, A2, D2, -, st⟩ := newO (s := s.setVm vm0) X0 c1.1 hZ hown w1 wi wz eT (g := mkF m pc L S) rfl (hb c1.2.1 hd) hc hl
  obtain ⟨s₂, o, hs, r⟩ := kk T' h' h.size rfl E.1 E2 A2 D2 (St.made c1 X' e' hS hk hZ hown N E hw hC hsf E2 A2.lt)
  exact ⟨s₂, o, st _ hs, r⟩
theorem o_newarray (X : St w Z a0 EL y bytes maxL ret p l e R s m args below meth c T h sf k n) {pc pc' : Nat} {L : Array Slot} {S : List Value} {aty : ArrayType} {z : Int32} (hd : decode bytes pc = .ok (.newarray aty, 2)) (hp : pc + 2 = pc') (w1 : (Cond.arrayClass (newarray.typeOf aty)).before a0 Z = true) (hz : ¬ z < 0) {cap : Nat} (hcap : z.toNatClampNeg ≤ cap) (hb8 : cap * 8 ≤ 536870912) (hc : k + 1 ≤ R.cells) (hl : n + cap ≤ R.slots)
    (kk : ∀ T' h' a kA, a = h.size → Z.heap.size ≤ a → Ext h h' → Arv Z h' a kA (newarray.typeOf aty) z [] (defaultValue (newarray.typeOf aty)) → St w Z a0 EL y bytes maxL ret p l e R s m args below meth c T' h' (a :: sf) (k + 1) (n + cap) → Go w Z EL C N Q p e s below T' (mkF m pc' L (.ref a :: S))) : Go w Z EL C N Q p e s below T (mkF m pc L (.int z :: S)) := by
  subst hp
  obtain ⟨c1, vm0, k0, locs, X0, eT, hS, hk, hZ, hown, N, E, hw, hC, hsf⟩ := X
  obtain ⟨T', h', kA, X', e', E2, A2, st⟩ := newP (s := s.setVm vm0) X0 c1.1 hZ w1 eT (g := mkF m pc L (.int z :: S)) rfl (hb c1.2.1 hd) rfl hz hcap hb8 hc hl
  obtain ⟨s₂, o, hs, r⟩ := kk T' h' h.size kA rfl E.1 E2 (Arv.new A2 hz) (St.made c1 X' e' hS hk hZ hown N E hw hC hsf E2 A2.lt)
  exact ⟨s₂, o, st _ hs, r⟩
theorem o_newarrayE (X : St w Z a0 EL y bytes maxL ret p l e R s m args below meth c T h sf k n) {pc pc' : Nat} {L : Array Slot} {S : List Value} {aty : ArrayType} {z : Int32} (hd : decode bytes pc = .ok (.newarray aty, 2)) (hp : pc + 2 = pc') (w1 : (Cond.arrayClass (newarray.typeOf aty)).before a0 Z = true) (hz : ¬ z < 0) {cap : Nat} (hcap : z.toNatClampNeg ≤ cap) (hb8 : cap * 8 ≤ 536870912) (hc : k + 1 ≤ R.cells) (hl : n + cap ≤ R.slots) {ad : String} (had : "[" ++ (newarray.typeOf aty).toString = ad)
    (kk : ∀ T' h' a kA, a = h.size → Z.heap.size ≤ a → Ext h h' → Arv Z h' a kA (newarray.typeOf aty) z [] (defaultValue (newarray.typeOf aty)) → Exa Z h' a ad → St w Z a0 EL y bytes maxL ret p l e R s m args below meth c T' h' (a :: sf) (k + 1) (n + cap) → Go w Z EL C N Q p e s below T' (mkF m pc' L (.ref a :: S))) : Go w Z EL C N Q p e s below T (mkF m pc L (.int z :: S)) := by
  subst hp
  obtain ⟨c1, vm0, k0, locs, X0, eT, hS, hk, hZ, hown, N, E, hw, hC, hsf⟩ := X
  obtain ⟨T', h', kA, X', e', E2, A2, D2, st⟩ := newPE (s := s.setVm vm0) X0 c1.1 hZ w1 eT (g := mkF m pc L (.int z :: S)) rfl (hb c1.2.1 hd) rfl hz hcap hb8 hc hl had
  obtain ⟨s₂, o, hs, r⟩ := kk T' h' h.size kA rfl E.1 E2 (Arv.new A2 hz) D2 (St.made c1 X' e' hS hk hZ hown N E hw hC hsf E2 A2.lt)
  exact ⟨s₂, o, st _ hs, r⟩
theorem o_lookHit (X : St w Z a0 EL y bytes maxL ret p l e R s m args below meth c T h sf k n) {pc pc' len : Nat} {L : Array Slot} {S : List Value} {i : Int32} {dflt : Int} {pairs : Array (Int × Int)} (hd : decode bytes pc = .ok (.lookupswitch dflt pairs, len)) (hso : (pairs.toList.zip (pairs.toList.drop 1)).all (fun (a, next) => a.1 < next.1) = true) {u off : Int} (hf : pairs.find? (·.1 == i.toInt) = some (u, off)) (hp : 0 ≤ (pc : Int) + off ∧ ((pc : Int) + off).toNat = pc') (kk : Go w Z EL C N Q p e s below T (mkF m pc' L S)) : Go w Z EL C N Q p e s below T (mkF m pc L (.int i :: S)) := by
  obtain ⟨hp0, rfl⟩ := hp
  obtain ⟨c1, vm0, k0, locs, X0, -⟩ := X
  obtain ⟨s₂, o, hs, r⟩ := kk
  exact ⟨s₂, o, X0.lookupswitchHit c1.1 (g := mkF m pc L (.int i :: S)) rfl rfl (hb c1.2.1 hd) hso hf hp0 _ hs, r⟩
theorem o_lookMiss (X : St w Z a0 EL y bytes maxL ret p l e R s m args below meth c T h sf k n) {pc pc' len : Nat} {L : Array Slot} {S : List Value} {i : Int32} {dflt : Int} {pairs : Array (Int × Int)} (hd : decode bytes pc = .ok (.lookupswitch dflt pairs, len)) (hso : (pairs.toList.zip (pairs.toList.drop 1)).all (fun (a, next) => a.1 < next.1) = true) (hf : pairs.find? (·.1 == i.toInt) = none) (hp : 0 ≤ (pc : Int) + dflt ∧ ((pc : Int) + dflt).toNat = pc') (kk : Go w Z EL C N Q p e s below T (mkF m pc' L S)) : Go w Z EL C N Q p e s below T (mkF m pc L (.int i :: S)) := by
  obtain ⟨hp0, rfl⟩ := hp
  obtain ⟨c1, vm0, k0, locs, X0, -⟩ := X
  obtain ⟨s₂, o, hs, r⟩ := kk
  exact ⟨s₂, o, X0.lookupswitchMiss c1.1 (g := mkF m pc L (.int i :: S)) rfl rfl (hb c1.2.1 hd) hso hf hp0 _ hs, r⟩
theorem o_tswIn (X : St w Z a0 EL y bytes maxL ret p l e R s m args below meth c T h sf k n) {pc pc' len : Nat} {L : Array Slot} {S : List Value} {i : Int32} {dflt low high : Int} {offs : Array Int} (hd : decode bytes pc = .ok (.tableswitch dflt low high offs, len)) (hin : ¬ (i.toInt < low ∨ i.toInt > high)) {off : Int} (hf : offs[(i.toInt - low).toNat]? = some off) (hp : 0 ≤ (pc : Int) + off ∧ ((pc : Int) + off).toNat = pc') (kk : Go w Z EL C N Q p e s below T (mkF m pc' L S)) : Go w Z EL C N Q p e s below T (mkF m pc L (.int i :: S)) := by
  obtain ⟨hp0, rfl⟩ := hp
  obtain ⟨c1, vm0, k0, locs, X0, -⟩ := X
  obtain ⟨s₂, o, hs, r⟩ := kk
  exact ⟨s₂, o, X0.tableswitchIn c1.1 (g := mkF m pc L (.int i :: S)) rfl rfl (hb c1.2.1 hd) hin hf hp0 _ hs, r⟩
theorem o_tswOut (X : St w Z a0 EL y bytes maxL ret p l e R s m args below meth c T h sf k n) {pc pc' len : Nat} {L : Array Slot} {S : List Value} {i : Int32} {dflt low high : Int} {offs : Array Int} (hd : decode bytes pc = .ok (.tableswitch dflt low high offs, len)) (hout : i.toInt < low ∨ i.toInt > high) (hp : 0 ≤ (pc : Int) + dflt ∧ ((pc : Int) + dflt).toNat = pc') (kk : Go w Z EL C N Q p e s below T (mkF m pc' L S)) : Go w Z EL C N Q p e s below T (mkF m pc L (.int i :: S)) := by
  obtain ⟨hp0, rfl⟩ := hp
  obtain ⟨c1, vm0, k0, locs, X0, -⟩ := X
  obtain ⟨s₂, o, hs, r⟩ := kk
  exact ⟨s₂, o, X0.tableswitchOut c1.1 (g := mkF m pc L (.int i :: S)) rfl rfl (hb c1.2.1 hd) hout hp0 _ hs, r⟩
theorem o_anewarray (X : St w Z a0 EL y bytes maxL ret p l e R s m args below meth c T h sf k n) {pc pc' : Nat} {L : Array Slot} {S : List Value} {idx : Nat} {K : String} {z : Int32} (hd : decode bytes pc = .ok (.anewarray idx, 3)) (hp : pc + 3 = pc') (w1 : (Cond.classLink y.cls idx K).before a0 Z = true) (w2 : (Cond.arrayOver (.object K)).before a0 Z = true) (hz : ¬ z < 0) {cap : Nat} (hcap : z.toNatClampNeg ≤ cap) (hb8 : cap * 8 ≤ 536870912) (hc : k + 1 ≤ R.cells) (hl : n + cap ≤ R.slots)
    (kk : ∀ T' h' a kA, a = h.size → Z.heap.size ≤ a → Ext h h' → Arv Z h' a kA (.object K) z [] .null → Ovr Z kA K → St w Z a0 EL y bytes maxL ret p l e R s m args below meth c T' h' (a :: sf) (k + 1) (n + cap) → Go w Z EL C N Q p e s below T' (mkF m pc' L (.ref a :: S))) : Go w Z EL C N Q p e s below T (mkF m pc L (.int z :: S)) := by
  subst hp
  obtain ⟨c1, vm0, k0, locs, X0, eT, hS, hk, hZ, hown, N, E, hw, hC, hsf⟩ := X
  obtain ⟨T', h', kA, X', e', E2, A2, O2, st⟩ := newR (s := s.setVm vm0) X0 c1.1 hZ hown w1 w2 eT (g := mkF m pc L (.int z :: S)) rfl (hb c1.2.1 hd) rfl hz hcap hb8 hc hl
  obtain ⟨s₂, o, hs, r⟩ := kk T' h' h.size kA rfl E.1 E2 (Arv.new A2 hz) O2 (St.made c1 X' e' hS hk hZ hown N E hw hC hsf E2 A2.lt)
  exact ⟨s₂, o, st _ hs, r⟩
theorem o_castore (X : St w Z a0 EL y bytes maxL ret p l e R s m args below meth c T h sf k n) {pc pc' : Nat} {L : Array Slot} {S : List Value} {a : Addr} {kA : ClassId} {z j x : Int32} {vs : List Value} {d : Value} (hd : decode bytes pc = .ok (.castore, 1)) (hp : pc + 1 = pc') (A : Arv Z h a kA .char z vs d) (i : Nat) (hj : j.toNatClampNeg = i) (hjz : ¬ j < 0 ∧ j < z) (hi : i < vs.length) (ha : Z.heap.size ≤ a) (ok : Ok Z EL h sf a)
    (kk : ∀ T' h', Wr h h' a i (.int (nar .char x)) → Arv Z h' a kA .char z (vs.set i (.int (nar .char x))) d → St w Z a0 EL y bytes maxL ret p l e R s m args below meth c T' h' sf k n → Go w Z EL C N Q p e s below T' (mkF m pc' L S)) : Go w Z EL C N Q p e s below T (mkF m pc L (.int x :: .int j :: .ref a :: S)) := by
  subst hp
  obtain ⟨c1, vm0, k0, locs, X0, eT, hS, hk, hZ, hown, N, E, hw, hC, hsf⟩ := X
  obtain ⟨cl, Ar, q1, q2, q3, q4, q5⟩ := A
  have hin := inb_of (j := j) q2 hjz
  obtain ⟨T', h', X', e', W, st⟩ := stC (s := s.setVm vm0) X0 c1.1 hZ eT Ar hin (g := mkF m pc L (.int x :: .int j :: .ref a :: S)) rfl rfl (hb c1.2.1 hd)
  have V := Arv.set Ar q1 q2 q3 q4 q5 (fits_nar_char x) W i hj hi
  obtain ⟨s₂, o, hs, r⟩ := kk T' h' (hj ▸ W) V (St.wrote c1 X' e' hS hk hZ hown N E hw hC hsf W ha ok)
  exact ⟨s₂, o, st _ hs, r⟩
theorem o_bastore (X : St w Z a0 EL y bytes maxL ret p l e R s m args below meth c T h sf k n) {pc pc' : Nat} {L : Array Slot} {S : List Value} {a : Addr} {kA : ClassId} {z j x : Int32} {vs : List Value} {d : Value} (hd : decode bytes pc = .ok (.bastore, 1)) (hp : pc + 1 = pc') (A : Arv Z h a kA .byte z vs d) (i : Nat) (hj : j.toNatClampNeg = i) (hjz : ¬ j < 0 ∧ j < z) (hi : i < vs.length) (ha : Z.heap.size ≤ a) (ok : Ok Z EL h sf a)
    (kk : ∀ T' h', Wr h h' a i (.int (nar .byte x)) → Arv Z h' a kA .byte z (vs.set i (.int (nar .byte x))) d → St w Z a0 EL y bytes maxL ret p l e R s m args below meth c T' h' sf k n → Go w Z EL C N Q p e s below T' (mkF m pc' L S)) : Go w Z EL C N Q p e s below T (mkF m pc L (.int x :: .int j :: .ref a :: S)) := by
  subst hp
  obtain ⟨c1, vm0, k0, locs, X0, eT, hS, hk, hZ, hown, N, E, hw, hC, hsf⟩ := X
  obtain ⟨cl, Ar, q1, q2, q3, q4, q5⟩ := A
  have hin := inb_of (j := j) q2 hjz
  obtain ⟨T', h', X', e', W, st⟩ := stB (s := s.setVm vm0) X0 c1.1 hZ eT Ar hin (g := mkF m pc L (.int x :: .int j :: .ref a :: S)) rfl rfl (hb c1.2.1 hd)
  have V := Arv.set Ar q1 q2 q3 q4 q5 (fits_nar_byte x) W i hj hi
  obtain ⟨s₂, o, hs, r⟩ := kk T' h' (hj ▸ W) V (St.wrote c1 X' e' hS hk hZ hown N E hw hC hsf W ha ok)
  exact ⟨s₂, o, st _ hs, r⟩
theorem o_aastore (X : St w Z a0 EL y bytes maxL ret p l e R s m args below meth c T h sf k n) {pc pc' : Nat} {L : Array Slot} {S : List Value} {a b : Addr} {kA : ClassId} {K : String} {z j : Int32} {vs : List Value} {d : Value} (hd : decode bytes pc = .ok (.aastore, 1)) (hp : pc + 1 = pc') (A : Arv Z h a kA (.object K) z vs d) (O : Ovr Z kA K) (I : Ins Z h b K true) (i : Nat) (hj : j.toNatClampNeg = i) (hjz : ¬ j < 0 ∧ j < z) (hi : i < vs.length) (ha : Z.heap.size ≤ a) (ok : Ok Z EL h sf a)
    (kk : ∀ T' h', Wr h h' a i (.ref b) → Arv Z h' a kA (.object K) z (vs.set i (.ref b)) d → St w Z a0 EL y bytes maxL ret p l e R s m args below meth c T' h' sf k n → Go w Z EL C N Q p e s below T' (mkF m pc' L S)) : Go w Z EL C N Q p e s below T (mkF m pc L (.ref b :: .int j :: .ref a :: S)) := by
  subst hp
  obtain ⟨c1, vm0, k0, locs, X0, eT, hS, hk, hZ, hown, N, E, hw, hC, hsf⟩ := X
  obtain ⟨cl, Ar, q1, q2, q3, q4, q5⟩ := A
  have hin := inb_of (j := j) q2 hjz
  obtain ⟨T', h', X', e', W, st⟩ := stR (s := s.setVm vm0) X0 c1.1 hZ eT Ar hin rfl (Sto.ofV Ar q1 O I) (g := mkF m pc L (.ref b :: .int j :: .ref a :: S)) rfl rfl (hb c1.2.1 hd)
  have V := Arv.set Ar q1 q2 q3 q4 q5 rfl W i hj hi
  obtain ⟨s₂, o, hs, r⟩ := kk T' h' (hj ▸ W) V (St.wrote c1 X' e' hS hk hZ hown N E hw hC hsf W ha ok)
  exact ⟨s₂, o, st _ hs, r⟩
theorem o_caload (X : St w Z a0 EL y bytes maxL ret p l e R s m args below meth c T h sf k n) {pc pc' : Nat} {L : Array Slot} {S : List Value} {a : Addr} {kA : ClassId} {z j : Int32} {vs : List Value} {d v : Value} (hd : decode bytes pc = .ok (.caload, 1)) (hp : pc + 1 = pc') (A : Arv Z h a kA .char z vs d) (hjz : ¬ j < 0 ∧ j < z) (hv : vs.getD j.toNatClampNeg d = v)
    (kk : Go w Z EL C N Q p e s below T (mkF m pc' L (v :: S))) : Go w Z EL C N Q p e s below T (mkF m pc L (.int j :: .ref a :: S)) := by
  subst hp
  obtain ⟨c1, vm0, k0, locs, X0, eT, hS, hk, hZ, hown, N, E, hw, hC, hsf⟩ := X
  obtain ⟨cl, Ar, q1, q2, q3, q4, q5⟩ := A
  have hin := inb_of (j := j) q2 hjz
  obtain ⟨s₂, o, hs, r⟩ := kk
  exact ⟨s₂, o, X0.caload c1.1 (j := j) (v := v) (by rw [eT]; exact Ar.1) (State.isArrayOf_alike hZ.alike Ar.2.1) Ar.2.2 hin (q4.at hin hv) (g := mkF m pc L (.int j :: .ref a :: S)) rfl rfl (hb c1.2.1 hd) _ hs, r⟩
theorem o_baload (X : St w Z a0 EL y bytes maxL ret p l e R s m args below meth c T h sf k n) {pc pc' : Nat} {L : Array Slot} {S : List Value} {a : Addr} {kA : ClassId} {z j : Int32} {vs : List Value} {d v : Value} (hd : decode bytes pc = .ok (.baload, 1)) (hp : pc + 1 = pc') (A : Arv Z h a kA .byte z vs d) (hjz : ¬ j < 0 ∧ j < z) (hv : vs.getD j.toNatClampNeg d = v)
    (kk : Go w Z EL C N Q p e s below T (mkF m pc' L (v :: S))) : Go w Z EL C N Q p e s below T (mkF m pc L (.int j :: .ref a :: S)) := by
  subst hp
  obtain ⟨c1, vm0, k0, locs, X0, eT, hS, hk, hZ, hown, N, E, hw, hC, hsf⟩ := X
  obtain ⟨cl, Ar, q1, q2, q3, q4, q5⟩ := A
  have hin := inb_of (j := j) q2 hjz
  obtain ⟨s₂, o, hs, r⟩ := kk
  exact ⟨s₂, o, X0.baloadBytes c1.1 (j := j) (v := v) (by rw [eT]; exact Ar.1) (State.isArrayOf_alike hZ.alike Ar.2.1) Ar.2.2 hin (q4.at hin hv) (g := mkF m pc L (.int j :: .ref a :: S)) rfl rfl (hb c1.2.1 hd) _ hs, r⟩
theorem o_aaload (X : St w Z a0 EL y bytes maxL ret p l e R s m args below meth c T h sf k n) {pc pc' : Nat} {L : Array Slot} {S : List Value} {a : Addr} {kA : ClassId} {K : String} {z j : Int32} {vs : List Value} {d v : Value} (hd : decode bytes pc = .ok (.aaload, 1)) (hp : pc + 1 = pc') (A : Arv Z h a kA (.object K) z vs d) (hjz : ¬ j < 0 ∧ j < z) (hv : vs.getD j.toNatClampNeg d = v)
    (kk : Go w Z EL C N Q p e s below T (mkF m pc' L (v :: S))) : Go w Z EL C N Q p e s below T (mkF m pc L (.int j :: .ref a :: S)) := by
  subst hp
  obtain ⟨c1, vm0, k0, locs, X0, eT, hS, hk, hZ, hown, N, E, hw, hC, hsf⟩ := X
  obtain ⟨cl, Ar, q1, q2, q3, q4, q5⟩ := A
  have hin := inb_of (j := j) q2 hjz
  obtain ⟨s₂, o, hs, r⟩ := kk
  exact ⟨s₂, o, X0.aaload c1.1 (j := j) (v := v) (by rw [eT]; exact Ar.1) (State.isArrayOf_alike hZ.alike Ar.2.1) rfl Ar.2.2 hin (q4.at hin hv) (g := mkF m pc L (.int j :: .ref a :: S)) rfl rfl (hb c1.2.1 hd) _ hs, r⟩
theorem o_arraylength (X : St w Z a0 EL y bytes maxL ret p l e R s m args below meth c T h sf k n) {pc pc' : Nat} {L : Array Slot} {S : List Value} {a : Addr} {kA : ClassId} {ty : FieldType} {z : Int32} {vs : List Value} {d : Value} (hd : decode bytes pc = .ok (.arraylength, 1)) (hp : pc + 1 = pc') (A : Arv Z h a kA ty z vs d)
    (kk : Go w Z EL C N Q p e s below T (mkF m pc' L (.int z :: S))) : Go w Z EL C N Q p e s below T (mkF m pc L (.ref a :: S)) := by
  subst hp
  obtain ⟨c1, vm0, k0, locs, X0, eT, hS, hk, hZ, hown, N, E, hw, hC, hsf⟩ := X
  obtain ⟨cl, Ar, q1, q2, q3, q4, q5⟩ := A
  obtain ⟨s₂, o, hs, r⟩ := kk
  refine ⟨s₂, o, X0.arraylength c1.1 (by rw [eT]; exact Ar.1) (State.isArrayOf_alike hZ.alike Ar.2.1) (g := mkF m pc L (.ref a :: S)) rfl rfl (hb c1.2.1 hd) _ ?_, r⟩
  rw [len_of q2 q3]; exact hs
theorem o_checkcast (X : St w Z a0 EL y bytes maxL ret p l e R s m args below meth c T h sf k n) {pc pc' : Nat} {L : Array Slot} {S : List Value} {idx : Nat} {K : String} {a : Addr} (hd : decode bytes pc = .ok (.checkcast idx, 3)) (hp : pc + 3 = pc') (w1 : (Cond.classLink y.cls idx K).before a0 Z = true) (F : Ins Z h a K true)
    (kk : ∀ T', St w Z a0 EL y bytes maxL ret p l e R s m args below meth c T' h sf k n → Go w Z EL C N Q p e s below T' (mkF m pc' L (.ref a :: S))) : Go w Z EL C N Q p e s below T (mkF m pc L (.ref a :: S)) := by
  subst hp
  obtain ⟨⟨hx, hby, c1⟩, vm0, k0, locs, X0, eT, hS, hk, hZ, hown, N, E, hw, hC, hsf⟩ := X
  obtain ⟨T', X', e', st⟩ := castY (s := s.setVm vm0) X0 hx hZ hown w1 eT F (g := mkF m pc L (.ref a :: S)) rfl rfl (hb hby hd)
  obtain ⟨s₂, o, hs, r⟩ := kk T' ⟨⟨hx, hby, c1⟩, vm0, k0, locs, X', e', hS, hk, hZ, hown, N, E, hw, hC, hsf⟩
  exact ⟨s₂, o, st _ hs, r⟩
theorem o_instanceof_y (X : St w Z a0 EL y bytes maxL ret p l e R s m args below meth c T h sf k n) {pc pc' : Nat} {L : Array Slot} {S : List Value} {idx : Nat} {K : String} {a : Addr} (hd : decode bytes pc = .ok (.instanceof idx, 3)) (hp : pc + 3 = pc') (w1 : (Cond.classLink y.cls idx K).before a0 Z = true) (F : Ins Z h a K true)
    (kk : ∀ T', St w Z a0 EL y bytes maxL ret p l e R s m args below meth c T' h sf k n → Go w Z EL C N Q p e s below T' (mkF m pc' L (.int 1 :: S))) : Go w Z EL C N Q p e s below T (mkF m pc L (.ref a :: S)) := by
  subst hp
  obtain ⟨⟨hx, hby, c1⟩, vm0, k0, locs, X0, eT, hS, hk, hZ, hown, N, E, hw, hC, hsf⟩ := X
  obtain ⟨T', X', e', st⟩ := instY (s := s.setVm vm0) X0 hx hZ hown w1 eT F (g := mkF m pc L (.ref a :: S)) rfl rfl (hb hby hd)
  obtain ⟨s₂, o, hs, r⟩ := kk T' ⟨⟨hx, hby, c1⟩, vm0, k0, locs, X', e', hS, hk, hZ, hown, N, E, hw, hC, hsf⟩
  exact ⟨s₂, o, st _ hs, r⟩
theorem o_instanceof_n (X : St w Z a0 EL y bytes maxL ret p l e R s m args below meth c T h sf k n) {pc pc' : Nat} {L : Array Slot} {S : List Value} {idx : Nat} {K D : String} {a : Addr} (hd : decode bytes pc = .ok (.instanceof idx, 3)) (hp : pc + 3 = pc') (w1 : (Cond.classLink y.cls idx K).before a0 Z = true) (E0 : Exa Z h a D) (F : ∃ c t, Z.vm.findClass D = some c ∧ Z.vm.findClass K = some t ∧ Z.vm.assignable c t = false)
    (kk : ∀ T', St w Z a0 EL y bytes maxL ret p l e R s m args below meth c T' h sf k n → Go w Z EL C N Q p e s below T' (mkF m pc' L (.int 0 :: S))) : Go w Z EL C N Q p e s below T (mkF m pc L (.ref a :: S)) := by
  subst hp
  obtain ⟨⟨hx, hby, c1⟩, vm0, k0, locs, X0, eT, hS, hk, hZ, hown, N, E, hw, hC, hsf⟩ := X
  obtain ⟨T', X', e', st⟩ := instNo (s := s.setVm vm0) X0 hx hZ hown w1 eT E0 F (g := mkF m pc L (.ref a :: S)) rfl rfl (hb hby hd)
  obtain ⟨s₂, o, hs, r⟩ := kk T' ⟨⟨hx, hby, c1⟩, vm0, k0, locs, X', e', hS, hk, hZ, hown, N, E, hw, hC, hsf⟩
  exact ⟨s₂, o, st _ hs, r⟩
theorem o_instanceof_null (X : St w Z a0 EL y bytes maxL ret p l e R s m args below meth c T h sf k n) {pc pc' : Nat} {L : Array Slot} {S : List Value} {idx : Nat} (hd : decode bytes pc = .ok (.instanceof idx, 3)) (hp : pc + 3 = pc')
    (kk : Go w Z EL C N Q p e s below T (mkF m pc' L (.int 0 :: S))) : Go w Z EL C N Q p e s below T (mkF m pc L (.null :: S)) := by
  subst hp
  obtain ⟨⟨hx, hby, c1⟩, vm0, k0, locs, X0, -⟩ := X
  obtain ⟨s₂, o, hs, r⟩ := kk
  exact ⟨s₂, o, X0.instanceofNull hx (g := mkF m pc L (.null :: S)) rfl rfl (hb hby hd) _ hs, r⟩
theorem o_checkcast_null (X : St w Z a0 EL y bytes maxL ret p l e R s m args below meth c T h sf k n) {pc pc' : Nat} {L : Array Slot} {S : List Value} {idx : Nat} (hd : decode bytes pc = .ok (.checkcast idx, 3)) (hp : pc + 3 = pc')
    (kk : Go w Z EL C N Q p e s below T (mkF m pc' L (.null :: S))) : Go w Z EL C N Q p e s below T (mkF m pc L (.null :: S)) := by
  subst hp
  obtain ⟨⟨hx, hby, c1⟩, vm0, k0, locs, X0, -⟩ := X
  obtain ⟨s₂, o, hs, r⟩ := kk
  exact ⟨s₂, o, X0.checkcastNull hx (g := mkF m pc L (.null :: S)) rfl rfl (hb hby hd) _ hs, r⟩
theorem o_ldcI (X : St w Z a0 EL y bytes maxL ret p l e R s m args below meth c T h sf k n) {pc pc' : Nat} {L : Array Slot} {S : List Value} {idx : Nat} {v : Int32} (hd : decode bytes pc = .ok (.ldc idx, 2)) (hp : pc + 2 = pc') (w1 : (Cond.constant y.cls idx v).before a0 Z = true)
    (kk : Go w Z EL C N Q p e s below T (mkF m pc' L (.int v :: S))) : Go w Z EL C N Q p e s below T (mkF m pc L S) := by
  subst hp
  obtain ⟨⟨hx, hby, c1⟩, vm0, k0, locs, X0, eT, hS, hk, hZ, hown, -⟩ := X
  obtain ⟨s₂, o, hs, r⟩ := kk
  exact ⟨s₂, o, X0.ldcInt hx hown (mvT (s := s.setVm vm0) hZ w1) (g := mkF m pc L S) rfl (hb hby hd) _ hs, r⟩
/-- a String constant, its text not read -/
theorem o_ldcO (X : St w Z a0 EL y bytes maxL ret p l e R s m args below meth c T h sf k n) (hwt : w = true) {pc pc' : Nat} {L : Array Slot} {S : List Value} {idx nn : Nat} {text : String} (hd : decode bytes pc = .ok (.ldc idx, 2)) (hp : pc + 2 = pc') (w1 : (Cond.stringLink y.cls idx text).before a0 Z = true) (wS : ∀ a ∈ Bundle.stringAtoms, a.before a0 Z = true) (hn : 4 * text.toList.length ≤ nn) (hbig : nn ≤ 536870912) (hc : k + 2 ≤ R.cells) (hl : n + (nn + 4) ≤ R.slots)
    (kk : ∀ T' h' a, Ext h h' → St w Z a0 EL y bytes maxL ret p l e R s m args below meth c T' h' sf (k + 2) (n + (nn + 4)) → Go w Z EL C N Q p e s below T' (mkF m pc' L (.ref a :: S))) : Go w Z EL C N Q p e s below T (mkF m pc L S) := by
  subst hp
  obtain ⟨c1, vm0, k0, locs, X0, eT, hS, hk, hZ, hown, N, E, hw, hC, hsf⟩ := X
  obtain ⟨a, T', h', k1, X', e', E2, hS', hk', hZ', hown', hC', -, st⟩ := ldcOH X0 c1.1 hZ hown w1 wS eT hS hk c1.2.2.2.2.2.2 hC.1 (g := mkF m pc L S) rfl (hb c1.2.1 hd) hn hbig hc hl
  obtain ⟨s₂, o, hs, r⟩ := kk T' h' a E2 ⟨c1, T'.vm, k1, locs, X', e', hS', hk', hZ', hown', N, ⟨Nat.le_trans E.1 E2.1, fun a q r => E2.2 _ _ (E.2 _ _ r)⟩, (fun q => by rw [hwt] at q; cases q), hC.trans hC', fun x hx => ⟨Nat.lt_of_lt_of_le (hsf x hx).1 E2.1, hC'.safe (hsf x hx).1 (hsf x hx).2⟩⟩
  exact ⟨s₂, o, st _ hs, r⟩
/-- a String constant whose text is read -/
theorem o_ldcT (X : St w Z a0 EL y bytes maxL ret p l e R s m args below meth c T h sf k n) (hwt : w = true) {pc pc' : Nat} {L : Array Slot} {S : List Value} {idx nn : Nat} {text : String} (hd : decode bytes pc = .ok (.ldc idx, 2)) (hp : pc + 2 = pc') (w1 : (Cond.stringLink y.cls idx text).before a0 Z = true) (wS : ∀ a ∈ Bundle.stringAtoms, a.before a0 Z = true) (hmem : (y.cls, idx) ∈ EL) {vs : List Value} {z : Int32} (ht : (∀ c ∈ text.toList, c.toNat < 256) ∧ text.toList.map (fun c => Value.int (Jvm.Lit.byteI c.toNat.toUInt16)) = vs) (hz : ¬ z < 0) (hvl : z.toNatClampNeg = vs.length) (hn : 4 * text.toList.length ≤ nn) (hbig : nn ≤ 536870912) (hc : k + 2 ≤ R.cells) (hl : n + (nn + 4) ≤ R.slots)
    (kk : ∀ T' h' a b kA, Ext h h' → Exa Z h' a "java/lang/String" → Fld Z h' a "java/lang/String" "coder" "B" (.int 0) → Fld Z h' a "java/lang/String" "value" "[B" (.ref b) → Arv Z h' b kA .byte z vs (.int 0) → (∀ x ∈ sf, x ≠ a ∧ x ≠ b) → St w Z a0 EL y bytes maxL ret p l e R s m args below meth c T' h' sf (k + 2) (n + (nn + 4)) → Go w Z EL C N Q p e s below T' (mkF m pc' L (.ref a :: S))) : Go w Z EL C N Q p e s below T (mkF m pc L S) := by
  subst hp
  obtain ⟨c1, vm0, k0, locs, X0, eT, hS, hk, hZ, hown, N, E, hw, hC, hsf⟩ := X
  obtain ⟨a, T', h', k1, b, kA, X', e', E2, hS', hk', hZ', hown', hE, hF1, hF2, hA, -, -, hC', -, hne, st⟩ := ldcCH X0 c1.1 hZ hown w1 wS eT hS hk c1.2.2.2.2.2.2 hmem hC.1 ht hz hvl (g := mkF m pc L S) rfl (hb c1.2.1 hd) hn hbig hc hl
  have hsf' : ∀ x ∈ sf, x < h'.size ∧ Safe Z EL T'.vm h' x := fun x hx => ⟨Nat.lt_of_lt_of_le (hsf x hx).1 E2.1, hC'.safe (hsf x hx).1 (hsf x hx).2⟩
  obtain ⟨s₂, o, hs, r⟩ := kk T' h' a b kA E2 hE hF1 hF2 hA (fun x hx => hne x (hsf' x hx).2) ⟨c1, T'.vm, k1, locs, X', e', hS', hk', hZ', hown', N, ⟨Nat.le_trans E.1 E2.1, fun a q r => E2.2 _ _ (E.2 _ _ r)⟩, (fun q => by rw [hwt] at q; cases q), hC.trans hC', hsf'⟩
  exact ⟨s₂, o, st _ hs, r⟩
theorem o_initO (X : St w Z a0 EL y bytes maxL ret p l e R s m args below meth c T h sf k n) {pc pc' : Nat} {L : Array Slot} {S : List Value} {idx : Nat} {a : Addr} (hd : decode bytes pc = .ok (.invokespecial idx, 3)) (hp : pc + 3 = pc') (w1 : (Cond.methodLink y.cls idx Lib.objectInit).before a0 Z = true) (w2 : (Cond.instanceMethod Lib.objectInit).before a0 Z = true) (w3 : (Cond.code Lib.objectInit ⟨#[0xb1]⟩ 1 none).before a0 Z = true) (hsz : L.size = maxL) (hf : 1 ≤ R.frames) (hl : (S.map fun v => v.category).sum + 12 ≤ R.locals)
    (kk : ∀ T', St w Z a0 EL y bytes maxL ret p l e R s m args below meth c T' h sf k n → Go w Z EL C N Q p e s below T' (mkF m pc' L S)) : Go w Z EL C N Q p e s below T (mkF m pc L (.ref a :: S)) := by
  subst hp
  obtain ⟨c1, vm0, k0, locs, X0, eT, hS, hk, hZ, hown, N, E, hw, hC, hsf⟩ := X
  obtain ⟨T', X', e', st⟩ := initO (s := s.setVm vm0) X0 c1.1 hZ hown w1 w2 w3 eT (g := mkF m pc L (.ref a :: S)) rfl (hsz.trans c1.2.2.1.symm) rfl (hb c1.2.1 hd) hf (W := (S.map fun v => v.category).sum) (by show 2 * 0 + _ ≤ _; omega) hl
  obtain ⟨s₂, o, hs, r⟩ := kk T' ⟨c1, vm0, k0, locs, X', e', hS, hk, hZ, hown, N, E, hw, hC, hsf⟩
  exact ⟨s₂, o, st _ hs, r⟩
theorem EndAt.mono {o : Outcome} {t : State} {L : List Loc} {k1 n1 : Nat} (q : EndAt w s o t L k n) (hk : k ≤ k1) (hn : n ≤ n1) : EndAt w s o t L k1 n1 := by
  cases w
  · exact (show FrameEnd s o t L k1 n1 from ⟨(show FrameEnd s o t L k n from q).1, (show FrameEnd s o t L k n from q).2.1, (show FrameEnd s o t L k n from q).2.2.mono hk hn⟩)
  · obtain ⟨a, b, d, f⟩ := (show ReturnedEndW s o t L k n from q)
    exact (show ReturnedEndW s o t L k1 n1 from ⟨a, b, d, f.mono hk hn⟩)
/-- the way out, whatever is returned -/
theorem leaveG (X : St w Z a0 EL y bytes maxL ret p l e R s m args below meth c T h sf k n) {v : Option Value} {g : JFrame} (hv : ret = none → v = none) (hC : k ≤ C) (hN : n ≤ N) (q : ∀ P : Addr → Prop, (∀ x ∈ sf, P x) → Q v h P)
    (f : ∀ (vm0 : Vm) (locs : List Loc) (fs : List Frame), Stand p l e R (s.setVm vm0) m args below meth c T locs k n → p.tables.exec = Jvm.exec → meth.sig.returnType = ret → c.code = bytes → (∀ (f : JFrame) (acts : List Action), f.method = m → f.locked = none → f.entered = [] → (doReturn e (T.setTop f) acts v).1 = T.setFrames fs) → Steps p.tables e below (T.setTop g) (T.setFrames fs)) : Go w Z EL C N Q p e s below T g := by
  obtain ⟨⟨hx, hby, hml, hret, hlk, hnm, hEW⟩, vm0, k0, locs, X0, eT, hS, hk, hZ, hown, NN, E, hw, hCH, hsf⟩ := X
  have A := CHv.at X0 hZ hEW hCH.1
  have hq : Q v T.heap (Safe Z EL T.vm T.heap) := by
    rw [eT]; exact q _ fun x hx => A.safe (hsf x hx).1 (hsf x hx).2
  have hCe : CHr Z EL s.vm s.heap T.vm T.heap := by rw [eT]; exact hCH.trans A
  have hE : Ext Z.heap T.heap := by rw [eT]; exact E
  cases w with
  | true =>
    obtain ⟨fs, hr, hrun, hended, hW⟩ := X0.leaveW hS (by rw [eT]; exact hk) (v := v) (fun z => hv (hret.symm.trans z)) hlk
    exact ⟨_, _, f vm0 locs fs X0 hx hret hby hr, hrun, hended, v, locs, rfl, ⟨NN, hE, hCe, hq⟩, EndAt.mono (w := true) hW hC hN⟩
  | false =>
    have e0 := (hw rfl).1
    subst e0
    obtain ⟨fs, hr, hrun, hended, hW, hsame⟩ := Stand.leave (s := s) X0 (v := v) (fun z => hv (hret.symm.trans z)) hlk
    exact ⟨_, _, f s.vm locs fs X0 hx hret hby hr, hrun, hended, v, locs, rfl, ⟨NN, hE, hCe, hq⟩, EndAt.mono (w := false) (show FrameEnd s _ _ _ _ _ from ⟨⟨v, rfl⟩, hW, hsame⟩) hC hN⟩
theorem o_return (X : St w Z a0 EL y bytes maxL none p l e R s m args below meth c T h sf k n) {pc : Nat} {L : Array Slot} (hd : decode bytes pc = .ok (.return_, 1)) (hC : k ≤ C) (hN : n ≤ N) (q : ∀ P : Addr → Prop, (∀ x ∈ sf, P x) → Q none h P) : Go w Z EL C N Q p e s below T (mkF m pc L []) :=
  leaveG X (v := none) (fun _ => rfl) hC hN q fun vm0 locs fs X0 hx hret hby hr => X0.returnOut hx hret (hb hby hd) hr
theorem o_areturn (X : St w Z a0 EL y bytes maxL ret p l e R s m args below meth c T h sf k n) {pc : Nat} {L : Array Slot} {v : Value} {S : List Value} {t : FieldType} (hd : decode bytes pc = .ok (.areturn, 1)) (ht : ret = some t) (htr : t.isReference = true) (hv : v.isRef = true) (hC : k ≤ C) (hN : n ≤ N) (q : ∀ P : Addr → Prop, (∀ x ∈ sf, P x) → Q (some v) h P) : Go w Z EL C N Q p e s below T (mkF m pc L (v :: S)) :=
  leaveG X (v := some v) (fun z => by rw [ht] at z; cases z) hC hN q fun vm0 locs fs X0 hx hret hby hr => retOut X0 hx (hret.trans ht) (by cases t <;> cases v <;> first | rfl | (simp [FieldType.isReference] at htr; done) | (simp [Value.isRef] at hv; done)) (Or.inr (Or.inr (Or.inr (Or.inr ⟨rfl, htr, hv⟩)))) (hb hby hd) hr
theorem o_ireturn (X : St w Z a0 EL y bytes maxL ret p l e R s m args below meth c T h sf k n) {pc : Nat} {L : Array Slot} {x v : Int32} {S : List Value} {t : FieldType} (hd : decode bytes pc = .ok (.ireturn, 1)) (ht : ret = some t) (htr : t = .boolean ∨ t = .byte ∨ t = .char ∨ t = .short) (hv : nar t x = v) (hC : k ≤ C) (hN : n ≤ N) (q : ∀ P : Addr → Prop, (∀ x ∈ sf, P x) → Q (some (.int v)) h P) : Go w Z EL C N Q p e s below T (mkF m pc L (.int x :: S)) := by
  subst hv
  exact leaveG X (v := some (.int (nar t x))) (fun z => by rw [ht] at z; cases z) hC hN q fun vm0 locs fs X0 hx hret hby hr => retN X0 hx (hret.trans ht) htr (hb hby hd) hr
theorem o_ireturnI (X : St w Z a0 EL y bytes maxL ret p l e R s m args below meth c T h sf k n) {pc : Nat} {L : Array Slot} {x : Int32} {S : List Value} (hd : decode bytes pc = .ok (.ireturn, 1)) (ht : ret = some .int) (hC : k ≤ C) (hN : n ≤ N) (q : ∀ P : Addr → Prop, (∀ x ∈ sf, P x) → Q (some (.int x)) h P) : Go w Z EL C N Q p e s below T (mkF m pc L (.int x :: S)) :=
  leaveG X (v := some (.int x)) (fun z => by rw [ht] at z; cases z) hC hN q fun vm0 locs fs X0 hx hret hby hr => retOut X0 hx (hret.trans ht) rfl (Or.inl ⟨rfl, Or.inl rfl, x, rfl⟩) (hb hby hd) hr
theorem o_lreturn (X : St w Z a0 EL y bytes maxL ret p l e R s m args below meth c T h sf k n) {pc : Nat} {L : Array Slot} {x : Int64} {S : List Value} (hd : decode bytes pc = .ok (.lreturn, 1)) (ht : ret = some .long) (hC : k ≤ C) (hN : n ≤ N) (q : ∀ P : Addr → Prop, (∀ x ∈ sf, P x) → Q (some (.long x)) h P) : Go w Z EL C N Q p e s below T (mkF m pc L (.long x :: S)) :=
  leaveG X (v := some (.long x)) (fun z => by rw [ht] at z; cases z) hC hN q fun vm0 locs fs X0 hx hret hby hr => retOut X0 hx (hret.trans ht) rfl (Or.inr (Or.inl ⟨rfl, rfl, x, rfl⟩)) (hb hby hd) hr
/-- what a callee's contract says of the point behind the call -/
def PostC (Z : State) (EL : List (String × Nat)) (rm : Room) (Q' : Option Value → Heap → (Addr → Prop) → Prop) (vmB : Vm) (h : Heap) (A : Pt) (v : Option Value) (B : Pt) : Prop :=
  ∃ L, (Fr Z.heap.size L ∧ Ext Z.heap B.U.heap ∧ Q' v B.U.heap (Safe Z EL B.U.vm B.U.heap)) ∧ B.locs = A.locs ++ L ∧ B.cells = A.cells + rm.cells ∧ B.slots = A.slots + rm.slots ∧ CHr Z EL vmB h B.U.vm B.U.heap
def PreC (as : Array Value) (rm R : Room) (h : Heap) (A : Pt) (a : Array Value) : Prop := a = as ∧ A.U.heap = h ∧ A.cells + rm.cells ≤ R.cells ∧ A.slots + rm.slots ≤ R.slots
theorem Ct.backW {vm0 : Vm} {len W : Nat} (hC : Ct true Z a0 EL l y bytes maxL ret rm as h sf0 Q) (hext : Ext Z.heap h) (hZ : Z.Warmed39 vm0) (wc : (Cond.code y bytes maxL ret).before a0 Z = true) (wz : (Cond.initialized y.cls).before a0 Z = true) (hf : rm.frames + 1 ≤ R.frames) (hl : W + (maxL + 11) + rm.locals ≤ R.locals) (hEL : EW Z a0 EL) (H : CHv Z EL vm0 h) (hsf : ∀ x ∈ sf0, x < h.size ∧ Safe Z EL vm0 h x) :
    BackS l R p e below (s.setVm vm0) args y len W (PreC as rm R h) (fun A _ v B => PostC Z EL rm Q vm0 h A v B) :=
  BackS.of_freeW (bytes := bytes) (maxL := maxL) (ret := ret) (E := fun _ first o t L k n => k = rm.cells ∧ n = rm.slots ∧ (∃ v, o = .returned v ∧ Fr Z.heap.size L ∧ Ext Z.heap t.heap ∧ Q v t.heap (Safe Z EL t.vm t.heap)) ∧ CHr Z EL first.vm first.heap t.vm t.heap) (hC [] hEL hext) hf hl
    (fun m meth c A a Y hp => have hU : Z.Warmed39 A.U.vm := wtrans (s := s.setVm vm0) hZ Y.warmed
      ⟨by show (Cond.and _ .tt).before a A.U = true; rw [Cond.before_and, mv hU wc]; rfl, mv hU wc, mv hU wz, hp.2.2.1, hp.2.2.2⟩)
    (fun m meth c A a g mk Y hp => ⟨hp.1, wtrans (s := s.setVm vm0) hZ Y.warmed, hp.2.1, (CHv.at Y hZ hEL H).1, fun x hx => ⟨(hsf x hx).1, (CHv.at Y hZ hEL H).safe (hsf x hx).1 (hsf x hx).2⟩⟩) (fun _ _ _ _ _ _ _ _ _ => trivial)
    (fun _ _ _ _ ⟨v, L, h1, ⟨n1, n2, n3, n4⟩, h4⟩ => ⟨L, _, _, h4, rfl, rfl, ⟨v, h1, n1, n2, n4⟩, n3⟩)
    (fun m meth c A a g mk v t L k n Y hp _ _ ⟨e1, e2, ⟨v', e3, e4⟩, e5⟩ => by
      cases e3; subst e1 e2
      refine ⟨L, e4, rfl, rfl, rfl, (CHv.at Y hZ hEL H).trans ?_⟩
      rw [← hp.2.1]; exact e5)
theorem Ct.backP {len W : Nat} (hC : Ct false Z a0 EL l y bytes maxL ret rm as h sf0 Q) (hext : Ext Z.heap h) (hZ : Z.Warmed39 s.vm) (wc : (Cond.code y bytes maxL ret).before a0 Z = true) (wz : (Cond.initialized y.cls).before a0 Z = true) (hf : rm.frames + 1 ≤ R.frames) (hl : W + (maxL + 11) + rm.locals ≤ R.locals) (hEL : EW Z a0 EL) (H : CHv Z EL s.vm h) (hsf : ∀ x ∈ sf0, x < h.size ∧ Safe Z EL s.vm h x) :
    Back l R p e below s args y len W (PreC as rm R h) (fun A _ v B => PostC Z EL rm Q s.vm h A v B) :=
  Back.of_free (bytes := bytes) (maxL := maxL) (ret := ret) (E := fun _ first o t L k n => k = rm.cells ∧ n = rm.slots ∧ (∃ v, o = .returned v ∧ Fr Z.heap.size L ∧ Ext Z.heap t.heap ∧ Q v t.heap (Safe Z EL t.vm t.heap)) ∧ CHr Z EL first.vm first.heap t.vm t.heap) (hC [] hEL hext) hf hl
    (fun m meth c A a Y hp => have hU : Z.Warmed39 A.U.vm := wtrans hZ Y.warmed
      ⟨by show (Cond.and _ .tt).before a A.U = true; rw [Cond.before_and, mv hU wc]; rfl, mv hU wc, mv hU wz, hp.2.2.1, hp.2.2.2⟩)
    (fun m meth c A a g mk Y hp => ⟨hp.1, wtrans hZ Y.warmed, hp.2.1, (CHv.at (vm0 := s.vm) Y hZ hEL H).1, fun x hx => ⟨(hsf x hx).1, (CHv.at (vm0 := s.vm) Y hZ hEL H).safe (hsf x hx).1 (hsf x hx).2⟩⟩) (fun _ _ _ _ _ _ _ _ _ => trivial)
    (fun _ _ _ _ ⟨v, L, h1, ⟨n1, n2, n3, n4⟩, h4⟩ => ⟨L, _, _, h4, rfl, rfl, ⟨v, h1, n1, n2, n4⟩, n3⟩)
    (fun m meth c A a g mk v t L k n Y hp _ _ ⟨e1, e2, ⟨v', e3, e4⟩, e5⟩ => by
      cases e3; subst e1 e2
      refine ⟨L, e4, rfl, rfl, rfl, (CHv.at (vm0 := s.vm) Y hZ hEL H).trans ?_⟩
      rw [← hp.2.1]; exact e5)
/-- what is handed on behind a call -/
def After (w : Bool) (Z : State) (a0 : Array Value) (EL : List (String × Nat)) (y : MethodName) (bytes : ByteArray) (maxL : Nat) (ret : Option FieldType) (p : Program) (l : Launch) (e : Env) (R : Room) (s : State) (m : MethodId) (args : Array Value) (below : List Frame) (meth : Method) (c : Code) (sf : List Addr) (k n : Nat) (Q' : Option Value → Heap → (Addr → Prop) → Prop) (v : Option Value) (T' : State) : Prop :=
  ∃ (h' : Heap) (S : Addr → Prop), Q' v h' S ∧ ∀ xs : List Addr, (∀ x ∈ xs, x < h'.size ∧ S x) → St w Z a0 EL y bytes maxL ret p l e R s m args below meth c T' h' (xs ++ sf) k n
theorem After.wide {vm0 : Vm} {k0 : Nat} {locs : List Loc} {v : Option Value} {Q' : Option Value → Heap → (Addr → Prop) → Prop} {B : Pt} (c1 : p.tables.exec = Jvm.exec ∧ c.code = bytes ∧ c.maxLocals = maxL ∧ meth.sig.returnType = ret ∧ meth.locks = false ∧ meth.name = y.name ∧ EW Z a0 EL)
    (eT : T.heap = h) (hS : s.Since vm0 k0) (hk : k0 ≤ h.size) (hZ : Z.Warmed39 vm0) (hown : vm0.findClass y.cls = some m.cls) (N : Fr Z.heap.size locs) (hC : CHr Z EL s.vm s.heap vm0 h) (hsf : ∀ x ∈ sf, x < h.size ∧ Safe Z EL vm0 h x) {vm1 : Vm}
    (X' : Stand p l e R ((s.setVm vm0).setVm B.U.vm) m args below meth c B.U B.locs B.cells B.slots) (h2 : (s.setVm vm0).Since B.U.vm B.U.heap.size) (gr : T.heap.size ≤ B.U.heap.size) (post : PostC Z EL rm Q' vm0 h ⟨T.setVm vm1, locs, k, n⟩ v B) : After true Z a0 EL y bytes maxL ret p l e R s m args below meth c sf (k + rm.cells) (n + rm.slots) Q' v B.U := by
  obtain ⟨L, ⟨q1, q2, q3⟩, q4, q5, q6, q7⟩ := post
  obtain ⟨Y, hS2, hZ2, hown2⟩ := rebS hS hk X' h2 (eT ▸ gr) hZ hown
  refine ⟨_, _, q3, fun xs hxs => ⟨c1, B.U.vm, B.U.heap.size, B.locs, ?_, rfl, hS2, Nat.le_refl _, hZ2, hown2, ?_, q2, fun q => Bool.noConfusion q, hC.trans q7, fun x hx => ?_⟩⟩
  · rw [q5, q6] at Y; exact Y
  · rw [q4]; exact N.app q1
  · rcases List.mem_append.mp hx with hx | hx
    · exact hxs x hx
    · exact ⟨Nat.lt_of_lt_of_le (hsf x hx).1 q7.2.1, q7.safe (hsf x hx).1 (hsf x hx).2⟩
theorem After.plain {locs : List Loc} {k0 : Nat} {v : Option Value} {Q' : Option Value → Heap → (Addr → Prop) → Prop} {B : Pt} (hE0 : EL = []) (c1 : p.tables.exec = Jvm.exec ∧ c.code = bytes ∧ c.maxLocals = maxL ∧ meth.sig.returnType = ret ∧ meth.locks = false ∧ meth.name = y.name ∧ EW Z a0 EL)
    (hS : s.Since s.vm k0) (hk : k0 ≤ h.size) (hZ : Z.Warmed39 s.vm) (hown : s.vm.findClass y.cls = some m.cls) (N : Fr Z.heap.size locs) (hC : CHr Z EL s.vm s.heap s.vm h) (hsf : ∀ x ∈ sf, x < h.size ∧ Safe Z EL s.vm h x) {vm1 : Vm}
    (X' : Stand p l e R s m args below meth c B.U B.locs B.cells B.slots) (post : PostC Z EL rm Q' s.vm h ⟨T.setVm vm1, locs, k, n⟩ v B) : After false Z a0 EL y bytes maxL ret p l e R s m args below meth c sf (k + rm.cells) (n + rm.slots) Q' v B.U := by
  obtain ⟨L, ⟨q1, q2, q3⟩, q4, q5, q6, q7⟩ := post
  have sz : h.size ≤ B.U.heap.size := q7.2.1
  subst hE0
  refine ⟨_, _, q3, fun xs hxs => ⟨c1, s.vm, k0, B.locs, ?_, rfl, hS, Nat.le_trans hk sz, hZ, hown, ?_, q2, fun q => ⟨rfl, rfl⟩, ⟨fun p hp => (nomatch hp), Nat.le_trans hC.2.1 sz, fun y ⟨p, hp, _⟩ => (nomatch hp)⟩, fun x hx => ⟨?_, fun ⟨p, hp, _⟩ => (nomatch hp)⟩⟩⟩
  · rw [q5, q6] at X'; exact X'
  · rw [q4]; exact N.app q1
  · rcases List.mem_append.mp hx with hx | hx
    · exact (hxs x hx).1
    · exact Nat.lt_of_lt_of_le (hsf x hx).1 sz
theorem o_static (X : St w Z a0 EL y bytes maxL ret p l e R s m args below meth c T h sf k n) {pc pc' : Nat} {L : Array Slot} {rest : List Value} {idx : Nat} {z : MethodName} {bz : ByteArray} {mz : Nat} {rz : Option FieldType} {Q' : Option Value → Heap → (Addr → Prop) → Prop} (hd : decode bytes pc = .ok (.invokestatic idx, 3)) (hp : pc + 3 = pc')
    (w1 : (Cond.methodLink y.cls idx z).before a0 Z = true) (w2 : (Cond.static z).before a0 Z = true) (w3 : (Cond.initialized z.cls).before a0 Z = true) (w4 : (Cond.code z bz mz rz).before a0 Z = true) (hy : z.cls ≠ "java/lang/invoke/MethodHandle" ∧ z.cls ≠ "java/lang/invoke/VarHandle")
    (hC' : Ct w Z a0 EL l z bz mz rz rm as h sf0 Q') (hok : ∀ x ∈ sf0, x < h.size ∧ Ok Z EL h sf x) (argsL : List Value) (hargs : argsL.toArray = as) {S0 : List Value} (hst : S0 = argsL.reverse ++ rest) {ps : List FieldType} {rr : Option FieldType} (hpd : parseMethodDescriptor z.desc = some ⟨ps, rr⟩) (hlen : argsL.length = ps.length) (hsz : L.size = maxL)
    (hf : rm.frames + 1 ≤ R.frames) (hl : (rest.map fun v => v.category).sum + (mz + 11) + rm.locals ≤ R.locals) (hc : k + rm.cells ≤ R.cells) (hs : n + rm.slots ≤ R.slots)
    (kk : ∀ (v : Option Value) (T' : State), After w Z a0 EL y bytes maxL ret p l e R s m args below meth c sf (k + rm.cells) (n + rm.slots) Q' v T' → Go w Z EL C N Q p e s below T' (mkF m pc' L (v.toList ++ rest))) : Go w Z EL C N Q p e s below T (mkF m pc L S0) := by
  subst hp hargs hst
  obtain ⟨c1, vm0, k0, locs, X0, eT, hS, hk, hZ, hown, NN, E, hw, hC, hsf⟩ := X
  have hso : ∀ x ∈ sf0, x < h.size ∧ Safe Z EL vm0 h x := fun x hx => ⟨(hok x hx).1, (hok x hx).2.safe hZ.alike hsf⟩
  cases w with
  | true =>
    obtain ⟨v, vm1, B, -, X', h2, gr, post, st⟩ := callSS (s := s.setVm vm0) X0 c1.1 hown (mvT (s := s.setVm vm0) hZ w1) (mvT (s := s.setVm vm0) hZ w2) (mvT (s := s.setVm vm0) hZ w3) (mvT (s := s.setVm vm0) hZ w4) hy (hC'.backW E hZ w4 w3 hf hl c1.2.2.2.2.2.2 hC.1 hso) (g := mkF m pc L (argsL.reverse ++ rest)) rfl (hsz.trans c1.2.2.1.symm) (lenOf hpd hlen) rfl (by show 2 * 0 + _ ≤ _; omega) (hb c1.2.1 hd) (fun _ _ => ⟨rfl, eT, hc, hs⟩)
    obtain ⟨s₂, o, hs, r⟩ := kk v B.U (After.wide c1 eT hS hk hZ hown NN hC hsf X' h2 gr post)
    exact ⟨s₂, o, st.trans hs, r⟩
  | false =>
    obtain ⟨e0, hE0⟩ := hw rfl
    subst e0
    obtain ⟨v, vm1, B, -, X', post, st⟩ := Jvm.LawKit.callS (s := s) X0 c1.1 hown (mvT hZ w1) (mvT hZ w2) (mvT hZ w3) (mvT hZ w4) hy (hC'.backP E hZ w4 w3 hf hl c1.2.2.2.2.2.2 hC.1 hso) (g := mkF m pc L (argsL.reverse ++ rest)) rfl (hsz.trans c1.2.2.1.symm) (lenOf hpd hlen) rfl (by show 2 * 0 + _ ≤ _; omega) (hb c1.2.1 hd) (fun _ _ => ⟨rfl, eT, hc, hs⟩)
    obtain ⟨s₂, o, hs, r⟩ := kk v B.U (After.plain (T := T) hE0 c1 hS hk hZ hown NN hC hsf X' post)
    exact ⟨s₂, o, st _ hs, r⟩
theorem o_special (X : St w Z a0 EL y bytes maxL ret p l e R s m args below meth c T h sf k n) {pc pc' : Nat} {L : Array Slot} {rest : List Value} {idx : Nat} {z : MethodName} {bz : ByteArray} {mz : Nat} {Q' : Option Value → Heap → (Addr → Prop) → Prop} {a : Addr} (hd : decode bytes pc = .ok (.invokespecial idx, 3)) (hp : pc + 3 = pc') (hz : z.name = "<init>")
    (w1 : (Cond.methodLink y.cls idx z).before a0 Z = true) (w2 : (Cond.instanceMethod z).before a0 Z = true) (w3 : (Cond.initialized z.cls).before a0 Z = true) (w4 : (Cond.code z bz mz none).before a0 Z = true) (hy : z.cls ≠ "java/lang/invoke/MethodHandle" ∧ z.cls ≠ "java/lang/invoke/VarHandle")
    (hC' : Ct w Z a0 EL l z bz mz none rm as h sf0 Q') (hok : ∀ x ∈ sf0, x < h.size ∧ Ok Z EL h sf x) (argsL : List Value) (hargs : (.ref a :: argsL).toArray = as) {S0 : List Value} (hst : S0 = argsL.reverse ++ .ref a :: rest) {ps : List FieldType} {rr : Option FieldType} (hpd : parseMethodDescriptor z.desc = some ⟨ps, rr⟩) (hlen : argsL.length = ps.length) (hsz : L.size = maxL)
    (hf : rm.frames + 1 ≤ R.frames) (hl : (rest.map fun v => v.category).sum + (mz + 11) + rm.locals ≤ R.locals) (hc : k + rm.cells ≤ R.cells) (hs : n + rm.slots ≤ R.slots)
    (kk : ∀ (v : Option Value) (T' : State), After w Z a0 EL y bytes maxL ret p l e R s m args below meth c sf (k + rm.cells) (n + rm.slots) Q' v T' → Go w Z EL C N Q p e s below T' (mkF m pc' L (v.toList ++ rest))) : Go w Z EL C N Q p e s below T (mkF m pc L S0) := by
  subst hp hargs hst
  obtain ⟨c1, vm0, k0, locs, X0, eT, hS, hk, hZ, hown, NN, E, hw, hC, hsf⟩ := X
  have hso : ∀ x ∈ sf0, x < h.size ∧ Safe Z EL vm0 h x := fun x hx => ⟨(hok x hx).1, (hok x hx).2.safe hZ.alike hsf⟩
  cases w with
  | true =>
    obtain ⟨v, vm1, B, -, X', h2, gr, post, st⟩ := Stand.specialBackS (s := s.setVm vm0) X0 c1.1 hz hown (mvT (s := s.setVm vm0) hZ w1) (mvT (s := s.setVm vm0) hZ w2) (mvT (s := s.setVm vm0) hZ w4) hy (hC'.backW E hZ w4 w3 hf hl c1.2.2.2.2.2.2 hC.1 hso) (g := mkF m pc L (argsL.reverse ++ .ref a :: rest)) rfl (hsz.trans c1.2.2.1.symm) (Steps.refl _) (lenOf hpd hlen) rfl (by show 2 * 0 + _ ≤ _; omega) (hb c1.2.1 hd) (fun _ _ => ⟨rfl, eT, hc, hs⟩)
    obtain ⟨s₂, o, hs, r⟩ := kk v B.U (After.wide c1 eT hS hk hZ hown NN hC hsf X' h2 gr post)
    exact ⟨s₂, o, st.trans hs, r⟩
  | false =>
    obtain ⟨e0, hE0⟩ := hw rfl
    subst e0
    obtain ⟨v, vm1, B, -, X', post, st⟩ := Stand.specialBack (s := s) X0 c1.1 hz hown (mvT hZ w1) (mvT hZ w2) (mvT hZ w4) hy (hC'.backP E hZ w4 w3 hf hl c1.2.2.2.2.2.2 hC.1 hso) (g := mkF m pc L (argsL.reverse ++ .ref a :: rest)) rfl (hsz.trans c1.2.2.1.symm) (Steps.refl _) (lenOf hpd hlen) rfl (by show 2 * 0 + _ ≤ _; omega) (hb c1.2.1 hd) (fun _ _ => ⟨rfl, eT, hc, hs⟩)
    obtain ⟨s₂, o, hs, r⟩ := kk v B.U (After.plain (T := T) hE0 c1 hS hk hZ hown NN hC hsf X' post)
    exact ⟨s₂, o, st.trans hs, r⟩
theorem o_virtual (X : St w Z a0 EL y bytes maxL ret p l e R s m args below meth c T h sf k n) {pc pc' : Nat} {L : Array Slot} {rest : List Value} {idx : Nat} {u z : MethodName} {K : String} {bz : ByteArray} {mz : Nat} {rz : Option FieldType} {Q' : Option Value → Heap → (Addr → Prop) → Prop} {a : Addr} (hd : decode bytes pc = .ok (.invokevirtual idx, 3)) (hp : pc + 3 = pc')
    (w1 : (Cond.methodLink y.cls idx u).before a0 Z = true) (w2 : (Cond.declares u).before a0 Z = true) (nf : ∀ s' : State, Z.Warmed39 s'.vm → NotFace s' u) (w5 : (Cond.selects K u z).before a0 Z = true) (w6 : (Cond.instanceMethod z).before a0 Z = true) (w3 : (Cond.initialized z.cls).before a0 Z = true) (w4 : (Cond.code z bz mz rz).before a0 Z = true) (hy : u.cls ≠ "java/lang/invoke/MethodHandle" ∧ u.cls ≠ "java/lang/invoke/VarHandle") (E0 : Exa Z h a K)
    (hC' : Ct w Z a0 EL l z bz mz rz rm as h sf0 Q') (hok : ∀ x ∈ sf0, x < h.size ∧ Ok Z EL h sf x) (argsL : List Value) (hargs : (.ref a :: argsL).toArray = as) {S0 : List Value} (hst : S0 = argsL.reverse ++ .ref a :: rest) {ps : List FieldType} {rr : Option FieldType} (hpd : parseMethodDescriptor u.desc = some ⟨ps, rr⟩) (hlen : argsL.length = ps.length) (hsz : L.size = maxL)
    (hf : rm.frames + 1 ≤ R.frames) (hl : (rest.map fun v => v.category).sum + (mz + 11) + rm.locals ≤ R.locals) (hc : k + rm.cells ≤ R.cells) (hs : n + rm.slots ≤ R.slots)
    (kk : ∀ (v : Option Value) (T' : State), After w Z a0 EL y bytes maxL ret p l e R s m args below meth c sf (k + rm.cells) (n + rm.slots) Q' v T' → Go w Z EL C N Q p e s below T' (mkF m pc' L (v.toList ++ rest))) : Go w Z EL C N Q p e s below T (mkF m pc L S0) := by
  subst hp hargs hst
  obtain ⟨c1, vm0, k0, locs, X0, eT, hS, hk, hZ, hown, NN, E, hw, hC, hsf⟩ := X
  have hso : ∀ x ∈ sf0, x < h.size ∧ Safe Z EL vm0 h x := fun x hx => ⟨(hok x hx).1, (hok x hx).2.safe hZ.alike hsf⟩
  obtain ⟨cq, kq, qa, qb, qc⟩ := isOf (s := s.setVm vm0) hZ eT E0
  cases w with
  | true =>
    obtain ⟨v, vm1, B, -, X', h2, gr, post, st⟩ := Stand.virtualBackS (s := s.setVm vm0) X0 c1.1 hown (mvT (s := s.setVm vm0) hZ w1) (mvT (s := s.setVm vm0) hZ w2) (nf _ hZ) (mvT (s := s.setVm vm0) hZ w5) (mvT (s := s.setVm vm0) hZ w6) hy (hC'.backW E hZ w4 w3 hf hl c1.2.2.2.2.2.2 hC.1 hso) qa qc (g := mkF m pc L (argsL.reverse ++ .ref a :: rest)) rfl (hsz.trans c1.2.2.1.symm) (Steps.refl _) (lenOf hpd hlen) rfl (by show 2 * 0 + _ ≤ _; omega) (hb c1.2.1 hd) (fun _ _ => ⟨rfl, eT, hc, hs⟩)
    obtain ⟨s₂, o, hs, r⟩ := kk v B.U (After.wide c1 eT hS hk hZ hown NN hC hsf X' h2 gr post)
    exact ⟨s₂, o, st.trans hs, r⟩
  | false =>
    obtain ⟨e0, hE0⟩ := hw rfl
    subst e0
    obtain ⟨v, vm1, B, -, X', post, st⟩ := Stand.virtualBack (s := s) X0 c1.1 hown (mvT hZ w1) (mvT hZ w2) (nf _ hZ) (mvT hZ w5) (mvT hZ w6) hy (hC'.backP E hZ w4 w3 hf hl c1.2.2.2.2.2.2 hC.1 hso) qa qc (g := mkF m pc L (argsL.reverse ++ .ref a :: rest)) rfl (hsz.trans c1.2.2.1.symm) (Steps.refl _) (lenOf hpd hlen) rfl (by show 2 * 0 + _ ≤ _; omega) (hb c1.2.1 hd) (fun _ _ => ⟨rfl, eT, hc, hs⟩)
    obtain ⟨s₂, o, hs, r⟩ := kk v B.U (After.plain (T := T) hE0 c1 hS hk hZ hown NN hC hsf X' post)
    exact ⟨s₂, o, st.trans hs, r⟩
theorem okArr {a : Addr} {kA : ClassId} {ty : FieldType} {z : Int32} {vs : List Value} {d : Value} (A : Arv Z h a kA ty z vs d) (q : ty ≠ .byte) : ∃ (cl : Cell) (ty : FieldType), Arr Z h a cl ty ∧ ty ≠ .byte := by
  obtain ⟨cl, Ar, -⟩ := A
  exact ⟨cl, ty, Ar, q⟩
theorem St.mono (X : St w Z a0 EL y bytes maxL ret p l e R s m args below meth c T h sf k n) {k1 n1 : Nat} (hk1 : k ≤ k1) (hn1 : n ≤ n1) : St w Z a0 EL y bytes maxL ret p l e R s m args below meth c T h sf k1 n1 := by
  obtain ⟨c0, vm0, k0, locs, X0, r⟩ := X
  exact ⟨c0, vm0, k0, locs, ⟨X0.admits, X0.cas, X0.clock, X0.frames, X0.room, X0.hears, X0.method, X0.code, X0.here, X0.tail, X0.warmed, X0.limits, X0.bytes, X0.same.mono hk1 hn1⟩, r⟩
theorem o_pop2L (X : St w Z a0 EL y bytes maxL ret p l e R s m args below meth c T h sf k n) {pc pc' : Nat} {L : Array Slot} {S : List Value} {v : Int64} (hd : decode bytes pc = .ok (.pop2, 1)) (hp : pc + 1 = pc') (kk : Go w Z EL C N Q p e s below T (mkF m pc' L S)) : Go w Z EL C N Q p e s below T (mkF m pc L (.long v :: S)) := by
  subst hp
  exact ps X (fun H hx hby _ q => by
    have hd' := hb hby hd
    show Steps p.tables e below (T.setTop { method := m, pc := pc, locals := L, stack := .long v :: S, locked := none }) _
    jvm_step H [H.top, hx, hd', Value.category]
    exact q) kk

end
end W
end Jvm.Pilot.@@N@@
namespace Jvm.Pilot.@@N@@
open Jvm Jvm.ClassFile Sem Op Lib Jvm.Free Jvm.Stand Jvm.LawKit Jvm.RoadKit Bundle Jvm.Pilot.@@N@@.Jvm.D
theorem o32_toInt (n : Nat) (h : n < 2147483648) : (Int32.ofNat n).toInt = n := by
  rw [Int32.toInt_ofNat_of_lt]; simpa using h
theorem o32_lt {i n : Nat} (h : i < n) (hn : n < 2147483648) : ¬ (Int32.ofNat i) < 0 ∧ Int32.ofNat i < Int32.ofNat n := by
  have e1 := o32_toInt i (by omega)
  have e2 := o32_toInt n hn
  refine ⟨?_, ?_⟩
  · rw [Int32.lt_iff_toInt_lt, e1]; show ¬ ((i : Int) < 0); omega
  · rw [Int32.lt_iff_toInt_lt, e1, e2]; omega
theorem o32_clamp {i : Nat} (h : i < 2147483648) : (Int32.ofNat i).toNatClampNeg = i := by
  have e1 := o32_toInt i h
  show (Int32.ofNat i).toInt.toNat = i
  rw [e1]; rfl
theorem o32_succ (i : Nat) : Int32.ofNat i + 1 = Int32.ofNat (i + 1) := by
  rw [Int32.ofNat_add]; rfl
theorem o32_nn {i : Nat} (hn : i < 2147483648) : ¬ Int32.ofNat i < 0 := by
  rw [Int32.lt_iff_toInt_lt, o32_toInt i hn]; show ¬ ((i : Int) < 0); omega
theorem o32_ge {i n : Nat} (h : n ≤ i) (hn : i < 2147483648) : ¬ Int32.ofNat i < Int32.ofNat n := by
  rw [Int32.lt_iff_toInt_lt, o32_toInt i hn, o32_toInt n (by omega)]; omega
theorem o32_inj {i n : Nat} (hi : i < 2147483648) (hn : n < 2147483648) (h : Int32.ofNat i = Int32.ofNat n) : i = n := by
  have := congrArg Int32.toInt h
  rw [o32_toInt i hi, o32_toInt n hn] at this; omega
def lay {α : Type} (f : Int32 → α) (z : α) (cs : List Int32) (j : Nat) : List α := (cs.take j).map f ++ List.replicate (cs.length - j) z
theorem lay_len {α : Type} (f : Int32 → α) (z : α) (cs : List Int32) (j : Nat) (h : j ≤ cs.length) : (lay f z cs j).length = cs.length := by
  simp [lay]; omega
theorem lay_set {α : Type} (f : Int32 → α) (z : α) (cs : List Int32) (j : Nat) (h : j < cs.length) : (lay f z cs j).set j (f cs[j]) = lay f z cs (j + 1) := by
  apply List.ext_getElem
  · simp [lay]; omega
  · intro i h1 h2
    simp only [lay, List.getElem_set, List.getElem_append, List.length_map, List.length_take, List.getElem_map, List.getElem_take, List.getElem_replicate]
    by_cases e : j = i
    · subst e; simp; omega
    · rw [if_neg e]
      by_cases q : i < j
      · rw [dif_pos (by omega), dif_pos (by omega)]
      · rw [dif_neg (by omega), dif_neg (by omega)]
theorem lay_all {α : Type} (f : Int32 → α) (z : α) (cs : List Int32) : lay f z cs cs.length = cs.map f := by simp [lay]
theorem lay_zero {α : Type} (f : Int32 → α) (z : α) (cs : List Int32) : lay f z cs 0 = List.replicate cs.length z := by simp [lay]
def big (c : Int32) : Bool := decide (255 < c)
/-- a char's low byte, as a byte[] holds it -/
def lo (c : Int32) : Value := .int c.toInt8.toInt32
theorem nar_bb (x : Int32) : nar .byte x.toInt8.toInt32 = x.toInt8.toInt32 := by simp [nar]
theorem nar_ch {x : Int32} (h0 : ¬ x < 0) (h1 : ¬ 65535 < x) : nar .char x = x := by
  show x.toUInt32.toUInt16.toUInt32.toInt32 = x
  have q := c_i2c x
  apply Int32.toInt_inj.mp
  rw [Int32.lt_iff_toInt_lt] at h0 h1
  have z0 : (0 : Int32).toInt = 0 := rfl
  have z1 : (65535 : Int32).toInt = 65535 := rfl
  omega
theorem and_ch (x : Int32) : ¬ (x &&& 255).toUInt32.toUInt16.toUInt32.toInt32 < 0 ∧ ¬ 255 < (x &&& 255).toUInt32.toUInt16.toUInt32.toInt32 := by
  have q := c_i2c (x &&& 255)
  have r := c_and x 255 (by decide)
  have z0 : (0 : Int32).toInt = 0 := rfl
  have z1 : (255 : Int32).toInt = 255 := rfl
  rw [Int32.lt_iff_toInt_lt, Int32.lt_iff_toInt_lt]
  omega
theorem no_big {c : Int32} (h : ¬ 255 < c) : ¬ 65535 < c := by
  rw [Int32.lt_iff_toInt_lt] at h ⊢
  have z0 : (255 : Int32).toInt = 255 := rfl
  have z1 : (65535 : Int32).toInt = 65535 := rfl
  omega
theorem getD_map {cs : List Int32} {j : Nat} (h : j < cs.length) (d : Value) : (cs.map Value.int).getD j d = .int cs[j] := by simp [List.getD, h]
/-- a Latin-1 String: its class, its two fields, its bytes -/
def Str (Z : State) (h : Heap) (a t : Addr) (cs : List Int32) : Prop :=
  Exa Z h a "java/lang/String" ∧ Fld Z h a "java/lang/String" "coder" "B" (.int 0) ∧ Fld Z h a "java/lang/String" "value" "[B" (.ref t) ∧ (∃ kt, Arv Z h t kt .byte (Int32.ofNat cs.length) (cs.map lo) (.int 0)) ∧ cs.length ≤ 1000 ∧ ∀ c ∈ cs, ¬ c < 0 ∧ ¬ 255 < c
theorem Str.ext {Z : State} {h h' : Heap} {a t : Addr} {cs : List Int32} (F : Str Z h a t cs) (E : Ext h h') : Str Z h' a t cs := by
  obtain ⟨h1, h2, h3, ⟨kt, h4⟩, r⟩ := F; exact ⟨h1.ext E, h2.ext E, h3.ext E, ⟨kt, h4.ext E⟩, r⟩
theorem Str.keep {Z : State} {h h' : Heap} {a t : Addr} {cs : List Int32} {ws : List Addr} (F : Str Z h a t cs) (K : Keep h h' ws) (q : a ∉ ws) (r : t ∉ ws) : Str Z h' a t cs := by
  obtain ⟨h1, h2, h3, ⟨kt, h4⟩, r'⟩ := F; exact ⟨h1.keep K, h2.keep K q, h3.keep K q, ⟨kt, h4.keep K r⟩, r'⟩
theorem Str.other {Z : State} {h h' : Heap} {a t x : Addr} {sl : Nat} {v : Value} {cs : List Int32} (F : Str Z h a t cs) (W : Wr h h' x sl v) (q : a ≠ x) (r : t ≠ x) : Str Z h' a t cs := by
  obtain ⟨h1, h2, h3, ⟨kt, h4⟩, r'⟩ := F; exact ⟨h1.wr W, h2.other W (Or.inl q), h3.other W (Or.inl q), ⟨kt, h4.other W r⟩, r'⟩
theorem Str.lt {Z : State} {h : Heap} {a t : Addr} {cs : List Int32} (F : Str Z h a t cs) : a < h.size := F.1.lt
theorem Str.lt' {Z : State} {h : Heap} {a t : Addr} {cs : List Int32} (F : Str Z h a t cs) : t < h.size := by obtain ⟨-, -, -, ⟨kt, h4⟩, -⟩ := F; exact h4.lt
theorem allI {P : Int32 → Prop} {y : Int32} {L : List Int32} (q : P y) (r : ∀ x ∈ L, P x) : ∀ x ∈ y :: L, P x := fun x z => (List.mem_cons.mp z).elim (fun u => u ▸ q) (r x)
theorem lo255 {c : Int32} (h0 : ¬ c < 0) (h1 : ¬ 255 < c) : (c.toInt8.toInt32 &&& 255).toUInt32.toUInt16.toUInt32.toInt32 = c := by
  rw [Int32.lt_iff_toInt_lt] at h0 h1
  have z0 : (0 : Int32).toInt = 0 := rfl
  have z1 : (255 : Int32).toInt = 255 := rfl
  have b1 := c_i2b c
  have m1 := c_mask c.toInt8.toInt32 255 8 (by decide) rfl
  have f := c_i2c (c.toInt8.toInt32 &&& 255)
  apply Int32.toInt_inj.mp
  omega
def b2i (b : Bool) : Int32 := if b then 1 else 0
theorem b2i_0 {b : Bool} (h : b2i b = 0) : b = false := by cases b <;> simp_all [b2i]
theorem b2i_n {b : Bool} (h : ¬ b2i b = 0) : b = true := by cases b <;> simp_all [b2i]
theorem nar_b2i (b : Bool) : nar .boolean (b2i b) = b2i b := by cases b <;> rfl
theorem lo_inj {c d : Int32} (hc : ¬ c < 0 ∧ ¬ 255 < c) (hd : ¬ d < 0 ∧ ¬ 255 < d) (h : c.toInt8.toInt32 = d.toInt8.toInt32) : c = d := by rw [← lo255 hc.1 hc.2, ← lo255 hd.1 hd.2, h]
theorem getD_lo {cs : List Int32} {j : Nat} (h : j < cs.length) (d : Value) : (cs.map lo).getD j d = .int cs[j].toInt8.toInt32 := by simp [List.getD, h, lo]
theorem Str.neObj {Z : State} {h : Heap} {a t x : Addr} {cs : List Int32} {C : String} {a0 : Array Value} {n : Nat} (F : Str Z h a t cs) (E : Exa Z h x C) (w : (Cond.instantiable C n).before a0 Z = true) : t ≠ x := by
  obtain ⟨-, -, -, ⟨kt, h4⟩, -⟩ := F
  exact Ne.symm (Exa.neArv E h4 w)
theorem i2c_id {x : Int32} (h0 : ¬ x < 0) (h1 : ¬ 65535 < x) : x.toUInt32.toUInt16.toUInt32.toInt32 = x := nar_ch h0 h1
abbrev wd : Bool := true
abbrev el : List (String × Nat) := []
theorem hwe : wd = false → el = [] := fun q => by cases q
set_option maxRecDepth 65536 in
theorem hwS0 : ∀ a ∈ Bundle.stringAtoms, a ∈ tables_1 := by decide +kernel
theorem d_jdk_52_method_21_0 : decode jdk_52_method_21_code 0 = .ok (.iconst 0, 1) := by decide +kernel
theorem d_jdk_52_method_21_1 : decode jdk_52_method_21_code 1 = .ok (.istore 5, 2) := by decide +kernel
theorem pn_java_lang_StringUTF16 : plainName "java/lang/StringUTF16" = true := by first | (simp [plainName, overriddenIn]; done) | decide +kernel
theorem d_jdk_52_method_21_3 : decode jdk_52_method_21_code 3 = .ok (.iload 5, 2) := by decide +kernel
theorem d_jdk_52_method_21_5 : decode jdk_52_method_21_code 5 = .ok (.iload 4, 2) := by decide +kernel
theorem d_jdk_52_method_21_7 : decode jdk_52_method_21_code 7 = .ok (.if_icmp .ge 37, 3) := by decide +kernel
theorem d_jdk_52_method_21_44 : decode jdk_52_method_21_code 44 = .ok (.iload 4, 2) := by decide +kernel
theorem d_jdk_52_method_21_46 : decode jdk_52_method_21_code 46 = .ok (.ireturn, 1) := by decide +kernel
theorem d_jdk_52_method_21_10 : decode jdk_52_method_21_code 10 = .ok (.aload_n 0, 1) := by decide +kernel
theorem d_jdk_52_method_21_11 : decode jdk_52_method_21_code 11 = .ok (.iload_n 1, 1) := by decide +kernel
theorem d_jdk_52_method_21_12 : decode jdk_52_method_21_code 12 = .ok (.caload, 1) := by decide +kernel
theorem d_jdk_52_method_21_13 : decode jdk_52_method_21_code 13 = .ok (.istore 6, 2) := by decide +kernel
theorem d_jdk_52_method_21_15 : decode jdk_52_method_21_code 15 = .ok (.iload 6, 2) := by decide +kernel
theorem d_jdk_52_method_21_17 : decode jdk_52_method_21_code 17 = .ok (.sipush 255, 3) := by decide +kernel
theorem d_jdk_52_method_21_20 : decode jdk_52_method_21_code 20 = .ok (.if_icmp .le 6, 3) := by decide +kernel
theorem d_jdk_52_method_21_26 : decode jdk_52_method_21_code 26 = .ok (.aload_n 2, 1) := by decide +kernel
theorem d_jdk_52_method_21_27 : decode jdk_52_method_21_code 27 = .ok (.iload_n 3, 1) := by decide +kernel
theorem d_jdk_52_method_21_28 : decode jdk_52_method_21_code 28 = .ok (.iload 6, 2) := by decide +kernel
theorem d_jdk_52_method_21_30 : decode jdk_52_method_21_code 30 = .ok (.i2b, 1) := by decide +kernel
theorem d_jdk_52_method_21_31 : decode jdk_52_method_21_code 31 = .ok (.bastore, 1) := by decide +kernel
theorem d_jdk_52_method_21_32 : decode jdk_52_method_21_code 32 = .ok (.iinc 1 1, 3) := by decide +kernel
theorem d_jdk_52_method_21_35 : decode jdk_52_method_21_code 35 = .ok (.iinc 3 1, 3) := by decide +kernel
theorem d_jdk_52_method_21_38 : decode jdk_52_method_21_code 38 = .ok (.iinc 5 1, 3) := by decide +kernel
theorem d_jdk_52_method_21_41 : decode jdk_52_method_21_code 41 = .ok (.goto (-38), 3) := by decide +kernel
theorem d_jdk_52_method_21_23 : decode jdk_52_method_21_code 23 = .ok (.iload 5, 2) := by decide +kernel
theorem d_jdk_52_method_21_25 : decode jdk_52_method_21_code 25 = .ok (.ireturn, 1) := by decide +kernel
theorem d_jdk_52_method_16_0 : decode jdk_52_method_16_code 0 = .ok (.iload_n 2, 1) := by decide +kernel
theorem d_jdk_52_method_16_1 : decode jdk_52_method_16_code 1 = .ok (.newarray .byte, 2) := by decide +kernel
theorem d_jdk_52_method_16_3 : decode jdk_52_method_16_code 3 = .ok (.astore_n 3, 1) := by decide +kernel
theorem d_jdk_52_method_16_4 : decode jdk_52_method_16_code 4 = .ok (.aload_n 0, 1) := by decide +kernel
theorem d_jdk_52_method_16_5 : decode jdk_52_method_16_code 5 = .ok (.iload_n 1, 1) := by decide +kernel
theorem d_jdk_52_method_16_6 : decode jdk_52_method_16_code 6 = .ok (.aload_n 3, 1) := by decide +kernel
theorem d_jdk_52_method_16_7 : decode jdk_52_method_16_code 7 = .ok (.iconst 0, 1) := by decide +kernel
theorem d_jdk_52_method_16_8 : decode jdk_52_method_16_code 8 = .ok (.iload_n 2, 1) := by decide +kernel
theorem d_jdk_52_method_16_9 : decode jdk_52_method_16_code 9 = .ok (.invokestatic 115, 3) := by decide +kernel
theorem pd___CI_BII_I : parseMethodDescriptor "([CI[BII)I" = some ⟨[(.array .char), .int, (.array .byte), .int, .int], some .int⟩ := by decide +kernel
theorem d_jdk_52_method_16_12 : decode jdk_52_method_16_code 12 = .ok (.istore 4, 2) := by decide +kernel
theorem d_jdk_52_method_16_14 : decode jdk_52_method_16_code 14 = .ok (.iload 4, 2) := by decide +kernel
theorem d_jdk_52_method_16_16 : decode jdk_52_method_16_code 16 = .ok (.iload_n 2, 1) := by decide +kernel
theorem d_jdk_52_method_16_17 : decode jdk_52_method_16_code 17 = .ok (.if_icmp .eq 40, 3) := by decide +kernel
theorem d_jdk_52_method_16_57 : decode jdk_52_method_16_code 57 = .ok (.aload_n 3, 1) := by decide +kernel
theorem d_jdk_52_method_16_58 : decode jdk_52_method_16_code 58 = .ok (.areturn, 1) := by decide +kernel
theorem d_jdk_52_method_15_0 : decode jdk_52_method_15_code 0 = .ok (.iload_n 1, 1) := by decide +kernel
theorem d_jdk_52_method_15_1 : decode jdk_52_method_15_code 1 = .ok (.aload_n 0, 1) := by decide +kernel
theorem d_jdk_52_method_15_2 : decode jdk_52_method_15_code 2 = .ok (.arraylength, 1) := by decide +kernel
theorem d_jdk_52_method_15_3 : decode jdk_52_method_15_code 3 = .ok (.isub, 1) := by decide +kernel
theorem d_jdk_52_method_15_4 : decode jdk_52_method_15_code 4 = .ok (.bipush 31, 2) := by decide +kernel
theorem d_jdk_52_method_15_6 : decode jdk_52_method_15_code 6 = .ok (.iushr, 1) := by decide +kernel
theorem d_jdk_52_method_15_7 : decode jdk_52_method_15_code 7 = .ok (.i2b, 1) := by decide +kernel
theorem d_jdk_52_method_15_8 : decode jdk_52_method_15_code 8 = .ok (.ireturn, 1) := by decide +kernel
theorem d_jdk_42_method_149_0 : decode jdk_42_method_149_code 0 = .ok (.aload_n 0, 1) := by decide +kernel
theorem d_jdk_42_method_149_1 : decode jdk_42_method_149_code 1 = .ok (.invokespecial 1, 3) := by decide +kernel
theorem d_jdk_42_method_149_4 : decode jdk_42_method_149_code 4 = .ok (.iload_n 3, 1) := by decide +kernel
theorem d_jdk_42_method_149_5 : decode jdk_42_method_149_code 5 = .ok (.ifCond .ne 22, 3) := by decide +kernel
theorem d_jdk_42_method_149_27 : decode jdk_42_method_149_code 27 = .ok (.getstatic 38, 3) := by decide +kernel
theorem d_jdk_42_method_149_30 : decode jdk_42_method_149_code 30 = .ok (.ifCond .eq 28, 3) := by decide +kernel
theorem d_jdk_42_method_149_33 : decode jdk_42_method_149_code 33 = .ok (.aload_n 1, 1) := by decide +kernel
theorem d_jdk_42_method_149_34 : decode jdk_42_method_149_code 34 = .ok (.iload_n 2, 1) := by decide +kernel
theorem d_jdk_42_method_149_35 : decode jdk_42_method_149_code 35 = .ok (.iload_n 3, 1) := by decide +kernel
theorem d_jdk_42_method_149_36 : decode jdk_42_method_149_code 36 = .ok (.invokestatic 177, 3) := by decide +kernel
theorem pd___CII__B : parseMethodDescriptor "([CII)[B" = some ⟨[(.array .char), .int, .int], some (.array .byte)⟩ := by decide +kernel
theorem d_jdk_42_method_149_39 : decode jdk_42_method_149_code 39 = .ok (.astore 5, 2) := by decide +kernel
theorem d_jdk_42_method_149_41 : decode jdk_42_method_149_code 41 = .ok (.aload_n 0, 1) := by decide +kernel
theorem d_jdk_42_method_149_42 : decode jdk_42_method_149_code 42 = .ok (.aload 5, 2) := by decide +kernel
theorem d_jdk_42_method_149_44 : decode jdk_42_method_149_code 44 = .ok (.iload_n 3, 1) := by decide +kernel
theorem d_jdk_42_method_149_45 : decode jdk_42_method_149_code 45 = .ok (.invokestatic 47, 3) := by decide +kernel
theorem pd___BI_B : parseMethodDescriptor "([BI)B" = some ⟨[(.array .byte), .int], some .byte⟩ := by decide +kernel
theorem d_jdk_42_method_149_48 : decode jdk_42_method_149_code 48 = .ok (.putfield 15, 3) := by decide +kernel
theorem d_jdk_42_method_149_51 : decode jdk_42_method_149_code 51 = .ok (.aload_n 0, 1) := by decide +kernel
theorem d_jdk_42_method_149_52 : decode jdk_42_method_149_code 52 = .ok (.aload 5, 2) := by decide +kernel
theorem d_jdk_42_method_149_54 : decode jdk_42_method_149_code 54 = .ok (.putfield 9, 3) := by decide +kernel
theorem d_jdk_42_method_149_57 : decode jdk_42_method_149_code 57 = .ok (.return_, 1) := by decide +kernel
theorem pn_java_lang_String : plainName "java/lang/String" = true := by first | (simp [plainName, overriddenIn]; done) | decide +kernel
theorem d_jdk_42_method_3_0 : decode jdk_42_method_3_code 0 = .ok (.aload_n 0, 1) := by decide +kernel
theorem d_jdk_42_method_3_1 : decode jdk_42_method_3_code 1 = .ok (.aload_n 1, 1) := by decide +kernel
theorem d_jdk_42_method_3_2 : decode jdk_42_method_3_code 2 = .ok (.iconst 0, 1) := by decide +kernel
theorem d_jdk_42_method_3_3 : decode jdk_42_method_3_code 3 = .ok (.aload_n 1, 1) := by decide +kernel
theorem d_jdk_42_method_3_4 : decode jdk_42_method_3_code 4 = .ok (.arraylength, 1) := by decide +kernel
theorem d_jdk_42_method_3_5 : decode jdk_42_method_3_code 5 = .ok (.aconst_null, 1) := by decide +kernel
theorem d_jdk_42_method_3_6 : decode jdk_42_method_3_code 6 = .ok (.invokespecial 27, 3) := by decide +kernel
theorem pd___CIILjava_lang_Void__V : parseMethodDescriptor "([CIILjava/lang/Void;)V" = some ⟨[(.array .char), .int, .int, (.object "java/lang/Void")], none⟩ := by decide +kernel
theorem d_jdk_42_method_3_9 : decode jdk_42_method_3_code 9 = .ok (.return_, 1) := by decide +kernel
theorem d_jdk_43_method_13_0 : decode jdk_43_method_13_code 0 = .ok (.aload_n 0, 1) := by decide +kernel
theorem d_jdk_43_method_13_1 : decode jdk_43_method_13_code 1 = .ok (.arraylength, 1) := by decide +kernel
theorem d_jdk_43_method_13_2 : decode jdk_43_method_13_code 2 = .ok (.aload_n 1, 1) := by decide +kernel
theorem d_jdk_43_method_13_3 : decode jdk_43_method_13_code 3 = .ok (.arraylength, 1) := by decide +kernel
theorem d_jdk_43_method_13_4 : decode jdk_43_method_13_code 4 = .ok (.if_icmp .ne 30, 3) := by decide +kernel
theorem d_jdk_43_method_13_34 : decode jdk_43_method_13_code 34 = .ok (.iconst 0, 1) := by decide +kernel
theorem d_jdk_43_method_13_35 : decode jdk_43_method_13_code 35 = .ok (.ireturn, 1) := by decide +kernel
theorem d_jdk_43_method_13_7 : decode jdk_43_method_13_code 7 = .ok (.iconst 0, 1) := by decide +kernel
theorem d_jdk_43_method_13_8 : decode jdk_43_method_13_code 8 = .ok (.istore_n 2, 1) := by decide +kernel
theorem d_jdk_43_method_13_9 : decode jdk_43_method_13_code 9 = .ok (.iload_n 2, 1) := by decide +kernel
theorem d_jdk_43_method_13_10 : decode jdk_43_method_13_code 10 = .ok (.aload_n 0, 1) := by decide +kernel
theorem d_jdk_43_method_13_11 : decode jdk_43_method_13_code 11 = .ok (.arraylength, 1) := by decide +kernel
theorem d_jdk_43_method_13_12 : decode jdk_43_method_13_code 12 = .ok (.if_icmp .ge 20, 3) := by decide +kernel
theorem d_jdk_43_method_13_32 : decode jdk_43_method_13_code 32 = .ok (.iconst 1, 1) := by decide +kernel
theorem d_jdk_43_method_13_33 : decode jdk_43_method_13_code 33 = .ok (.ireturn, 1) := by decide +kernel
theorem d_jdk_43_method_13_15 : decode jdk_43_method_13_code 15 = .ok (.aload_n 0, 1) := by decide +kernel
theorem d_jdk_43_method_13_16 : decode jdk_43_method_13_code 16 = .ok (.iload_n 2, 1) := by decide +kernel
theorem d_jdk_43_method_13_17 : decode jdk_43_method_13_code 17 = .ok (.baload, 1) := by decide +kernel
theorem d_jdk_43_method_13_18 : decode jdk_43_method_13_code 18 = .ok (.aload_n 1, 1) := by decide +kernel
theorem d_jdk_43_method_13_19 : decode jdk_43_method_13_code 19 = .ok (.iload_n 2, 1) := by decide +kernel
theorem d_jdk_43_method_13_20 : decode jdk_43_method_13_code 20 = .ok (.baload, 1) := by decide +kernel
theorem d_jdk_43_method_13_21 : decode jdk_43_method_13_code 21 = .ok (.if_icmp .eq 5, 3) := by decide +kernel
theorem d_jdk_43_method_13_26 : decode jdk_43_method_13_code 26 = .ok (.iinc 2 1, 3) := by decide +kernel
theorem d_jdk_43_method_13_29 : decode jdk_43_method_13_code 29 = .ok (.goto (-20), 3) := by decide +kernel
theorem d_jdk_43_method_13_24 : decode jdk_43_method_13_code 24 = .ok (.iconst 0, 1) := by decide +kernel
theorem d_jdk_43_method_13_25 : decode jdk_43_method_13_code 25 = .ok (.ireturn, 1) := by decide +kernel
theorem pn_java_lang_StringLatin1 : plainName "java/lang/StringLatin1" = true := by first | (simp [plainName, overriddenIn]; done) | decide +kernel
theorem d_jdk_42_method_66_0 : decode jdk_42_method_66_code 0 = .ok (.aload_n 0, 1) := by decide +kernel
theorem d_jdk_42_method_66_1 : decode jdk_42_method_66_code 1 = .ok (.aload_n 1, 1) := by decide +kernel
theorem d_jdk_42_method_66_2 : decode jdk_42_method_66_code 2 = .ok (.if_acmp .ne 5, 3) := by decide +kernel
theorem d_jdk_42_method_66_5 : decode jdk_42_method_66_code 5 = .ok (.iconst 1, 1) := by decide +kernel
theorem d_jdk_42_method_66_6 : decode jdk_42_method_66_code 6 = .ok (.ireturn, 1) := by decide +kernel
theorem d_jdk_42_method_66_7 : decode jdk_42_method_66_code 7 = .ok (.aload_n 1, 1) := by decide +kernel
theorem d_jdk_42_method_66_8 : decode jdk_42_method_66_code 8 = .ok (.instanceof 10, 3) := by decide +kernel
theorem d_jdk_42_method_66_11 : decode jdk_42_method_66_code 11 = .ok (.ifCond .eq 43, 3) := by decide +kernel
theorem d_jdk_42_method_66_14 : decode jdk_42_method_66_code 14 = .ok (.aload_n 1, 1) := by decide +kernel
theorem d_jdk_42_method_66_15 : decode jdk_42_method_66_code 15 = .ok (.checkcast 10, 3) := by decide +kernel
theorem d_jdk_42_method_66_18 : decode jdk_42_method_66_code 18 = .ok (.astore_n 2, 1) := by decide +kernel
theorem d_jdk_42_method_66_19 : decode jdk_42_method_66_code 19 = .ok (.getstatic 38, 3) := by decide +kernel
theorem d_jdk_42_method_66_22 : decode jdk_42_method_66_code 22 = .ok (.ifCond .eq 14, 3) := by decide +kernel
theorem d_jdk_42_method_66_25 : decode jdk_42_method_66_code 25 = .ok (.aload_n 0, 1) := by decide +kernel
theorem d_jdk_42_method_66_26 : decode jdk_42_method_66_code 26 = .ok (.getfield 15, 3) := by decide +kernel
theorem d_jdk_42_method_66_29 : decode jdk_42_method_66_code 29 = .ok (.aload_n 2, 1) := by decide +kernel
theorem d_jdk_42_method_66_30 : decode jdk_42_method_66_code 30 = .ok (.getfield 15, 3) := by decide +kernel
theorem d_jdk_42_method_66_33 : decode jdk_42_method_66_code 33 = .ok (.if_icmp .ne 21, 3) := by decide +kernel
theorem d_jdk_42_method_66_36 : decode jdk_42_method_66_code 36 = .ok (.aload_n 0, 1) := by decide +kernel
theorem d_jdk_42_method_66_37 : decode jdk_42_method_66_code 37 = .ok (.getfield 9, 3) := by decide +kernel
theorem d_jdk_42_method_66_40 : decode jdk_42_method_66_code 40 = .ok (.aload_n 2, 1) := by decide +kernel
theorem d_jdk_42_method_66_41 : decode jdk_42_method_66_code 41 = .ok (.getfield 9, 3) := by decide +kernel
theorem d_jdk_42_method_66_44 : decode jdk_42_method_66_code 44 = .ok (.invokestatic 541, 3) := by decide +kernel
theorem pd___B_B_Z : parseMethodDescriptor "([B[B)Z" = some ⟨[(.array .byte), (.array .byte)], some .boolean⟩ := by decide +kernel
theorem d_jdk_42_method_66_47 : decode jdk_42_method_66_code 47 = .ok (.ifCond .eq 7, 3) := by decide +kernel
theorem d_jdk_42_method_66_54 : decode jdk_42_method_66_code 54 = .ok (.iconst 0, 1) := by decide +kernel
theorem d_jdk_42_method_66_55 : decode jdk_42_method_66_code 55 = .ok (.ireturn, 1) := by decide +kernel
theorem d_jdk_42_method_66_50 : decode jdk_42_method_66_code 50 = .ok (.iconst 1, 1) := by decide +kernel
theorem d_jdk_42_method_66_51 : decode jdk_42_method_66_code 51 = .ok (.goto 4, 3) := by decide +kernel
theorem d_jdk_31_method_11_0 : decode jdk_31_method_11_code 0 = .ok (.aload_n 0, 1) := by decide +kernel
theorem d_jdk_31_method_11_1 : decode jdk_31_method_11_code 1 = .ok (.ifnonnull 12, 3) := by decide +kernel
theorem d_jdk_31_method_11_13 : decode jdk_31_method_11_code 13 = .ok (.aload_n 0, 1) := by decide +kernel
theorem d_jdk_31_method_11_14 : decode jdk_31_method_11_code 14 = .ok (.areturn, 1) := by decide +kernel
theorem pn_java_util_Objects : plainName "java/util/Objects" = true := by first | (simp [plainName, overriddenIn]; done) | decide +kernel
theorem d_jdk_42_method_154_0 : decode jdk_42_method_154_code 0 = .ok (.getstatic 38, 3) := by decide +kernel
theorem d_jdk_42_method_154_3 : decode jdk_42_method_154_code 3 = .ok (.ifCond .eq 14, 3) := by decide +kernel
theorem d_jdk_42_method_154_6 : decode jdk_42_method_154_code 6 = .ok (.aload_n 0, 1) := by decide +kernel
theorem d_jdk_42_method_154_7 : decode jdk_42_method_154_code 7 = .ok (.getfield 15, 3) := by decide +kernel
theorem d_jdk_42_method_154_10 : decode jdk_42_method_154_code 10 = .ok (.ifCond .ne 7, 3) := by decide +kernel
theorem d_jdk_42_method_154_17 : decode jdk_42_method_154_code 17 = .ok (.iconst 0, 1) := by decide +kernel
theorem d_jdk_42_method_154_18 : decode jdk_42_method_154_code 18 = .ok (.ireturn, 1) := by decide +kernel
theorem d_jdk_42_method_154_13 : decode jdk_42_method_154_code 13 = .ok (.iconst 1, 1) := by decide +kernel
theorem d_jdk_42_method_154_14 : decode jdk_42_method_154_code 14 = .ok (.goto 4, 3) := by decide +kernel
theorem d_jdk_48_method_5_0 : decode jdk_48_method_5_code 0 = .ok (.iload_n 2, 1) := by decide +kernel
theorem d_jdk_48_method_5_1 : decode jdk_48_method_5_code 1 = .ok (.iload_n 3, 1) := by decide +kernel
theorem d_jdk_48_method_5_2 : decode jdk_48_method_5_code 2 = .ok (.iadd, 1) := by decide +kernel
theorem d_jdk_48_method_5_3 : decode jdk_48_method_5_code 3 = .ok (.istore 4, 2) := by decide +kernel
theorem d_jdk_48_method_5_5 : decode jdk_48_method_5_code 5 = .ok (.iload_n 2, 1) := by decide +kernel
theorem d_jdk_48_method_5_6 : decode jdk_48_method_5_code 6 = .ok (.istore 5, 2) := by decide +kernel
theorem d_jdk_48_method_5_8 : decode jdk_48_method_5_code 8 = .ok (.iload 5, 2) := by decide +kernel
theorem d_jdk_48_method_5_10 : decode jdk_48_method_5_code 10 = .ok (.iload 4, 2) := by decide +kernel
theorem d_jdk_48_method_5_12 : decode jdk_48_method_5_code 12 = .ok (.if_icmp .ge 23, 3) := by decide +kernel
theorem d_jdk_48_method_5_35 : decode jdk_48_method_5_code 35 = .ok (.iload_n 0, 1) := by decide +kernel
theorem d_jdk_48_method_5_36 : decode jdk_48_method_5_code 36 = .ok (.ireturn, 1) := by decide +kernel
theorem d_jdk_48_method_5_15 : decode jdk_48_method_5_code 15 = .ok (.bipush 31, 2) := by decide +kernel
theorem d_jdk_48_method_5_17 : decode jdk_48_method_5_code 17 = .ok (.iload_n 0, 1) := by decide +kernel
theorem d_jdk_48_method_5_18 : decode jdk_48_method_5_code 18 = .ok (.imul, 1) := by decide +kernel
theorem d_jdk_48_method_5_19 : decode jdk_48_method_5_code 19 = .ok (.aload_n 1, 1) := by decide +kernel
theorem d_jdk_48_method_5_20 : decode jdk_48_method_5_code 20 = .ok (.iload 5, 2) := by decide +kernel
theorem d_jdk_48_method_5_22 : decode jdk_48_method_5_code 22 = .ok (.baload, 1) := by decide +kernel
theorem d_jdk_48_method_5_23 : decode jdk_48_method_5_code 23 = .ok (.sipush 255, 3) := by decide +kernel
theorem d_jdk_48_method_5_26 : decode jdk_48_method_5_code 26 = .ok (.iand, 1) := by decide +kernel
theorem d_jdk_48_method_5_27 : decode jdk_48_method_5_code 27 = .ok (.iadd, 1) := by decide +kernel
theorem d_jdk_48_method_5_28 : decode jdk_48_method_5_code 28 = .ok (.istore_n 0, 1) := by decide +kernel
theorem d_jdk_48_method_5_29 : decode jdk_48_method_5_code 29 = .ok (.iinc 5 1, 3) := by decide +kernel
theorem d_jdk_48_method_5_32 : decode jdk_48_method_5_code 32 = .ok (.goto (-24), 3) := by decide +kernel
theorem pn_jdk_internal_util_ArraysSupport : plainName "jdk/internal/util/ArraysSupport" = true := by first | (simp [plainName, overriddenIn]; done) | decide +kernel
theorem d_jdk_48_method_4_0 : decode jdk_48_method_4_code 0 = .ok (.iload 4, 2) := by decide +kernel
theorem d_jdk_48_method_4_2 : decode jdk_48_method_4_code 2 = .ok (.tableswitch 127 4 10 #[42, 55, 127, 127, 88, 101, 114], 42) := by decide +kernel
theorem d_jdk_48_method_4_44 : decode jdk_48_method_4_code 44 = .ok (.iload_n 3, 1) := by decide +kernel
theorem d_jdk_48_method_4_45 : decode jdk_48_method_4_code 45 = .ok (.aload_n 0, 1) := by decide +kernel
theorem d_jdk_48_method_4_46 : decode jdk_48_method_4_code 46 = .ok (.checkcast 60, 3) := by decide +kernel
theorem d_jdk_48_method_4_49 : decode jdk_48_method_4_code 49 = .ok (.iload_n 1, 1) := by decide +kernel
theorem d_jdk_48_method_4_50 : decode jdk_48_method_4_code 50 = .ok (.iload_n 2, 1) := by decide +kernel
theorem d_jdk_48_method_4_51 : decode jdk_48_method_4_code 51 = .ok (.invokestatic 62, 3) := by decide +kernel
theorem pd__I_BII_I : parseMethodDescriptor "(I[BII)I" = some ⟨[.int, (.array .byte), .int, .int], some .int⟩ := by decide +kernel
theorem d_jdk_48_method_4_54 : decode jdk_48_method_4_code 54 = .ok (.goto 103, 3) := by decide +kernel
theorem d_jdk_48_method_4_157 : decode jdk_48_method_4_code 157 = .ok (.ireturn, 1) := by decide +kernel
theorem d_jdk_43_method_21_0 : decode jdk_43_method_21_code 0 = .ok (.aload_n 0, 1) := by decide +kernel
theorem d_jdk_43_method_21_1 : decode jdk_43_method_21_code 1 = .ok (.arraylength, 1) := by decide +kernel
theorem d_jdk_43_method_21_2 : decode jdk_43_method_21_code 2 = .ok (.lookupswitch 40 #[(0, 26), (1, 30)], 26) := by decide +kernel
theorem d_jdk_43_method_21_32 : decode jdk_43_method_21_code 32 = .ok (.aload_n 0, 1) := by decide +kernel
theorem d_jdk_43_method_21_33 : decode jdk_43_method_21_code 33 = .ok (.iconst 0, 1) := by decide +kernel
theorem d_jdk_43_method_21_34 : decode jdk_43_method_21_code 34 = .ok (.baload, 1) := by decide +kernel
theorem d_jdk_43_method_21_35 : decode jdk_43_method_21_code 35 = .ok (.sipush 255, 3) := by decide +kernel
theorem d_jdk_43_method_21_38 : decode jdk_43_method_21_code 38 = .ok (.iand, 1) := by decide +kernel
theorem d_jdk_43_method_21_39 : decode jdk_43_method_21_code 39 = .ok (.goto 12, 3) := by decide +kernel
theorem d_jdk_43_method_21_51 : decode jdk_43_method_21_code 51 = .ok (.ireturn, 1) := by decide +kernel
theorem d_jdk_43_method_21_42 : decode jdk_43_method_21_code 42 = .ok (.aload_n 0, 1) := by decide +kernel
theorem d_jdk_43_method_21_43 : decode jdk_43_method_21_code 43 = .ok (.iconst 0, 1) := by decide +kernel
theorem d_jdk_43_method_21_44 : decode jdk_43_method_21_code 44 = .ok (.aload_n 0, 1) := by decide +kernel
theorem d_jdk_43_method_21_45 : decode jdk_43_method_21_code 45 = .ok (.arraylength, 1) := by decide +kernel
theorem d_jdk_43_method_21_46 : decode jdk_43_method_21_code 46 = .ok (.iconst 0, 1) := by decide +kernel
theorem d_jdk_43_method_21_47 : decode jdk_43_method_21_code 47 = .ok (.iconst 4, 1) := by decide +kernel
theorem d_jdk_43_method_21_48 : decode jdk_43_method_21_code 48 = .ok (.invokestatic 84, 3) := by decide +kernel
theorem pd__Ljava_lang_Object_IIII_I : parseMethodDescriptor "(Ljava/lang/Object;IIII)I" = some ⟨[(.object "java/lang/Object"), .int, .int, .int, .int], some .int⟩ := by decide +kernel
theorem d_jdk_42_method_78_0 : decode jdk_42_method_78_code 0 = .ok (.aload_n 0, 1) := by decide +kernel
theorem d_jdk_42_method_78_1 : decode jdk_42_method_78_code 1 = .ok (.getfield 19, 3) := by decide +kernel
theorem d_jdk_42_method_78_4 : decode jdk_42_method_78_code 4 = .ok (.istore_n 1, 1) := by decide +kernel
theorem d_jdk_42_method_78_5 : decode jdk_42_method_78_code 5 = .ok (.iload_n 1, 1) := by decide +kernel
theorem d_jdk_42_method_78_6 : decode jdk_42_method_78_code 6 = .ok (.ifCond .ne 52, 3) := by decide +kernel
theorem d_jdk_42_method_78_58 : decode jdk_42_method_78_code 58 = .ok (.iload_n 1, 1) := by decide +kernel
theorem d_jdk_42_method_78_59 : decode jdk_42_method_78_code 59 = .ok (.ireturn, 1) := by decide +kernel
theorem d_jdk_42_method_78_9 : decode jdk_42_method_78_code 9 = .ok (.aload_n 0, 1) := by decide +kernel
theorem d_jdk_42_method_78_10 : decode jdk_42_method_78_code 10 = .ok (.getfield 23, 3) := by decide +kernel
theorem d_jdk_42_method_78_13 : decode jdk_42_method_78_code 13 = .ok (.ifCond .ne 45, 3) := by decide +kernel
theorem d_jdk_42_method_78_16 : decode jdk_42_method_78_code 16 = .ok (.aload_n 0, 1) := by decide +kernel
theorem d_jdk_42_method_78_17 : decode jdk_42_method_78_code 17 = .ok (.invokevirtual 492, 3) := by decide +kernel
theorem pd___Z : parseMethodDescriptor "()Z" = some ⟨[], some .boolean⟩ := by decide +kernel
theorem d_jdk_42_method_78_20 : decode jdk_42_method_78_code 20 = .ok (.ifCond .eq 13, 3) := by decide +kernel
theorem d_jdk_42_method_78_23 : decode jdk_42_method_78_code 23 = .ok (.aload_n 0, 1) := by decide +kernel
theorem d_jdk_42_method_78_24 : decode jdk_42_method_78_code 24 = .ok (.getfield 9, 3) := by decide +kernel
theorem d_jdk_42_method_78_27 : decode jdk_42_method_78_code 27 = .ok (.invokestatic 628, 3) := by decide +kernel
theorem pd___B_I : parseMethodDescriptor "([B)I" = some ⟨[(.array .byte)], some .int⟩ := by decide +kernel
theorem d_jdk_42_method_78_30 : decode jdk_42_method_78_code 30 = .ok (.goto 10, 3) := by decide +kernel
theorem d_jdk_42_method_78_40 : decode jdk_42_method_78_code 40 = .ok (.istore_n 1, 1) := by decide +kernel
theorem d_jdk_42_method_78_41 : decode jdk_42_method_78_code 41 = .ok (.iload_n 1, 1) := by decide +kernel
theorem d_jdk_42_method_78_42 : decode jdk_42_method_78_code 42 = .ok (.ifCond .ne 11, 3) := by decide +kernel
theorem d_jdk_42_method_78_53 : decode jdk_42_method_78_code 53 = .ok (.aload_n 0, 1) := by decide +kernel
theorem d_jdk_42_method_78_54 : decode jdk_42_method_78_code 54 = .ok (.iload_n 1, 1) := by decide +kernel
theorem d_jdk_42_method_78_55 : decode jdk_42_method_78_code 55 = .ok (.putfield 19, 3) := by decide +kernel
theorem d_jdk_42_method_78_45 : decode jdk_42_method_78_code 45 = .ok (.aload_n 0, 1) := by decide +kernel
theorem d_jdk_42_method_78_46 : decode jdk_42_method_78_code 46 = .ok (.iconst 1, 1) := by decide +kernel
theorem d_jdk_42_method_78_47 : decode jdk_42_method_78_code 47 = .ok (.putfield 23, 3) := by decide +kernel
theorem d_jdk_42_method_78_50 : decode jdk_42_method_78_code 50 = .ok (.goto 8, 3) := by decide +kernel
theorem d_jdk_65_method_157_0 : decode jdk_65_method_157_code 0 = .ok (.aload_n 0, 1) := by decide +kernel
theorem d_jdk_65_method_157_1 : decode jdk_65_method_157_code 1 = .ok (.ifnonnull 5, 3) := by decide +kernel
theorem d_jdk_65_method_157_6 : decode jdk_65_method_157_code 6 = .ok (.iconst 1, 1) := by decide +kernel
theorem d_jdk_65_method_157_7 : decode jdk_65_method_157_code 7 = .ok (.istore_n 1, 1) := by decide +kernel
theorem d_jdk_65_method_157_8 : decode jdk_65_method_157_code 8 = .ok (.aload_n 0, 1) := by decide +kernel
theorem d_jdk_65_method_157_9 : decode jdk_65_method_157_code 9 = .ok (.astore_n 2, 1) := by decide +kernel
theorem d_jdk_65_method_157_10 : decode jdk_65_method_157_code 10 = .ok (.aload_n 2, 1) := by decide +kernel
theorem d_jdk_65_method_157_11 : decode jdk_65_method_157_code 11 = .ok (.arraylength, 1) := by decide +kernel
theorem d_jdk_65_method_157_12 : decode jdk_65_method_157_code 12 = .ok (.istore_n 3, 1) := by decide +kernel
theorem d_jdk_65_method_157_13 : decode jdk_65_method_157_code 13 = .ok (.iconst 0, 1) := by decide +kernel
theorem d_jdk_65_method_157_14 : decode jdk_65_method_157_code 14 = .ok (.istore 4, 2) := by decide +kernel
theorem d_jdk_65_method_157_16 : decode jdk_65_method_157_code 16 = .ok (.iload 4, 2) := by decide +kernel
theorem d_jdk_65_method_157_18 : decode jdk_65_method_157_code 18 = .ok (.iload_n 3, 1) := by decide +kernel
theorem d_jdk_65_method_157_19 : decode jdk_65_method_157_code 19 = .ok (.if_icmp .ge 35, 3) := by decide +kernel
theorem d_jdk_65_method_157_22 : decode jdk_65_method_157_code 22 = .ok (.aload_n 2, 1) := by decide +kernel
theorem d_jdk_65_method_157_23 : decode jdk_65_method_157_code 23 = .ok (.iload 4, 2) := by decide +kernel
theorem d_jdk_65_method_157_25 : decode jdk_65_method_157_code 25 = .ok (.aaload, 1) := by decide +kernel
theorem d_jdk_65_method_157_26 : decode jdk_65_method_157_code 26 = .ok (.astore 5, 2) := by decide +kernel
theorem d_jdk_65_method_157_28 : decode jdk_65_method_157_code 28 = .ok (.bipush 31, 2) := by decide +kernel
theorem d_jdk_65_method_157_30 : decode jdk_65_method_157_code 30 = .ok (.iload_n 1, 1) := by decide +kernel
theorem d_jdk_65_method_157_31 : decode jdk_65_method_157_code 31 = .ok (.imul, 1) := by decide +kernel
theorem d_jdk_65_method_157_32 : decode jdk_65_method_157_code 32 = .ok (.aload 5, 2) := by decide +kernel
theorem d_jdk_65_method_157_34 : decode jdk_65_method_157_code 34 = .ok (.ifnonnull 7, 3) := by decide +kernel
theorem d_jdk_65_method_157_41 : decode jdk_65_method_157_code 41 = .ok (.aload 5, 2) := by decide +kernel
theorem d_jdk_65_method_157_43 : decode jdk_65_method_157_code 43 = .ok (.invokevirtual 383, 3) := by decide +kernel
theorem pd___I : parseMethodDescriptor "()I" = some ⟨[], some .int⟩ := by decide +kernel
theorem d_jdk_65_method_157_46 : decode jdk_65_method_157_code 46 = .ok (.iadd, 1) := by decide +kernel
theorem d_jdk_65_method_157_47 : decode jdk_65_method_157_code 47 = .ok (.istore_n 1, 1) := by decide +kernel
theorem d_jdk_65_method_157_48 : decode jdk_65_method_157_code 48 = .ok (.iinc 4 1, 3) := by decide +kernel
theorem d_jdk_65_method_157_51 : decode jdk_65_method_157_code 51 = .ok (.goto (-35), 3) := by decide +kernel
theorem d_jdk_65_method_157_54 : decode jdk_65_method_157_code 54 = .ok (.iload_n 1, 1) := by decide +kernel
theorem d_jdk_65_method_157_55 : decode jdk_65_method_157_code 55 = .ok (.ireturn, 1) := by decide +kernel
theorem pn_java_util_Arrays : plainName "java/util/Arrays" = true := by first | (simp [plainName, overriddenIn]; done) | decide +kernel
theorem d_jdk_31_method_5_0 : decode jdk_31_method_5_code 0 = .ok (.aload_n 0, 1) := by decide +kernel
theorem d_jdk_31_method_5_1 : decode jdk_31_method_5_code 1 = .ok (.invokestatic 28, 3) := by decide +kernel
theorem pd___Ljava_lang_Object__I : parseMethodDescriptor "([Ljava/lang/Object;)I" = some ⟨[(.array (.object "java/lang/Object"))], some .int⟩ := by decide +kernel
theorem d_jdk_31_method_5_4 : decode jdk_31_method_5_code 4 = .ok (.ireturn, 1) := by decide +kernel
theorem d_jdk_43_method_3_0 : decode jdk_43_method_3_code 0 = .ok (.iload_n 0, 1) := by decide +kernel
theorem d_jdk_43_method_3_1 : decode jdk_43_method_3_code 1 = .ok (.sipush 255, 3) := by decide +kernel
theorem d_jdk_43_method_3_4 : decode jdk_43_method_3_code 4 = .ok (.if_icmp .gt 7, 3) := by decide +kernel
theorem d_jdk_43_method_3_7 : decode jdk_43_method_3_code 7 = .ok (.iconst 1, 1) := by decide +kernel
theorem d_jdk_43_method_3_8 : decode jdk_43_method_3_code 8 = .ok (.goto 4, 3) := by decide +kernel
theorem d_jdk_43_method_3_12 : decode jdk_43_method_3_code 12 = .ok (.ireturn, 1) := by decide +kernel
theorem d_jdk_43_method_46_0 : decode jdk_43_method_46_code 0 = .ok (.iconst 1, 1) := by decide +kernel
theorem d_jdk_43_method_46_1 : decode jdk_43_method_46_code 1 = .ok (.newarray .byte, 2) := by decide +kernel
theorem d_jdk_43_method_46_3 : decode jdk_43_method_46_code 3 = .ok (.dup, 1) := by decide +kernel
theorem d_jdk_43_method_46_4 : decode jdk_43_method_46_code 4 = .ok (.iconst 0, 1) := by decide +kernel
theorem d_jdk_43_method_46_5 : decode jdk_43_method_46_code 5 = .ok (.iload_n 0, 1) := by decide +kernel
theorem d_jdk_43_method_46_6 : decode jdk_43_method_46_code 6 = .ok (.i2b, 1) := by decide +kernel
theorem d_jdk_43_method_46_7 : decode jdk_43_method_46_code 7 = .ok (.bastore, 1) := by decide +kernel
theorem d_jdk_43_method_46_8 : decode jdk_43_method_46_code 8 = .ok (.areturn, 1) := by decide +kernel
theorem d_jdk_42_method_151_0 : decode jdk_42_method_151_code 0 = .ok (.aload_n 0, 1) := by decide +kernel
theorem d_jdk_42_method_151_1 : decode jdk_42_method_151_code 1 = .ok (.invokespecial 1, 3) := by decide +kernel
theorem d_jdk_42_method_151_4 : decode jdk_42_method_151_code 4 = .ok (.aload_n 0, 1) := by decide +kernel
theorem d_jdk_42_method_151_5 : decode jdk_42_method_151_code 5 = .ok (.aload_n 1, 1) := by decide +kernel
theorem d_jdk_42_method_151_6 : decode jdk_42_method_151_code 6 = .ok (.putfield 9, 3) := by decide +kernel
theorem d_jdk_42_method_151_9 : decode jdk_42_method_151_code 9 = .ok (.aload_n 0, 1) := by decide +kernel
theorem d_jdk_42_method_151_10 : decode jdk_42_method_151_code 10 = .ok (.iload_n 2, 1) := by decide +kernel
theorem d_jdk_42_method_151_11 : decode jdk_42_method_151_code 11 = .ok (.putfield 15, 3) := by decide +kernel
theorem d_jdk_42_method_151_14 : decode jdk_42_method_151_code 14 = .ok (.return_, 1) := by decide +kernel
theorem d_jdk_42_method_139_0 : decode jdk_42_method_139_code 0 = .ok (.getstatic 38, 3) := by decide +kernel
theorem d_jdk_42_method_139_3 : decode jdk_42_method_139_code 3 = .ok (.ifCond .eq 23, 3) := by decide +kernel
theorem d_jdk_42_method_139_6 : decode jdk_42_method_139_code 6 = .ok (.iload_n 0, 1) := by decide +kernel
theorem d_jdk_42_method_139_7 : decode jdk_42_method_139_code 7 = .ok (.invokestatic 1015, 3) := by decide +kernel
theorem pd__C_Z : parseMethodDescriptor "(C)Z" = some ⟨[.char], some .boolean⟩ := by decide +kernel
theorem d_jdk_42_method_139_10 : decode jdk_42_method_139_code 10 = .ok (.ifCond .eq 16, 3) := by decide +kernel
theorem d_jdk_42_method_139_13 : decode jdk_42_method_139_code 13 = .ok (.new 10, 3) := by decide +kernel
theorem d_jdk_42_method_139_16 : decode jdk_42_method_139_code 16 = .ok (.dup, 1) := by decide +kernel
theorem d_jdk_42_method_139_17 : decode jdk_42_method_139_code 17 = .ok (.iload_n 0, 1) := by decide +kernel
theorem d_jdk_42_method_139_18 : decode jdk_42_method_139_code 18 = .ok (.invokestatic 1018, 3) := by decide +kernel
theorem pd__C__B : parseMethodDescriptor "(C)[B" = some ⟨[.char], some (.array .byte)⟩ := by decide +kernel
theorem d_jdk_42_method_139_21 : decode jdk_42_method_139_code 21 = .ok (.iconst 0, 1) := by decide +kernel
theorem d_jdk_42_method_139_22 : decode jdk_42_method_139_code 22 = .ok (.invokespecial 209, 3) := by decide +kernel
theorem pd___BB_V : parseMethodDescriptor "([BB)V" = some ⟨[(.array .byte), .byte], none⟩ := by decide +kernel
theorem d_jdk_42_method_139_25 : decode jdk_42_method_139_code 25 = .ok (.areturn, 1) := by decide +kernel
theorem d_prog_8_method_1_0 : decode prog_8_method_1_code 0 = .ok (.aload_n 0, 1) := by decide +kernel
theorem d_prog_8_method_1_1 : decode prog_8_method_1_code 1 = .ok (.invokespecial 1, 3) := by decide +kernel
theorem d_prog_8_method_1_4 : decode prog_8_method_1_code 4 = .ok (.aload_n 0, 1) := by decide +kernel
theorem d_prog_8_method_1_5 : decode prog_8_method_1_code 5 = .ok (.aload_n 1, 1) := by decide +kernel
theorem d_prog_8_method_1_6 : decode prog_8_method_1_code 6 = .ok (.ldc 7, 2) := by decide +kernel
theorem d_prog_8_method_1_8 : decode prog_8_method_1_code 8 = .ok (.invokestatic 9, 3) := by decide +kernel
theorem pd__Ljava_lang_Object_Ljava_lang_String__Ljava_lang_Object_ : parseMethodDescriptor "(Ljava/lang/Object;Ljava/lang/String;)Ljava/lang/Object;" = some ⟨[(.object "java/lang/Object"), (.object "java/lang/String")], some (.object "java/lang/Object")⟩ := by decide +kernel
theorem d_prog_8_method_1_11 : decode prog_8_method_1_code 11 = .ok (.checkcast 15, 3) := by decide +kernel
theorem d_prog_8_method_1_14 : decode prog_8_method_1_code 14 = .ok (.putfield 17, 3) := by decide +kernel
theorem d_prog_8_method_1_17 : decode prog_8_method_1_code 17 = .ok (.aload_n 0, 1) := by decide +kernel
theorem d_prog_8_method_1_18 : decode prog_8_method_1_code 18 = .ok (.aload_n 2, 1) := by decide +kernel
theorem d_prog_8_method_1_19 : decode prog_8_method_1_code 19 = .ok (.ldc 22, 2) := by decide +kernel
theorem d_prog_8_method_1_21 : decode prog_8_method_1_code 21 = .ok (.invokestatic 9, 3) := by decide +kernel
theorem d_prog_8_method_1_24 : decode prog_8_method_1_code 24 = .ok (.checkcast 15, 3) := by decide +kernel
theorem d_prog_8_method_1_27 : decode prog_8_method_1_code 27 = .ok (.putfield 24, 3) := by decide +kernel
theorem d_prog_8_method_1_30 : decode prog_8_method_1_code 30 = .ok (.aload_n 0, 1) := by decide +kernel
theorem d_prog_8_method_1_31 : decode prog_8_method_1_code 31 = .ok (.aload_n 3, 1) := by decide +kernel
theorem d_prog_8_method_1_32 : decode prog_8_method_1_code 32 = .ok (.ldc 26, 2) := by decide +kernel
theorem d_prog_8_method_1_34 : decode prog_8_method_1_code 34 = .ok (.invokestatic 9, 3) := by decide +kernel
theorem d_prog_8_method_1_37 : decode prog_8_method_1_code 37 = .ok (.checkcast 15, 3) := by decide +kernel
theorem d_prog_8_method_1_40 : decode prog_8_method_1_code 40 = .ok (.putfield 28, 3) := by decide +kernel
theorem d_prog_8_method_1_43 : decode prog_8_method_1_code 43 = .ok (.aload_n 0, 1) := by decide +kernel
theorem d_prog_8_method_1_44 : decode prog_8_method_1_code 44 = .ok (.iload 4, 2) := by decide +kernel
theorem d_prog_8_method_1_46 : decode prog_8_method_1_code 46 = .ok (.putfield 30, 3) := by decide +kernel
theorem d_prog_8_method_1_49 : decode prog_8_method_1_code 49 = .ok (.aload_n 0, 1) := by decide +kernel
theorem d_prog_8_method_1_50 : decode prog_8_method_1_code 50 = .ok (.iconst 3, 1) := by decide +kernel
theorem d_prog_8_method_1_51 : decode prog_8_method_1_code 51 = .ok (.anewarray 2, 3) := by decide +kernel
theorem d_prog_8_method_1_54 : decode prog_8_method_1_code 54 = .ok (.dup, 1) := by decide +kernel
theorem d_prog_8_method_1_55 : decode prog_8_method_1_code 55 = .ok (.iconst 0, 1) := by decide +kernel
theorem d_prog_8_method_1_56 : decode prog_8_method_1_code 56 = .ok (.aload_n 1, 1) := by decide +kernel
theorem d_prog_8_method_1_57 : decode prog_8_method_1_code 57 = .ok (.aastore, 1) := by decide +kernel
theorem d_prog_8_method_1_58 : decode prog_8_method_1_code 58 = .ok (.dup, 1) := by decide +kernel
theorem d_prog_8_method_1_59 : decode prog_8_method_1_code 59 = .ok (.iconst 1, 1) := by decide +kernel
theorem d_prog_8_method_1_60 : decode prog_8_method_1_code 60 = .ok (.aload_n 2, 1) := by decide +kernel
theorem d_prog_8_method_1_61 : decode prog_8_method_1_code 61 = .ok (.aastore, 1) := by decide +kernel
theorem d_prog_8_method_1_62 : decode prog_8_method_1_code 62 = .ok (.dup, 1) := by decide +kernel
theorem d_prog_8_method_1_63 : decode prog_8_method_1_code 63 = .ok (.iconst 2, 1) := by decide +kernel
theorem d_prog_8_method_1_64 : decode prog_8_method_1_code 64 = .ok (.aload_n 3, 1) := by decide +kernel
theorem d_prog_8_method_1_65 : decode prog_8_method_1_code 65 = .ok (.aastore, 1) := by decide +kernel
theorem d_prog_8_method_1_66 : decode prog_8_method_1_code 66 = .ok (.invokestatic 34, 3) := by decide +kernel
theorem d_prog_8_method_1_69 : decode prog_8_method_1_code 69 = .ok (.putfield 38, 3) := by decide +kernel
theorem d_prog_8_method_1_72 : decode prog_8_method_1_code 72 = .ok (.return_, 1) := by decide +kernel
theorem pn_com_example_holdfast_holdfast_redis_LockKeys : plainName "com/example/holdfast/holdfast/redis/LockKeys" = true := by first | (simp [plainName, overriddenIn]; done) | decide +kernel
theorem d_prog_8_method_6_0 : decode prog_8_method_6_code 0 = .ok (.aload_n 1, 1) := by decide +kernel
theorem d_prog_8_method_6_1 : decode prog_8_method_6_code 1 = .ok (.instanceof 18, 3) := by decide +kernel
theorem d_prog_8_method_6_4 : decode prog_8_method_6_code 4 = .ok (.ifCond .eq 54, 3) := by decide +kernel
theorem d_prog_8_method_6_58 : decode prog_8_method_6_code 58 = .ok (.iconst 0, 1) := by decide +kernel
theorem d_prog_8_method_6_59 : decode prog_8_method_6_code 59 = .ok (.ireturn, 1) := by decide +kernel
theorem d_prog_8_method_6_7 : decode prog_8_method_6_code 7 = .ok (.aload_n 1, 1) := by decide +kernel
theorem d_prog_8_method_6_8 : decode prog_8_method_6_code 8 = .ok (.checkcast 18, 3) := by decide +kernel
theorem d_prog_8_method_6_11 : decode prog_8_method_6_code 11 = .ok (.astore_n 2, 1) := by decide +kernel
theorem d_prog_8_method_6_12 : decode prog_8_method_6_code 12 = .ok (.aload_n 0, 1) := by decide +kernel
theorem d_prog_8_method_6_13 : decode prog_8_method_6_code 13 = .ok (.getfield 17, 3) := by decide +kernel
theorem d_prog_8_method_6_16 : decode prog_8_method_6_code 16 = .ok (.aload_n 2, 1) := by decide +kernel
theorem d_prog_8_method_6_17 : decode prog_8_method_6_code 17 = .ok (.getfield 17, 3) := by decide +kernel
theorem d_prog_8_method_6_20 : decode prog_8_method_6_code 20 = .ok (.invokevirtual 40, 3) := by decide +kernel
theorem pd__Ljava_lang_Object__Z : parseMethodDescriptor "(Ljava/lang/Object;)Z" = some ⟨[(.object "java/lang/Object")], some .boolean⟩ := by decide +kernel
theorem d_prog_8_method_6_23 : decode prog_8_method_6_code 23 = .ok (.ifCond .eq 35, 3) := by decide +kernel
theorem d_prog_8_method_6_26 : decode prog_8_method_6_code 26 = .ok (.aload_n 0, 1) := by decide +kernel
theorem d_prog_8_method_6_27 : decode prog_8_method_6_code 27 = .ok (.getfield 24, 3) := by decide +kernel
theorem d_prog_8_method_6_30 : decode prog_8_method_6_code 30 = .ok (.aload_n 2, 1) := by decide +kernel
theorem d_prog_8_method_6_31 : decode prog_8_method_6_code 31 = .ok (.getfield 24, 3) := by decide +kernel
theorem d_prog_8_method_6_34 : decode prog_8_method_6_code 34 = .ok (.invokevirtual 40, 3) := by decide +kernel
theorem d_prog_8_method_6_37 : decode prog_8_method_6_code 37 = .ok (.ifCond .eq 21, 3) := by decide +kernel
theorem d_prog_8_method_6_40 : decode prog_8_method_6_code 40 = .ok (.aload_n 0, 1) := by decide +kernel
theorem d_prog_8_method_6_41 : decode prog_8_method_6_code 41 = .ok (.getfield 28, 3) := by decide +kernel
theorem d_prog_8_method_6_44 : decode prog_8_method_6_code 44 = .ok (.aload_n 2, 1) := by decide +kernel
theorem d_prog_8_method_6_45 : decode prog_8_method_6_code 45 = .ok (.getfield 28, 3) := by decide +kernel
theorem d_prog_8_method_6_48 : decode prog_8_method_6_code 48 = .ok (.invokevirtual 40, 3) := by decide +kernel
theorem d_prog_8_method_6_51 : decode prog_8_method_6_code 51 = .ok (.ifCond .eq 7, 3) := by decide +kernel
theorem d_prog_8_method_6_54 : decode prog_8_method_6_code 54 = .ok (.iconst 1, 1) := by decide +kernel
theorem d_prog_8_method_6_55 : decode prog_8_method_6_code 55 = .ok (.goto 4, 3) := by decide +kernel
theorem pd__C_Ljava_lang_String_ : parseMethodDescriptor "(C)Ljava/lang/String;" = some ⟨[.char], some (.object "java/lang/String")⟩ := by decide +kernel
theorem pd__Ljava_lang_String_Ljava_lang_String_Ljava_lang_String_I_V : parseMethodDescriptor "(Ljava/lang/String;Ljava/lang/String;Ljava/lang/String;I)V" = some ⟨[(.object "java/lang/String"), (.object "java/lang/String"), (.object "java/lang/String"), .int], none⟩ := by decide +kernel
theorem pd___C_V : parseMethodDescriptor "([C)V" = some ⟨[(.array .char)], none⟩ := by decide +kernel
theorem pn_com_example_holdfast_holdfast_redis_LockKeysEqualsPinLaw : plainName "com/example/holdfast/holdfast/redis/LockKeysEqualsPinLaw" = true := by first | (simp [plainName, overriddenIn]; done) | decide +kernel
/-- a Latin-1 String with its two caches of the hash, and its bytes' class -/
def StrH (Z : State) (h : Heap) (a t : Addr) (cs : List Int32) : Prop :=
  Str Z h a t cs ∧ (∃ x, Fld Z h a "java/lang/String" "hash" "I" (.int x)) ∧ (∃ x, Fld Z h a "java/lang/String" "hashIsZero" "Z" (.int x)) ∧ Exa Z h t "[B"
theorem StrH.ext {Z : State} {h h' : Heap} {a t : Addr} {cs : List Int32} (F : StrH Z h a t cs) (E : Ext h h') : StrH Z h' a t cs := by
  obtain ⟨h1, ⟨x, h2⟩, ⟨z, h3⟩, h4⟩ := F; exact ⟨h1.ext E, ⟨x, h2.ext E⟩, ⟨z, h3.ext E⟩, h4.ext E⟩
theorem StrH.keep {Z : State} {h h' : Heap} {a t : Addr} {cs : List Int32} {ws : List Addr} (F : StrH Z h a t cs) (K : Keep h h' ws) (q : a ∉ ws) (r : t ∉ ws) : StrH Z h' a t cs := by
  obtain ⟨h1, ⟨x, h2⟩, ⟨z, h3⟩, h4⟩ := F; exact ⟨h1.keep K q r, ⟨x, h2.keep K q⟩, ⟨z, h3.keep K q⟩, h4.keep K⟩
theorem StrH.other {Z : State} {h h' : Heap} {a t x : Addr} {sl : Nat} {v : Value} {cs : List Int32} (F : StrH Z h a t cs) (W : Wr h h' x sl v) (q : a ≠ x) (r : t ≠ x) : StrH Z h' a t cs := by
  obtain ⟨h1, ⟨x, h2⟩, ⟨z, h3⟩, h4⟩ := F; exact ⟨h1.other W q r, ⟨x, h2.other W (Or.inl q)⟩, ⟨z, h3.other W (Or.inl q)⟩, h4.wr W⟩
theorem StrH.lt {Z : State} {h : Heap} {a t : Addr} {cs : List Int32} (F : StrH Z h a t cs) : a < h.size := F.1.lt
theorem StrH.lt' {Z : State} {h : Heap} {a t : Addr} {cs : List Int32} (F : StrH Z h a t cs) : t < h.size := F.1.lt'
theorem StrH.neObj {Z : State} {h : Heap} {a t x : Addr} {cs : List Int32} {C : String} {a0 : Array Value} {n : Nat} (F : StrH Z h a t cs) (E : Exa Z h x C) (w : (Cond.instantiable C n).before a0 Z = true) : t ≠ x := F.1.neObj E w
theorem look1 {n : Nat} (h : n = 1) : (#[((0 : Int), (26 : Int)), (1, 30)]).find? (fun q => q.1 == (n : Int)) = some (1, 30) := by subst h; rfl
theorem look2 {n : Nat} (h0 : n ≠ 0) (h1 : n ≠ 1) : (#[((0 : Int), (26 : Int)), (1, 30)]).find? (fun q => q.1 == (n : Int)) = none := by
  have a : ((0 : Int) == (n : Int)) = false := by simp; omega
  have b : ((1 : Int) == (n : Int)) = false := by simp; omega
  simp [a, b]
set_option maxRecDepth 65536 in
set_option maxHeartbeats 40000000 in
theorem ctCmp5 (l : Launch) (Z : State) (a0 : Array Value) (hw : ∀ d ∈ tables_1, d.before a0 Z = true) (b d : Addr) (kb kd : ClassId) (cs : List Int32) (h0 : Heap) (hN : cs.length ≤ 1000) (hbd : b ≠ d) (gz : Z.heap.size ≤ d) (A0 : Arv Z h0 b kb .char (Int32.ofNat cs.length) (cs.map .int) (.int 0)) (B0 : Arv Z h0 d kd .byte (Int32.ofNat cs.length) (lay lo (.int 0) cs 0) (.int 0)) :
    W.Ct wd Z a0 el l (⟨"java/lang/StringUTF16", "compress", "([CI[BII)I"⟩ : MethodName) jdk_52_method_21_code 7 (some .int) ({ frames := 0, cells := 0, slots := 0, locals := 0 } : Room) #[(.ref b), (.int (0 : Int32)), (.ref d), (.int (0 : Int32)), (.int (Int32.ofNat cs.length))] h0 [d] (fun v h S => v = some (.int (Int32.ofNat (cs.findIdx big))) ∧ Keep h0 h [d] ∧ Arv Z h d kd .byte (Int32.ofNat cs.length) (lay lo (.int 0) cs (cs.findIdx big)) (.int 0)) := by
  refine W.Ct.walk hwe (plainFor_of_name pn_java_lang_StringUTF16) ?_
  intro p e s m below meth c T hE0 X
  refine W.castG (show entryFrame m #[(.ref b), (.int (0 : Int32)), (.ref d), (.int (0 : Int32)), (.int (Int32.ofNat cs.length))] 7 = mkF m 0 #[.val (.ref b), .val (.int (0 : Int32)), .val (.ref d), .val (.int (0 : Int32)), .val (.int (Int32.ofNat cs.length)), .unset, .unset] [] from by first | (simp [entryFrame, mkF, argsToLocals, Value.category]; done) | rfl) ?_
  refine W.o_iconst X (0 : Int32) (pc' := 1) d_jdk_52_method_21_0 rfl rfl ?_
  refine W.o_istore X (pc' := 3) d_jdk_52_method_21_1 rfl (L' := #[.val (.ref b), .val (.int (0 : Int32)), .val (.ref d), .val (.int (0 : Int32)), .val (.int (Int32.ofNat cs.length)), .val (.int (0 : Int32)), .unset]) rfl ?_
  have loop : ∀ (k j : Nat), j + k = cs.length → (∀ i (hi : i < j) (hl : i < cs.length), big cs[i] = false) → ∀ (T : State) (h : Heap) (s6 : Slot), (s6 = .unset ∨ ∃ x, s6 = .val (.int x)) → W.St wd Z a0 el (⟨"java/lang/StringUTF16", "compress", "([CI[BII)I"⟩ : MethodName) jdk_52_method_21_code 7 (some .int) p l e ({ frames := 0, cells := 0, slots := 0, locals := 0 } : Room) s m #[(.ref b), (.int (0 : Int32)), (.ref d), (.int (0 : Int32)), (.int (Int32.ofNat cs.length))] below meth c T h [d] 0 0 → Keep h0 h [d] → Arv Z h d kd .byte (Int32.ofNat cs.length) (lay lo (.int 0) cs j) (.int 0) → W.Go wd Z el ({ frames := 0, cells := 0, slots := 0, locals := 0 } : Room).cells ({ frames := 0, cells := 0, slots := 0, locals := 0 } : Room).slots (fun v h S => v = some (.int (Int32.ofNat (cs.findIdx big))) ∧ Keep h0 h [d] ∧ Arv Z h d kd .byte (Int32.ofNat cs.length) (lay lo (.int 0) cs (cs.findIdx big)) (.int 0)) p e s below T (mkF m 3 #[.val (.ref b), .val (.int (Int32.ofNat j)), .val (.ref d), .val (.int (Int32.ofNat j)), .val (.int (Int32.ofNat cs.length)), .val (.int (Int32.ofNat j)), s6] []) := by
    intro k
    induction k with
    | zero =>
      intro j hj hp T h s6 h6 X K B
      have e : cs.findIdx big = j := by
        rw [show j = cs.length by omega]
        exact List.findIdx_eq_length.mpr fun x hx => by
          obtain ⟨i, hi, rfl⟩ := List.mem_iff_getElem.mp hx
          exact hp i (by omega) hi
      refine W.o_iload X (pc' := 5) d_jdk_52_method_21_3 rfl rfl ?_
      refine W.o_iload X (pc' := 7) d_jdk_52_method_21_5 rfl rfl ?_
      refine W.o_if_icmpge X (pt := 44) (pf := 10) d_jdk_52_method_21_7 ⟨by decide, by decide⟩ rfl (fun _ => ?_) (fun hc => absurd hc (o32_ge (by omega) (by omega)))
      refine W.o_iload X (pc' := 46) d_jdk_52_method_21_44 rfl rfl ?_
      refine W.o_ireturnI X d_jdk_52_method_21_46 rfl (by decide) (by decide) fun P hP => ⟨?_, K, ?_⟩
      · rw [e, show j = cs.length by omega]
      · rw [e]; exact B
    | succ k ih =>
      intro j hj hp T h s6 h6 X K B
      have hjl : j < cs.length := by omega
      have A := A0.keep K (ninS hbd nin0)
      rcases h6 with rfl | ⟨x6, rfl⟩
      all_goals
        refine W.o_iload X (pc' := 5) d_jdk_52_method_21_3 rfl rfl ?_
        refine W.o_iload X (pc' := 7) d_jdk_52_method_21_5 rfl rfl ?_
        refine W.o_if_icmpge X (pt := 44) (pf := 10) d_jdk_52_method_21_7 ⟨by decide, by decide⟩ rfl (fun hc => absurd (o32_lt hjl (by omega)).2 hc) (fun _ => ?_)
        refine W.o_aloadN X (pc' := 11) d_jdk_52_method_21_10 rfl rfl rfl ?_
        refine W.o_iloadN X (pc' := 12) d_jdk_52_method_21_11 rfl rfl ?_
        refine W.o_caload X (pc' := 13) d_jdk_52_method_21_12 rfl A (o32_lt hjl (by omega)) (v := .int cs[j]) (by rw [o32_clamp (by omega)]; exact getD_map hjl _) ?_
        refine W.o_istore X (pc' := 15) d_jdk_52_method_21_13 rfl (L' := #[.val (.ref b), .val (.int (Int32.ofNat j)), .val (.ref d), .val (.int (Int32.ofNat j)), .val (.int (Int32.ofNat cs.length)), .val (.int (Int32.ofNat j)), .val (.int cs[j])]) rfl ?_
        refine W.o_iload X (pc' := 17) d_jdk_52_method_21_15 rfl rfl ?_
        refine W.o_sipush X (255 : Int32) (pc' := 20) d_jdk_52_method_21_17 rfl rfl ?_
        refine W.o_if_icmple X (pt := 26) (pf := 23) d_jdk_52_method_21_20 ⟨by decide, by decide⟩ rfl (fun hc => ?_) (fun hc => ?_)
        · have hp' : ∀ i (hi : i < j + 1) (hl : i < cs.length), big cs[i] = false := fun i hi hl => by
            rcases Nat.lt_succ_iff_lt_or_eq.mp hi with q | q
            · exact hp i q hl
            · subst q; exact decide_eq_false hc
          refine W.o_aloadN X (pc' := 27) d_jdk_52_method_21_26 rfl rfl rfl ?_
          refine W.o_iloadN X (pc' := 28) d_jdk_52_method_21_27 rfl rfl ?_
          refine W.o_iload X (pc' := 30) d_jdk_52_method_21_28 rfl rfl ?_
          refine W.o_i2b X (pc' := 31) d_jdk_52_method_21_30 rfl ?_
          refine W.o_bastore X (pc' := 32) d_jdk_52_method_21_31 rfl B j (o32_clamp (by omega)) (o32_lt hjl (by omega)) (by rw [lay_len _ _ _ _ (by omega)]; exact hjl) gz (Or.inl rfl) (fun T h' w' B' X => ?_)
          rw [nar_bb] at B'
          have B2 : Arv Z h' d kd .byte (Int32.ofNat cs.length) (lay lo (.int 0) cs (j + 1)) (.int 0) := by rw [← lay_set lo (.int 0) cs j hjl]; exact B'
          refine W.o_iinc X (1 : Int32) (pc' := 35) d_jdk_52_method_21_32 rfl rfl rfl (L' := #[.val (.ref b), .val (.int ((Int32.ofNat j) + (1 : Int32))), .val (.ref d), .val (.int (Int32.ofNat j)), .val (.int (Int32.ofNat cs.length)), .val (.int (Int32.ofNat j)), .val (.int cs[j])]) rfl ?_
          refine W.o_iinc X (1 : Int32) (pc' := 38) d_jdk_52_method_21_35 rfl rfl rfl (L' := #[.val (.ref b), .val (.int ((Int32.ofNat j) + (1 : Int32))), .val (.ref d), .val (.int ((Int32.ofNat j) + (1 : Int32))), .val (.int (Int32.ofNat cs.length)), .val (.int (Int32.ofNat j)), .val (.int cs[j])]) rfl ?_
          refine W.o_iinc X (1 : Int32) (pc' := 41) d_jdk_52_method_21_38 rfl rfl rfl (L' := #[.val (.ref b), .val (.int ((Int32.ofNat j) + (1 : Int32))), .val (.ref d), .val (.int ((Int32.ofNat j) + (1 : Int32))), .val (.int (Int32.ofNat cs.length)), .val (.int ((Int32.ofNat j) + (1 : Int32))), .val (.int cs[j])]) rfl ?_
          refine W.o_goto X (pc' := 3) d_jdk_52_method_21_41 ⟨by decide, by decide⟩ ?_
          rw [o32_succ]
          exact ih (j + 1) (by omega) hp' T h' _ (Or.inr ⟨_, rfl⟩) X (K.wr w' (Or.inl (by simp))) B2
        · have e : cs.findIdx big = j := (List.findIdx_eq hjl).mpr ⟨decide_eq_true hc, fun i hi => hp i hi (by omega)⟩
          refine W.o_iload X (pc' := 25) d_jdk_52_method_21_23 rfl rfl ?_
          exact W.o_ireturnI X d_jdk_52_method_21_25 rfl (by decide) (by decide) fun P hP => ⟨by rw [e], K, by rw [e]; exact B⟩
  exact loop cs.length 0 (by omega) (fun i hi => absurd hi (Nat.not_lt_zero i)) _ h0 _ (Or.inl rfl) X (Keep.refl _ _) B0
set_option maxRecDepth 65536 in
set_option maxHeartbeats 40000000 in
theorem ctCmp3 (l : Launch) (Z : State) (a0 : Array Value) (hw : ∀ d ∈ tables_1, d.before a0 Z = true) (b : Addr) (kb : ClassId) (cs : List Int32) (h0 : Heap) (hN : cs.length ≤ 32) (hlat : ∀ c ∈ cs, ¬ c < 0 ∧ ¬ 255 < c) (A0 : Arv Z h0 b kb .char (Int32.ofNat cs.length) (cs.map .int) (.int 0)) :
    W.Ct wd Z a0 el l (⟨"java/lang/StringUTF16", "compress", "([CII)[B"⟩ : MethodName) jdk_52_method_16_code 6 (some (.array .byte)) ({ frames := 1, cells := 1, slots := 32, locals := 23 } : Room) #[(.ref b), (.int (0 : Int32)), (.int (Int32.ofNat cs.length))] h0 [] (fun v h S => ∃ d kd, v = some (.ref d) ∧ Keep h0 h [] ∧ h0.size ≤ d ∧ Arv Z h d kd .byte (Int32.ofNat cs.length) (cs.map lo) (.int 0) ∧ Exa Z h d "[B") := by
  refine W.Ct.walk hwe (plainFor_of_name pn_java_lang_StringUTF16) ?_
  intro p e s m below meth c T hE0 X
  refine W.castG (show entryFrame m #[(.ref b), (.int (0 : Int32)), (.int (Int32.ofNat cs.length))] 6 = mkF m 0 #[.val (.ref b), .val (.int (0 : Int32)), .val (.int (Int32.ofNat cs.length)), .unset, .unset, .unset] [] from by first | (simp [entryFrame, mkF, argsToLocals, Value.category]; done) | rfl) ?_
  have hfi : cs.findIdx big = cs.length := List.findIdx_eq_length.mpr fun x hx => decide_eq_false (hlat x hx).2
  refine W.o_iloadN X (pc' := 1) d_jdk_52_method_16_0 rfl rfl ?_
  refine W.o_newarrayE X (pc' := 3) d_jdk_52_method_16_1 rfl (hw _ (List.mem_of_getElem? (i := 14) rfl)) (o32_nn (by omega)) (cap := 32) (by rw [o32_clamp (by omega)]; exact hN) (by decide) (by decide) (by decide) (ad := "[B") (by decide) (fun T h1 d kd g1 z1 E1 V1 D1 X => ?_)
  have B1 : Arv Z h1 d kd .byte (Int32.ofNat cs.length) (lay lo (.int 0) cs 0) (.int 0) := by rw [lay_zero]; exact V1.pad (pad_rep [] (.int 0) cs.length)
  refine W.o_astoreN X (pc' := 4) d_jdk_52_method_16_3 rfl (L' := #[.val (.ref b), .val (.int (0 : Int32)), .val (.int (Int32.ofNat cs.length)), .val (.ref d), .unset, .unset]) rfl rfl ?_
  refine W.o_aloadN X (pc' := 5) d_jdk_52_method_16_4 rfl rfl rfl ?_
  refine W.o_iloadN X (pc' := 6) d_jdk_52_method_16_5 rfl rfl ?_
  refine W.o_aloadN X (pc' := 7) d_jdk_52_method_16_6 rfl rfl rfl ?_
  refine W.o_iconst X (0 : Int32) (pc' := 8) d_jdk_52_method_16_7 rfl rfl ?_
  refine W.o_iloadN X (pc' := 9) d_jdk_52_method_16_8 rfl rfl ?_
  have f1 := (A0.ext E1)
  refine W.o_static X (pc' := 12) d_jdk_52_method_16_9 rfl (z := (⟨"java/lang/StringUTF16", "compress", "([CI[BII)I"⟩ : MethodName)) (hw _ (List.mem_of_getElem? (i := 110) rfl)) (hw _ (List.mem_of_getElem? (i := 111) rfl)) (hw _ (List.mem_of_getElem? (i := 108) rfl)) (hw _ (List.mem_of_getElem? (i := 112) rfl)) (by decide) (ctCmp5 l Z a0 hw b d kb kd cs h1 (by omega) (Nat.ne_of_lt (Nat.lt_of_lt_of_le A0.lt (Nat.le_of_eq g1.symm))) z1 f1 B1) (allS ⟨D1.lt, (Or.inl rfl)⟩ all0) [(.ref b), (.int (0 : Int32)), (.ref d), (.int (0 : Int32)), (.int (Int32.ofNat cs.length))] rfl (rest := []) rfl pd___CI_BII_I rfl rfl (by decide) (by exact Nat.le_of_ble_eq_true rfl) (by decide) (by decide) (fun v2 T q3 => ?_)
  obtain ⟨h6, S4, ⟨rfl, K2, B2⟩, X5⟩ := q3
  have X := X5 [] all0
  rw [hfi, lay_all] at B2
  rw [hfi]
  show W.Go _ _ _ _ _ _ _ _ _ _ _ (mkF m 12 #[.val (.ref b), .val (.int (0 : Int32)), .val (.int (Int32.ofNat cs.length)), .val (.ref d), .unset, .unset] [(.int (Int32.ofNat cs.length))])
  refine W.o_istore X (pc' := 14) d_jdk_52_method_16_12 rfl (L' := #[.val (.ref b), .val (.int (0 : Int32)), .val (.int (Int32.ofNat cs.length)), .val (.ref d), .val (.int (Int32.ofNat cs.length)), .unset]) rfl ?_
  refine W.o_iload X (pc' := 16) d_jdk_52_method_16_14 rfl rfl ?_
  refine W.o_iloadN X (pc' := 17) d_jdk_52_method_16_16 rfl rfl ?_
  refine W.o_if_icmpeq X (pt := 57) (pf := 20) d_jdk_52_method_16_17 ⟨by decide, by decide⟩ rfl (fun _ => ?_) (fun hc => absurd rfl hc)
  refine W.o_aloadN X (pc' := 58) d_jdk_52_method_16_57 rfl rfl rfl ?_
  have f7 := (D1.keep K2)
  exact W.o_areturn X d_jdk_52_method_16_58 rfl rfl rfl (by decide) (by decide) fun P hP => ⟨d, kd, rfl, ((Keep.refl h0 []).ext E1).trans K2 (allS (Or.inr (Nat.le_of_eq g1.symm)) all0), Nat.le_of_eq g1.symm, B2, f7⟩
set_option maxRecDepth 65536 in
set_option maxHeartbeats 40000000 in
theorem ctCodL (l : Launch) (Z : State) (a0 : Array Value) (hw : ∀ d ∈ tables_1, d.before a0 Z = true) (d : Addr) (kd : ClassId) (z : Int32) (vs : List Value) (h0 : Heap) (B0 : Arv Z h0 d kd .byte z vs (.int 0)) :
    W.Ct wd Z a0 el l (⟨"java/lang/StringUTF16", "coderFromArrayLen", "([BI)B"⟩ : MethodName) jdk_52_method_15_code 2 (some .byte) ({ frames := 0, cells := 0, slots := 0, locals := 0 } : Room) #[(.ref d), (.int z)] h0 [] (fun v h S => v = some (.int 0) ∧ h = h0) := by
  refine W.Ct.walk hwe (plainFor_of_name pn_java_lang_StringUTF16) ?_
  intro p e s m below meth c T hE0 X
  refine W.castG (show entryFrame m #[(.ref d), (.int z)] 2 = mkF m 0 #[.val (.ref d), .val (.int z)] [] from by first | (simp [entryFrame, mkF, argsToLocals, Value.category]; done) | rfl) ?_
  refine W.o_iloadN X (pc' := 1) d_jdk_52_method_15_0 rfl rfl ?_
  refine W.o_aloadN X (pc' := 2) d_jdk_52_method_15_1 rfl rfl rfl ?_
  refine W.o_arraylength X (pc' := 3) d_jdk_52_method_15_2 rfl B0 ?_
  refine W.o_isub X (pc' := 4) d_jdk_52_method_15_3 rfl ?_
  refine W.o_bipush X (31 : Int32) (pc' := 6) d_jdk_52_method_15_4 rfl rfl ?_
  refine W.o_iushr X (pc' := 7) d_jdk_52_method_15_6 rfl ?_
  refine W.o_i2b X (pc' := 8) d_jdk_52_method_15_7 rfl ?_
  exact W.o_ireturn X d_jdk_52_method_15_8 rfl (Or.inr (Or.inl rfl)) (v := 0) (by rw [Int32.sub_self]; decide) (by decide) (by decide) fun P hP => ⟨rfl, rfl⟩
set_option maxRecDepth 65536 in
set_option maxHeartbeats 40000000 in
theorem ctNew4 (l : Launch) (Z : State) (a0 : Array Value) (hw : ∀ d ∈ tables_1, d.before a0 Z = true) (a b : Addr) (kb : ClassId) (cs : List Int32) (cz : Int32) (h0 : Heap) (hN : cs.length ≤ 32) (hn : cs.length ≠ 0) (hlat : ∀ c ∈ cs, ¬ c < 0 ∧ ¬ 255 < c) (C0 : Sta Z Z.heap "java/lang/String" "COMPACT_STRINGS" "Z" (.int cz)) (hcz : ¬ cz = 0) (gz : Z.heap.size ≤ a) (E0 : Exa Z h0 a "java/lang/String") (F0 : Fld Z h0 a "java/lang/String" "value" "[B" .null) (F1 : Fld Z h0 a "java/lang/String" "coder" "B" (.int (0 : Int32))) (A0 : Arv Z h0 b kb .char (Int32.ofNat cs.length) (cs.map .int) (.int 0)) (F2 : Fld Z h0 a "java/lang/String" "hash" "I" (.int (0 : Int32))) (F3 : Fld Z h0 a "java/lang/String" "hashIsZero" "Z" (.int (0 : Int32))) :
    W.Ct wd Z a0 el l (⟨"java/lang/String", "<init>", "([CIILjava/lang/Void;)V"⟩ : MethodName) jdk_42_method_149_code 6 none ({ frames := 2, cells := 1, slots := 32, locals := 40 } : Room) #[(.ref a), (.ref b), (.int (0 : Int32)), (.int (Int32.ofNat cs.length)), .null] h0 [a] (fun v h S => v = none ∧ Keep h0 h [a] ∧ ∃ t, h0.size ≤ t ∧ StrH Z h a t cs) := by
  refine W.Ct.walk hwe (plainFor_of_name pn_java_lang_String) ?_
  intro p e s m below meth c T hE0 X
  refine W.castG (show entryFrame m #[(.ref a), (.ref b), (.int (0 : Int32)), (.int (Int32.ofNat cs.length)), .null] 6 = mkF m 0 #[.val (.ref a), .val (.ref b), .val (.int (0 : Int32)), .val (.int (Int32.ofNat cs.length)), .val .null, .unset] [] from by first | (simp [entryFrame, mkF, argsToLocals, Value.category]; done) | rfl) ?_
  refine W.o_aloadN X (pc' := 1) d_jdk_42_method_149_0 rfl rfl rfl ?_
  refine W.o_initO X (pc' := 4) d_jdk_42_method_149_1 rfl (hw _ (List.mem_of_getElem? (i := 19) rfl)) (hw _ (List.mem_of_getElem? (i := 20) rfl)) (hw _ (List.mem_of_getElem? (i := 21) rfl)) rfl (by decide) (by decide) (fun T X => ?_)
  refine W.o_iloadN X (pc' := 5) d_jdk_42_method_149_4 rfl rfl ?_
  refine W.o_ifne X (pt := 27) (pf := 8) d_jdk_42_method_149_5 ⟨by decide, by decide⟩ rfl (fun _ => ?_) (fun hc => absurd hc (fun q => hn (o32_inj (n := 0) (by omega) (by omega) q)))
  refine W.o_getstatic X (pc' := 30) d_jdk_42_method_149_27 rfl (hw _ (List.mem_of_getElem? (i := 4) rfl)) Via.refl C0 (fun T X => ?_)
  refine W.o_ifeq X (pt := 58) (pf := 33) d_jdk_42_method_149_30 ⟨by decide, by decide⟩ rfl (fun hc => absurd hc hcz) (fun _ => ?_)
  refine W.o_aloadN X (pc' := 34) d_jdk_42_method_149_33 rfl rfl rfl ?_
  refine W.o_iloadN X (pc' := 35) d_jdk_42_method_149_34 rfl rfl ?_
  refine W.o_iloadN X (pc' := 36) d_jdk_42_method_149_35 rfl rfl ?_
  refine W.o_static X (pc' := 39) d_jdk_42_method_149_36 rfl (z := (⟨"java/lang/StringUTF16", "compress", "([CII)[B"⟩ : MethodName)) (hw _ (List.mem_of_getElem? (i := 106) rfl)) (hw _ (List.mem_of_getElem? (i := 107) rfl)) (hw _ (List.mem_of_getElem? (i := 108) rfl)) (hw _ (List.mem_of_getElem? (i := 109) rfl)) (by decide) (ctCmp3 l Z a0 hw b kb cs h0 hN hlat A0) (fun _ q => nomatch q) [(.ref b), (.int (0 : Int32)), (.int (Int32.ofNat cs.length))] rfl (rest := []) rfl pd___CII__B rfl rfl (by decide) (by exact Nat.le_of_ble_eq_true rfl) (by decide) (by decide) (fun v8 T q9 => ?_)
  obtain ⟨h12, S10, ⟨d, kd, rfl, K2, gd, B2, D2⟩, X11⟩ := q9
  have X := X11 [] all0
  show W.Go _ _ _ _ _ _ _ _ _ _ _ (mkF m 39 #[.val (.ref a), .val (.ref b), .val (.int (0 : Int32)), .val (.int (Int32.ofNat cs.length)), .val .null, .unset] [(.ref d)])
  refine W.o_astore X (pc' := 41) d_jdk_42_method_149_39 rfl (L' := #[.val (.ref a), .val (.ref b), .val (.int (0 : Int32)), .val (.int (Int32.ofNat cs.length)), .val .null, .val (.ref d)]) rfl rfl ?_
  refine W.o_aloadN X (pc' := 42) d_jdk_42_method_149_41 rfl rfl rfl ?_
  refine W.o_aload X (pc' := 44) d_jdk_42_method_149_42 rfl rfl rfl ?_
  refine W.o_iloadN X (pc' := 45) d_jdk_42_method_149_44 rfl rfl ?_
  refine W.o_static X (pc' := 48) d_jdk_42_method_149_45 rfl (z := (⟨"java/lang/StringUTF16", "coderFromArrayLen", "([BI)B"⟩ : MethodName)) (hw _ (List.mem_of_getElem? (i := 113) rfl)) (hw _ (List.mem_of_getElem? (i := 114) rfl)) (hw _ (List.mem_of_getElem? (i := 108) rfl)) (hw _ (List.mem_of_getElem? (i := 115) rfl)) (by decide) (ctCodL l Z a0 hw d kd (Int32.ofNat cs.length) _ h12 B2) (fun _ q => nomatch q) [(.ref d), (.int (Int32.ofNat cs.length))] rfl (rest := [(.ref a)]) rfl pd___BI_B rfl rfl (by decide) (by exact Nat.le_of_ble_eq_true rfl) (by decide) (by decide) (fun v13 T q14 => ?_)
  obtain ⟨h17, S15, ⟨rfl, eh⟩, X16⟩ := q14
  have eh := eh.symm
  subst eh
  have X := X16 [] all0
  show W.Go _ _ _ _ _ _ _ _ _ _ _ (mkF m 48 #[.val (.ref a), .val (.ref b), .val (.int (0 : Int32)), .val (.int (Int32.ofNat cs.length)), .val .null, .val (.ref d)] [(.int (0 : Int32)), (.ref a)])
  have f18 := (E0.keep K2)
  have f19 := (F1.keep K2 nin0)
  refine W.o_putfieldN X (pc' := 51) d_jdk_42_method_149_48 rfl (hw _ (List.mem_of_getElem? (i := 24) rfl)) Via.refl f19 f18 (Or.inr ⟨(hw _ (List.mem_of_getElem? (i := 25) rfl)), rfl, rfl⟩) (hw _ (List.mem_of_getElem? (i := 10) rfl)) (ty := .byte) (v' := (.int (0 : Int32))) (by decide) rfl rfl gz (Or.inl rfl) (fun T h20 w21 X => ?_)
  have f22 := f19.same w21
  refine W.o_aloadN X (pc' := 52) d_jdk_42_method_149_51 rfl rfl rfl ?_
  refine W.o_aload X (pc' := 54) d_jdk_42_method_149_52 rfl rfl rfl ?_
  have f23 := (f18.wr w21)
  have f24 := ((F0.keep K2 nin0).other w21 (Or.inr (slot_ne (Or.inr (hw _ (List.mem_of_getElem? (i := 23) rfl))) (Or.inr (hw _ (List.mem_of_getElem? (i := 25) rfl))) (by decide) (t := (.array .byte)) (t' := .byte) (by decide) (by decide))))
  refine W.o_putfield X (pc' := 57) d_jdk_42_method_149_54 rfl (hw _ (List.mem_of_getElem? (i := 22) rfl)) Via.refl f24 f23 (Or.inr ⟨(hw _ (List.mem_of_getElem? (i := 23) rfl)), rfl, rfl⟩) (hw _ (List.mem_of_getElem? (i := 10) rfl)) (ty := (.array .byte)) (by decide) rfl rfl gz (Or.inl rfl) (fun T h25 w26 X => ?_)
  have f27 := f24.same w26
  have f28 := (f23.wr w26)
  have f29 := (f22.other w26 (Or.inr (slot_ne (Or.inr (hw _ (List.mem_of_getElem? (i := 25) rfl))) (Or.inr (hw _ (List.mem_of_getElem? (i := 23) rfl))) (by decide) (t := .byte) (t' := (.array .byte)) (by decide) (by decide))))
  have f30 := ((B2.other w21 (Ne.symm (Nat.ne_of_lt (Nat.lt_of_lt_of_le E0.lt gd)))).other w26 (Ne.symm (Nat.ne_of_lt (Nat.lt_of_lt_of_le E0.lt gd))))
  have f31 := (((F2.keep K2 nin0).other w21 (Or.inr (slot_ne (Or.inl (hw _ (List.mem_of_getElem? (i := 68) rfl))) (Or.inr (hw _ (List.mem_of_getElem? (i := 25) rfl))) (by decide) (t := .int) (t' := .byte) (by decide) (by decide)))).other w26 (Or.inr (slot_ne (Or.inl (hw _ (List.mem_of_getElem? (i := 68) rfl))) (Or.inr (hw _ (List.mem_of_getElem? (i := 23) rfl))) (by decide) (t := .int) (t' := (.array .byte)) (by decide) (by decide))))
  have f32 := (((F3.keep K2 nin0).other w21 (Or.inr (slot_ne (Or.inl (hw _ (List.mem_of_getElem? (i := 70) rfl))) (Or.inr (hw _ (List.mem_of_getElem? (i := 25) rfl))) (by decide) (t := .boolean) (t' := .byte) (by decide) (by decide)))).other w26 (Or.inr (slot_ne (Or.inl (hw _ (List.mem_of_getElem? (i := 70) rfl))) (Or.inr (hw _ (List.mem_of_getElem? (i := 23) rfl))) (by decide) (t := .boolean) (t' := (.array .byte)) (by decide) (by decide))))
  have f33 := ((D2.wr w21).wr w26)
  exact W.o_return X d_jdk_42_method_149_57 (by decide) (by decide) fun P hP => ⟨rfl, ((((Keep.refl h0 [a]).trans K2 all0).wr w21 (Or.inl (by simp))).wr w26 (Or.inl (by simp))), d, gd, ⟨f28, f29, f27, ⟨kd, f30⟩, by omega, hlat⟩, ⟨_, f31⟩, ⟨_, f32⟩, f33⟩
set_option maxRecDepth 65536 in
set_option maxHeartbeats 40000000 in
theorem ctNew1 (l : Launch) (Z : State) (a0 : Array Value) (hw : ∀ d ∈ tables_1, d.before a0 Z = true) (a b : Addr) (kb : ClassId) (cs : List Int32) (cz : Int32) (h0 : Heap) (hN : cs.length ≤ 32) (hn : cs.length ≠ 0) (hlat : ∀ c ∈ cs, ¬ c < 0 ∧ ¬ 255 < c) (C0 : Sta Z Z.heap "java/lang/String" "COMPACT_STRINGS" "Z" (.int cz)) (hcz : ¬ cz = 0) (gz : Z.heap.size ≤ a) (E0 : Exa Z h0 a "java/lang/String") (F0 : Fld Z h0 a "java/lang/String" "value" "[B" .null) (F1 : Fld Z h0 a "java/lang/String" "coder" "B" (.int (0 : Int32))) (A0 : Arv Z h0 b kb .char (Int32.ofNat cs.length) (cs.map .int) (.int 0)) (F2 : Fld Z h0 a "java/lang/String" "hash" "I" (.int (0 : Int32))) (F3 : Fld Z h0 a "java/lang/String" "hashIsZero" "Z" (.int (0 : Int32))) :
    W.Ct wd Z a0 el l (⟨"java/lang/String", "<init>", "([C)V"⟩ : MethodName) jdk_42_method_3_code 2 none ({ frames := 3, cells := 1, slots := 32, locals := 57 } : Room) #[(.ref a), (.ref b)] h0 [a] (fun v h S => v = none ∧ Keep h0 h [a] ∧ ∃ t, h0.size ≤ t ∧ StrH Z h a t cs) := by
  refine W.Ct.walk hwe (plainFor_of_name pn_java_lang_String) ?_
  intro p e s m below meth c T hE0 X
  refine W.castG (show entryFrame m #[(.ref a), (.ref b)] 2 = mkF m 0 #[.val (.ref a), .val (.ref b)] [] from by first | (simp [entryFrame, mkF, argsToLocals, Value.category]; done) | rfl) ?_
  refine W.o_aloadN X (pc' := 1) d_jdk_42_method_3_0 rfl rfl rfl ?_
  refine W.o_aloadN X (pc' := 2) d_jdk_42_method_3_1 rfl rfl rfl ?_
  refine W.o_iconst X (0 : Int32) (pc' := 3) d_jdk_42_method_3_2 rfl rfl ?_
  refine W.o_aloadN X (pc' := 4) d_jdk_42_method_3_3 rfl rfl rfl ?_
  refine W.o_arraylength X (pc' := 5) d_jdk_42_method_3_4 rfl A0 ?_
  refine W.o_aconst_null X (pc' := 6) d_jdk_42_method_3_5 rfl ?_
  refine W.o_special X (pc' := 9) d_jdk_42_method_3_6 rfl (z := (⟨"java/lang/String", "<init>", "([CIILjava/lang/Void;)V"⟩ : MethodName)) rfl (hw _ (List.mem_of_getElem? (i := 103) rfl)) (hw _ (List.mem_of_getElem? (i := 104) rfl)) (hw _ (List.mem_of_getElem? (i := 2) rfl)) (hw _ (List.mem_of_getElem? (i := 105) rfl)) (by decide) (ctNew4 l Z a0 hw a b kb cs cz h0 hN hn hlat C0 hcz gz E0 F0 F1 A0 F2 F3) (allS ⟨E0.lt, (Or.inl rfl)⟩ all0) [(.ref b), (.int (0 : Int32)), (.int (Int32.ofNat cs.length)), .null] rfl (rest := []) rfl pd___CIILjava_lang_Void__V rfl rfl (by decide) (by exact Nat.le_of_ble_eq_true rfl) (by decide) (by decide) (fun v34 T q35 => ?_)
  obtain ⟨h38, S36, ⟨rfl, K2, t, gt, R2⟩, X37⟩ := q35
  have X := X37 [] all0
  show W.Go _ _ _ _ _ _ _ _ _ _ _ (mkF m 9 #[.val (.ref a), .val (.ref b)] [])
  exact W.o_return X d_jdk_42_method_3_9 (by decide) (by decide) fun P hP => ⟨rfl, K2, t, gt, R2⟩
set_option maxRecDepth 65536 in
set_option maxHeartbeats 40000000 in
theorem ctL1E (l : Launch) (Z : State) (a0 : Array Value) (hw : ∀ d ∈ tables_1, d.before a0 Z = true) (d e0 : Addr) (kd ke : ClassId) (cs ds : List Int32) (h0 : Heap) (h1 : cs.length ≤ 1000) (h2 : ds.length ≤ 1000) (hcs : ∀ c ∈ cs, ¬ c < 0 ∧ ¬ 255 < c) (hds : ∀ c ∈ ds, ¬ c < 0 ∧ ¬ 255 < c) (A0 : Arv Z h0 d kd .byte (Int32.ofNat cs.length) (cs.map lo) (.int 0)) (B0 : Arv Z h0 e0 ke .byte (Int32.ofNat ds.length) (ds.map lo) (.int 0)) :
    W.Ct wd Z a0 el l (⟨"java/lang/StringLatin1", "equals", "([B[B)Z"⟩ : MethodName) jdk_43_method_13_code 3 (some .boolean) ({ frames := 0, cells := 0, slots := 0, locals := 0 } : Room) #[(.ref d), (.ref e0)] h0 [] (fun v h S => v = some (.int (b2i (decide (cs = ds)))) ∧ h = h0) := by
  refine W.Ct.walk hwe (plainFor_of_name pn_java_lang_StringLatin1) ?_
  intro p e s m below meth c T hE0 X
  refine W.castG (show entryFrame m #[(.ref d), (.ref e0)] 3 = mkF m 0 #[.val (.ref d), .val (.ref e0), .unset] [] from by first | (simp [entryFrame, mkF, argsToLocals, Value.category]; done) | rfl) ?_
  refine W.o_aloadN X (pc' := 1) d_jdk_43_method_13_0 rfl rfl rfl ?_
  refine W.o_arraylength X (pc' := 2) d_jdk_43_method_13_1 rfl A0 ?_
  refine W.o_aloadN X (pc' := 3) d_jdk_43_method_13_2 rfl rfl rfl ?_
  refine W.o_arraylength X (pc' := 4) d_jdk_43_method_13_3 rfl B0 ?_
  refine W.o_if_icmpne X (pt := 34) (pf := 7) d_jdk_43_method_13_4 ⟨by decide, by decide⟩ rfl (fun hl => ?_) (fun hl => ?_)
  · refine W.o_iconst X (0 : Int32) (pc' := 35) d_jdk_43_method_13_34 rfl rfl ?_
    exact W.o_ireturn X d_jdk_43_method_13_35 rfl (Or.inl rfl) (v := 0) rfl (by decide) (by decide) fun P hP => ⟨by rw [decide_eq_false (fun q => hl (by rw [q]))]; rfl, rfl⟩
  · have hlen : cs.length = ds.length := o32_inj (by omega) (by omega) hl
    refine W.o_iconst X (0 : Int32) (pc' := 8) d_jdk_43_method_13_7 rfl rfl ?_
    refine W.o_istoreN X (pc' := 9) d_jdk_43_method_13_8 rfl (L' := #[.val (.ref d), .val (.ref e0), .val (.int (0 : Int32))]) rfl ?_
    have loop : ∀ (k j : Nat), j + k = cs.length → (∀ i (h1 : i < cs.length) (h2 : i < ds.length), i < j → cs[i] = ds[i]) → W.Go wd Z el ({ frames := 0, cells := 0, slots := 0, locals := 0 } : Room).cells ({ frames := 0, cells := 0, slots := 0, locals := 0 } : Room).slots (fun v h S => v = some (.int (b2i (decide (cs = ds)))) ∧ h = h0) p e s below T (mkF m 9 #[.val (.ref d), .val (.ref e0), .val (.int (Int32.ofNat j))] []) := by
      intro k
      induction k with
      | zero =>
        intro j hj hp
        have ej : j = cs.length := by omega
        subst ej
        have heq : cs = ds := List.ext_getElem hlen fun i h1 h2 => hp i h1 h2 h1
        refine W.o_iloadN X (pc' := 10) d_jdk_43_method_13_9 rfl rfl ?_
        refine W.o_aloadN X (pc' := 11) d_jdk_43_method_13_10 rfl rfl rfl ?_
        refine W.o_arraylength X (pc' := 12) d_jdk_43_method_13_11 rfl A0 ?_
        refine W.o_if_icmpge X (pt := 32) (pf := 15) d_jdk_43_method_13_12 ⟨by decide, by decide⟩ rfl (fun _ => ?_) (fun hc => absurd hc (o32_ge (Nat.le_refl _) (by omega)))
        refine W.o_iconst X (1 : Int32) (pc' := 33) d_jdk_43_method_13_32 rfl rfl ?_
        exact W.o_ireturn X d_jdk_43_method_13_33 rfl (Or.inl rfl) (v := 1) rfl (by decide) (by decide) fun P hP => ⟨by rw [decide_eq_true heq]; rfl, rfl⟩
      | succ k ih =>
        intro j hj hp
        have hj1 : j < cs.length := by omega
        have hj2 : j < ds.length := by omega
        refine W.o_iloadN X (pc' := 10) d_jdk_43_method_13_9 rfl rfl ?_
        refine W.o_aloadN X (pc' := 11) d_jdk_43_method_13_10 rfl rfl rfl ?_
        refine W.o_arraylength X (pc' := 12) d_jdk_43_method_13_11 rfl A0 ?_
        refine W.o_if_icmpge X (pt := 32) (pf := 15) d_jdk_43_method_13_12 ⟨by decide, by decide⟩ rfl (fun hc => absurd (o32_lt hj1 (by omega)).2 hc) (fun _ => ?_)
        refine W.o_aloadN X (pc' := 16) d_jdk_43_method_13_15 rfl rfl rfl ?_
        refine W.o_iloadN X (pc' := 17) d_jdk_43_method_13_16 rfl rfl ?_
        refine W.o_baload X (pc' := 18) d_jdk_43_method_13_17 rfl A0 (o32_lt hj1 (by omega)) (v := .int cs[j].toInt8.toInt32) (by rw [o32_clamp (by omega)]; exact getD_lo hj1 _) ?_
        refine W.o_aloadN X (pc' := 19) d_jdk_43_method_13_18 rfl rfl rfl ?_
        refine W.o_iloadN X (pc' := 20) d_jdk_43_method_13_19 rfl rfl ?_
        refine W.o_baload X (pc' := 21) d_jdk_43_method_13_20 rfl B0 (o32_lt hj2 (by omega)) (v := .int ds[j].toInt8.toInt32) (by rw [o32_clamp (by omega)]; exact getD_lo hj2 _) ?_
        refine W.o_if_icmpeq X (pt := 26) (pf := 24) d_jdk_43_method_13_21 ⟨by decide, by decide⟩ rfl (fun hc => ?_) (fun hc => ?_)
        · refine W.o_iinc X (1 : Int32) (pc' := 29) d_jdk_43_method_13_26 rfl rfl rfl (L' := #[.val (.ref d), .val (.ref e0), .val (.int ((Int32.ofNat j) + (1 : Int32)))]) rfl ?_
          refine W.o_goto X (pc' := 9) d_jdk_43_method_13_29 ⟨by decide, by decide⟩ ?_
          rw [o32_succ]
          exact ih (j + 1) (by omega) fun i h1 h2 hi => by
            rcases Nat.lt_succ_iff_lt_or_eq.mp hi with q | q
            · exact hp i h1 h2 q
            · subst q; exact lo_inj (hcs _ (List.getElem_mem h1)) (hds _ (List.getElem_mem h2)) hc
        · refine W.o_iconst X (0 : Int32) (pc' := 25) d_jdk_43_method_13_24 rfl rfl ?_
          exact W.o_ireturn X d_jdk_43_method_13_25 rfl (Or.inl rfl) (v := 0) rfl (by decide) (by decide) fun P hP => ⟨by rw [decide_eq_false (fun q => hc (by subst q; rfl))]; rfl, rfl⟩
    exact loop cs.length 0 (by omega) fun i h1 h2 hi => absurd hi (Nat.not_lt_zero i)
set_option maxRecDepth 65536 in
set_option maxHeartbeats 40000000 in
theorem ctSEq (l : Launch) (Z : State) (a0 : Array Value) (hw : ∀ d ∈ tables_1, d.before a0 Z = true) (a b t u : Addr) (cs ds : List Int32) (cz : Int32) (h0 : Heap) (C0 : Sta Z Z.heap "java/lang/String" "COMPACT_STRINGS" "Z" (.int cz)) (hcz : ¬ cz = 0) (hsame : a = b → cs = ds) (G0 : Str Z h0 a t cs) (G1 : Str Z h0 b u ds) :
    W.Ct wd Z a0 el l (⟨"java/lang/String", "equals", "(Ljava/lang/Object;)Z"⟩ : MethodName) jdk_42_method_66_code 3 (some .boolean) ({ frames := 1, cells := 0, slots := 0, locals := 14 } : Room) #[(.ref a), (.ref b)] h0 [] (fun v h S => v = some (.int (b2i (decide (cs = ds)))) ∧ h = h0) := by
  refine W.Ct.walk hwe (plainFor_of_name pn_java_lang_String) ?_
  intro p e s m below meth c T hE0 X
  refine W.castG (show entryFrame m #[(.ref a), (.ref b)] 3 = mkF m 0 #[.val (.ref a), .val (.ref b), .unset] [] from by first | (simp [entryFrame, mkF, argsToLocals, Value.category]; done) | rfl) ?_
  obtain ⟨E0, F0, F1, ⟨kt, A0⟩, n1, l1⟩ := G0
  obtain ⟨E1, F2, F3, ⟨ku, B0⟩, n2, l2⟩ := G1
  refine W.o_aloadN X (pc' := 1) d_jdk_42_method_66_0 rfl rfl rfl ?_
  refine W.o_aloadN X (pc' := 2) d_jdk_42_method_66_1 rfl rfl rfl ?_
  refine W.o_if_acmpne X (pt := 7) (pf := 5) d_jdk_42_method_66_2 rfl rfl ⟨by decide, by decide⟩ rfl (fun hab => ?_) (fun hab => ?_)
  · refine W.o_aloadN X (pc' := 8) d_jdk_42_method_66_7 rfl rfl rfl ?_
    refine W.o_instanceof_y X (pc' := 11) d_jdk_42_method_66_8 rfl (hw _ (List.mem_of_getElem? (i := 9) rfl)) (Ins.self E1) (fun T X => ?_)
    refine W.o_ifeq X (pt := 54) (pf := 14) d_jdk_42_method_66_11 ⟨by decide, by decide⟩ rfl (fun hc => absurd hc (by decide)) (fun _ => ?_)
    refine W.o_aloadN X (pc' := 15) d_jdk_42_method_66_14 rfl rfl rfl ?_
    refine W.o_checkcast X (pc' := 18) d_jdk_42_method_66_15 rfl (hw _ (List.mem_of_getElem? (i := 9) rfl)) (Ins.self E1) (fun T X => ?_)
    refine W.o_astoreN X (pc' := 19) d_jdk_42_method_66_18 rfl (L' := #[.val (.ref a), .val (.ref b), .val (.ref b)]) rfl rfl ?_
    refine W.o_getstatic X (pc' := 22) d_jdk_42_method_66_19 rfl (hw _ (List.mem_of_getElem? (i := 4) rfl)) Via.refl C0 (fun T X => ?_)
    refine W.o_ifeq X (pt := 36) (pf := 25) d_jdk_42_method_66_22 ⟨by decide, by decide⟩ rfl (fun hc => absurd hc hcz) (fun _ => ?_)
    refine W.o_aloadN X (pc' := 26) d_jdk_42_method_66_25 rfl rfl rfl ?_
    refine W.o_getfield X (pc' := 29) d_jdk_42_method_66_26 rfl (hw _ (List.mem_of_getElem? (i := 24) rfl)) Via.refl F0 (fun T X => ?_)
    refine W.o_aloadN X (pc' := 30) d_jdk_42_method_66_29 rfl rfl rfl ?_
    refine W.o_getfield X (pc' := 33) d_jdk_42_method_66_30 rfl (hw _ (List.mem_of_getElem? (i := 24) rfl)) Via.refl F2 (fun T X => ?_)
    refine W.o_if_icmpne X (pt := 54) (pf := 36) d_jdk_42_method_66_33 ⟨by decide, by decide⟩ rfl (fun hc => absurd rfl hc) (fun _ => ?_)
    refine W.o_aloadN X (pc' := 37) d_jdk_42_method_66_36 rfl rfl rfl ?_
    refine W.o_getfield X (pc' := 40) d_jdk_42_method_66_37 rfl (hw _ (List.mem_of_getElem? (i := 22) rfl)) Via.refl F1 (fun T X => ?_)
    refine W.o_aloadN X (pc' := 41) d_jdk_42_method_66_40 rfl rfl rfl ?_
    refine W.o_getfield X (pc' := 44) d_jdk_42_method_66_41 rfl (hw _ (List.mem_of_getElem? (i := 22) rfl)) Via.refl F3 (fun T X => ?_)
    refine W.o_static X (pc' := 47) d_jdk_42_method_66_44 rfl (z := (⟨"java/lang/StringLatin1", "equals", "([B[B)Z"⟩ : MethodName)) (hw _ (List.mem_of_getElem? (i := 93) rfl)) (hw _ (List.mem_of_getElem? (i := 94) rfl)) (hw _ (List.mem_of_getElem? (i := 7) rfl)) (hw _ (List.mem_of_getElem? (i := 95) rfl)) (by decide) (ctL1E l Z a0 hw t u kt ku cs ds h0 n1 n2 l1 l2 A0 B0) (fun _ q => nomatch q) [(.ref t), (.ref u)] rfl (rest := []) rfl pd___B_B_Z rfl rfl (by decide) (by exact Nat.le_of_ble_eq_true rfl) (by decide) (by decide) (fun v39 T q40 => ?_)
    obtain ⟨h43, S41, ⟨rfl, eh⟩, X42⟩ := q40
    have eh := eh.symm
    subst eh
    have X := X42 [] all0
    show W.Go _ _ _ _ _ _ _ _ _ _ _ (mkF m 47 #[.val (.ref a), .val (.ref b), .val (.ref b)] [(.int (b2i (decide (cs = ds))))])
    refine W.o_ifeq X (pt := 54) (pf := 50) d_jdk_42_method_66_47 ⟨by decide, by decide⟩ rfl (fun hc => ?_) (fun hc => ?_)
    · refine W.o_iconst X (0 : Int32) (pc' := 55) d_jdk_42_method_66_54 rfl rfl ?_
      exact W.o_ireturn X d_jdk_42_method_66_55 rfl (Or.inl rfl) (v := 0) rfl (by decide) (by decide) fun P hP => ⟨by rw [hc], rfl⟩
    · refine W.o_iconst X (1 : Int32) (pc' := 51) d_jdk_42_method_66_50 rfl rfl ?_
      refine W.o_goto X (pc' := 55) d_jdk_42_method_66_51 ⟨by decide, by decide⟩ ?_
      exact W.o_ireturn X d_jdk_42_method_66_55 rfl (Or.inl rfl) (v := 1) rfl (by decide) (by decide) fun P hP => ⟨by rw [b2i_n hc]; rfl, rfl⟩
  · refine W.o_iconst X (1 : Int32) (pc' := 6) d_jdk_42_method_66_5 rfl rfl ?_
    exact W.o_ireturn X d_jdk_42_method_66_6 rfl (Or.inl rfl) (v := 1) rfl (by decide) (by decide) fun P hP => ⟨by rw [decide_eq_true (hsame (Value.ref.inj hab))]; rfl, rfl⟩
set_option maxRecDepth 65536 in
set_option maxHeartbeats 40000000 in
theorem ctReq (l : Launch) (Z : State) (a0 : Array Value) (hw : ∀ d ∈ tables_1, d.before a0 Z = true) (a b : Addr) (h0 : Heap)  :
    W.Ct wd Z a0 el l (⟨"java/util/Objects", "requireNonNull", "(Ljava/lang/Object;Ljava/lang/String;)Ljava/lang/Object;"⟩ : MethodName) jdk_31_method_11_code 2 (some (.object "java/lang/Object")) ({ frames := 0, cells := 0, slots := 0, locals := 0 } : Room) #[(.ref a), (.ref b)] h0 [] (fun v h S => v = some (.ref a) ∧ h = h0) := by
  refine W.Ct.walk hwe (plainFor_of_name pn_java_util_Objects) ?_
  intro p e s m below meth c T hE0 X
  refine W.castG (show entryFrame m #[(.ref a), (.ref b)] 2 = mkF m 0 #[.val (.ref a), .val (.ref b)] [] from by first | (simp [entryFrame, mkF, argsToLocals, Value.category]; done) | rfl) ?_
  refine W.o_aloadN X (pc' := 1) d_jdk_31_method_11_0 rfl rfl rfl ?_
  refine W.o_ifnonnull_y X (pt := 13) d_jdk_31_method_11_1 ⟨by decide, by decide⟩ ?_
  refine W.o_aloadN X (pc' := 14) d_jdk_31_method_11_13 rfl rfl rfl ?_
  exact W.o_areturn X d_jdk_31_method_11_14 rfl rfl rfl (by decide) (by decide) fun P hP => ⟨rfl, rfl⟩
set_option maxRecDepth 65536 in
set_option maxHeartbeats 40000000 in
theorem ctIsL (l : Launch) (Z : State) (a0 : Array Value) (hw : ∀ d ∈ tables_1, d.before a0 Z = true) (a : Addr) (cz cd : Int32) (h0 : Heap) (C0 : Sta Z Z.heap "java/lang/String" "COMPACT_STRINGS" "Z" (.int cz)) (hcz : ¬ cz = 0) (F0 : Fld Z h0 a "java/lang/String" "coder" "B" (.int cd)) :
    W.Ct wd Z a0 el l (⟨"java/lang/String", "isLatin1", "()Z"⟩ : MethodName) jdk_42_method_154_code 1 (some .boolean) ({ frames := 0, cells := 0, slots := 0, locals := 0 } : Room) #[(.ref a)] h0 [] (fun v h S => v = some (.int (if cd = 0 then 1 else 0)) ∧ h = h0) := by
  refine W.Ct.walk hwe (plainFor_of_name pn_java_lang_String) ?_
  intro p e s m below meth c T hE0 X
  refine W.castG (show entryFrame m #[(.ref a)] 1 = mkF m 0 #[.val (.ref a)] [] from by first | (simp [entryFrame, mkF, argsToLocals, Value.category]; done) | rfl) ?_
  refine W.o_getstatic X (pc' := 3) d_jdk_42_method_154_0 rfl (hw _ (List.mem_of_getElem? (i := 4) rfl)) Via.refl C0 (fun T X => ?_)
  refine W.o_ifeq X (pt := 17) (pf := 6) d_jdk_42_method_154_3 ⟨by decide, by decide⟩ rfl (fun hc => absurd hc hcz) (fun _ => ?_)
  refine W.o_aloadN X (pc' := 7) d_jdk_42_method_154_6 rfl rfl rfl ?_
  refine W.o_getfield X (pc' := 10) d_jdk_42_method_154_7 rfl (hw _ (List.mem_of_getElem? (i := 24) rfl)) Via.refl F0 (fun T X => ?_)
  refine W.o_ifne X (pt := 17) (pf := 13) d_jdk_42_method_154_10 ⟨by decide, by decide⟩ rfl (fun hc => ?_) (fun hc => ?_)
  · refine W.o_iconst X (0 : Int32) (pc' := 18) d_jdk_42_method_154_17 rfl rfl ?_
    exact W.o_ireturn X d_jdk_42_method_154_18 rfl (Or.inl rfl) (v := 0) rfl (by decide) (by decide) fun P hP => ⟨by simp [hc], rfl⟩
  · refine W.o_iconst X (1 : Int32) (pc' := 14) d_jdk_42_method_154_13 rfl rfl ?_
    refine W.o_goto X (pc' := 18) d_jdk_42_method_154_14 ⟨by decide, by decide⟩ ?_
    exact W.o_ireturn X d_jdk_42_method_154_18 rfl (Or.inl rfl) (v := 1) rfl (by decide) (by decide) fun P hP => ⟨by simp [hc], rfl⟩
set_option maxRecDepth 65536 in
set_option maxHeartbeats 40000000 in
theorem ctSgn (l : Launch) (Z : State) (a0 : Array Value) (hw : ∀ d ∈ tables_1, d.before a0 Z = true) (d : Addr) (kd : ClassId) (cs : List Int32) (h0 : Heap) (hN : cs.length ≤ 1000) (A0 : Arv Z h0 d kd .byte (Int32.ofNat cs.length) (cs.map lo) (.int 0)) :
    W.Ct wd Z a0 el l (⟨"jdk/internal/util/ArraysSupport", "signedHashCode", "(I[BII)I"⟩ : MethodName) jdk_48_method_5_code 6 (some .int) ({ frames := 0, cells := 0, slots := 0, locals := 0 } : Room) #[(.int (0 : Int32)), (.ref d), (.int (0 : Int32)), (.int (Int32.ofNat cs.length))] h0 [] (fun v h S => (∃ x, v = some (.int x)) ∧ h = h0) := by
  refine W.Ct.walk hwe (plainFor_of_name pn_jdk_internal_util_ArraysSupport) ?_
  intro p e s m below meth c T hE0 X
  refine W.castG (show entryFrame m #[(.int (0 : Int32)), (.ref d), (.int (0 : Int32)), (.int (Int32.ofNat cs.length))] 6 = mkF m 0 #[.val (.int (0 : Int32)), .val (.ref d), .val (.int (0 : Int32)), .val (.int (Int32.ofNat cs.length)), .unset, .unset] [] from by first | (simp [entryFrame, mkF, argsToLocals, Value.category]; done) | rfl) ?_
  refine W.o_iloadN X (pc' := 1) d_jdk_48_method_5_0 rfl rfl ?_
  refine W.o_iloadN X (pc' := 2) d_jdk_48_method_5_1 rfl rfl ?_
  refine W.o_iadd X (pc' := 3) d_jdk_48_method_5_2 rfl ?_
  rw [Int32.zero_add]
  refine W.o_istore X (pc' := 5) d_jdk_48_method_5_3 rfl (L' := #[.val (.int (0 : Int32)), .val (.ref d), .val (.int (0 : Int32)), .val (.int (Int32.ofNat cs.length)), .val (.int (Int32.ofNat cs.length)), .unset]) rfl ?_
  refine W.o_iloadN X (pc' := 6) d_jdk_48_method_5_5 rfl rfl ?_
  refine W.o_istore X (pc' := 8) d_jdk_48_method_5_6 rfl (L' := #[.val (.int (0 : Int32)), .val (.ref d), .val (.int (0 : Int32)), .val (.int (Int32.ofNat cs.length)), .val (.int (Int32.ofNat cs.length)), .val (.int (0 : Int32))]) rfl ?_
  have loop : ∀ (k j : Nat), j + k = cs.length → ∀ (r : Int32), W.Go wd Z el ({ frames := 0, cells := 0, slots := 0, locals := 0 } : Room).cells ({ frames := 0, cells := 0, slots := 0, locals := 0 } : Room).slots (fun v h S => (∃ x, v = some (.int x)) ∧ h = h0) p e s below T (mkF m 8 #[.val (.int r), .val (.ref d), .val (.int (0 : Int32)), .val (.int (Int32.ofNat cs.length)), .val (.int (Int32.ofNat cs.length)), .val (.int (Int32.ofNat j))] []) := by
    intro k
    induction k with
    | zero =>
      intro j hj r
      refine W.o_iload X (pc' := 10) d_jdk_48_method_5_8 rfl rfl ?_
      refine W.o_iload X (pc' := 12) d_jdk_48_method_5_10 rfl rfl ?_
      refine W.o_if_icmpge X (pt := 35) (pf := 15) d_jdk_48_method_5_12 ⟨by decide, by decide⟩ rfl (fun _ => ?_) (fun hc => absurd hc (o32_ge (by omega) (by omega)))
      refine W.o_iloadN X (pc' := 36) d_jdk_48_method_5_35 rfl rfl ?_
      exact W.o_ireturnI X d_jdk_48_method_5_36 rfl (by decide) (by decide) fun P hP => ⟨⟨_, rfl⟩, rfl⟩
    | succ k ih =>
      intro j hj r
      have hjl : j < cs.length := by omega
      refine W.o_iload X (pc' := 10) d_jdk_48_method_5_8 rfl rfl ?_
      refine W.o_iload X (pc' := 12) d_jdk_48_method_5_10 rfl rfl ?_
      refine W.o_if_icmpge X (pt := 35) (pf := 15) d_jdk_48_method_5_12 ⟨by decide, by decide⟩ rfl (fun hc => absurd (o32_lt hjl (by omega)).2 hc) (fun _ => ?_)
      refine W.o_bipush X (31 : Int32) (pc' := 17) d_jdk_48_method_5_15 rfl rfl ?_
      refine W.o_iloadN X (pc' := 18) d_jdk_48_method_5_17 rfl rfl ?_
      refine W.o_imul X (pc' := 19) d_jdk_48_method_5_18 rfl ?_
      refine W.o_aloadN X (pc' := 20) d_jdk_48_method_5_19 rfl rfl rfl ?_
      refine W.o_iload X (pc' := 22) d_jdk_48_method_5_20 rfl rfl ?_
      refine W.o_baload X (pc' := 23) d_jdk_48_method_5_22 rfl A0 (o32_lt hjl (by omega)) (v := .int cs[j].toInt8.toInt32) (by rw [o32_clamp (by omega)]; exact getD_lo hjl _) ?_
      refine W.o_sipush X (255 : Int32) (pc' := 26) d_jdk_48_method_5_23 rfl rfl ?_
      refine W.o_iand X (pc' := 27) d_jdk_48_method_5_26 rfl ?_
      refine W.o_iadd X (pc' := 28) d_jdk_48_method_5_27 rfl ?_
      refine W.o_istoreN X (pc' := 29) d_jdk_48_method_5_28 rfl (L' := #[.val (.int (((31 : Int32) * r) + (cs[j].toInt8.toInt32 &&& (255 : Int32)))), .val (.ref d), .val (.int (0 : Int32)), .val (.int (Int32.ofNat cs.length)), .val (.int (Int32.ofNat cs.length)), .val (.int (Int32.ofNat j))]) rfl ?_
      refine W.o_iinc X (1 : Int32) (pc' := 32) d_jdk_48_method_5_29 rfl rfl rfl (L' := #[.val (.int (((31 : Int32) * r) + (cs[j].toInt8.toInt32 &&& (255 : Int32)))), .val (.ref d), .val (.int (0 : Int32)), .val (.int (Int32.ofNat cs.length)), .val (.int (Int32.ofNat cs.length)), .val (.int ((Int32.ofNat j) + (1 : Int32)))]) rfl ?_
      refine W.o_goto X (pc' := 8) d_jdk_48_method_5_32 ⟨by decide, by decide⟩ ?_
      rw [o32_succ]
      exact ih (j + 1) (by omega) _
  exact loop cs.length 0 (by omega) _
set_option maxRecDepth 65536 in
set_option maxHeartbeats 40000000 in
theorem ctVec (l : Launch) (Z : State) (a0 : Array Value) (hw : ∀ d ∈ tables_1, d.before a0 Z = true) (d : Addr) (kd : ClassId) (cs : List Int32) (h0 : Heap) (hN : cs.length ≤ 1000) (D0 : Exa Z h0 d "[B") (A0 : Arv Z h0 d kd .byte (Int32.ofNat cs.length) (cs.map lo) (.int 0)) :
    W.Ct wd Z a0 el l (⟨"jdk/internal/util/ArraysSupport", "vectorizedHashCode", "(Ljava/lang/Object;IIII)I"⟩ : MethodName) jdk_48_method_4_code 5 (some .int) ({ frames := 1, cells := 0, slots := 0, locals := 17 } : Room) #[(.ref d), (.int (0 : Int32)), (.int (Int32.ofNat cs.length)), (.int (0 : Int32)), (.int (4 : Int32))] h0 [] (fun v h S => (∃ x, v = some (.int x)) ∧ h = h0) := by
  refine W.Ct.walk hwe (plainFor_of_name pn_jdk_internal_util_ArraysSupport) ?_
  intro p e s m below meth c T hE0 X
  refine W.castG (show entryFrame m #[(.ref d), (.int (0 : Int32)), (.int (Int32.ofNat cs.length)), (.int (0 : Int32)), (.int (4 : Int32))] 5 = mkF m 0 #[.val (.ref d), .val (.int (0 : Int32)), .val (.int (Int32.ofNat cs.length)), .val (.int (0 : Int32)), .val (.int (4 : Int32))] [] from by first | (simp [entryFrame, mkF, argsToLocals, Value.category]; done) | rfl) ?_
  refine W.o_iload X (pc' := 2) d_jdk_48_method_4_0 rfl rfl ?_
  refine W.o_tswIn X (pc' := 44) d_jdk_48_method_4_2 (by decide) (off := 42) rfl ⟨by decide, by decide⟩ ?_
  refine W.o_iloadN X (pc' := 45) d_jdk_48_method_4_44 rfl rfl ?_
  refine W.o_aloadN X (pc' := 46) d_jdk_48_method_4_45 rfl rfl rfl ?_
  refine W.o_checkcast X (pc' := 49) d_jdk_48_method_4_46 rfl (hw _ (List.mem_of_getElem? (i := 120) rfl)) (Ins.self D0) (fun T X => ?_)
  refine W.o_iloadN X (pc' := 50) d_jdk_48_method_4_49 rfl rfl ?_
  refine W.o_iloadN X (pc' := 51) d_jdk_48_method_4_50 rfl rfl ?_
  refine W.o_static X (pc' := 54) d_jdk_48_method_4_51 rfl (z := (⟨"jdk/internal/util/ArraysSupport", "signedHashCode", "(I[BII)I"⟩ : MethodName)) (hw _ (List.mem_of_getElem? (i := 122) rfl)) (hw _ (List.mem_of_getElem? (i := 123) rfl)) (hw _ (List.mem_of_getElem? (i := 118) rfl)) (hw _ (List.mem_of_getElem? (i := 124) rfl)) (by decide) (ctSgn l Z a0 hw d kd cs h0 hN A0) (fun _ q => nomatch q) [(.int (0 : Int32)), (.ref d), (.int (0 : Int32)), (.int (Int32.ofNat cs.length))] rfl (rest := []) rfl pd__I_BII_I rfl rfl (by decide) (by exact Nat.le_of_ble_eq_true rfl) (by decide) (by decide) (fun v45 T q46 => ?_)
  obtain ⟨h49, S47, ⟨⟨x44, rfl⟩, eh⟩, X48⟩ := q46
  have eh := eh.symm
  subst eh
  have X := X48 [] all0
  show W.Go _ _ _ _ _ _ _ _ _ _ _ (mkF m 54 #[.val (.ref d), .val (.int (0 : Int32)), .val (.int (Int32.ofNat cs.length)), .val (.int (0 : Int32)), .val (.int (4 : Int32))] [(.int x44)])
  refine W.o_goto X (pc' := 157) d_jdk_48_method_4_54 ⟨by decide, by decide⟩ ?_
  exact W.o_ireturnI X d_jdk_48_method_4_157 rfl (by decide) (by decide) fun P hP => ⟨⟨_, rfl⟩, rfl⟩
set_option maxRecDepth 65536 in
set_option maxHeartbeats 40000000 in
theorem ctLH (l : Launch) (Z : State) (a0 : Array Value) (hw : ∀ d ∈ tables_1, d.before a0 Z = true) (d : Addr) (kd : ClassId) (cs : List Int32) (h0 : Heap) (hN : cs.length ≤ 1000) (hn : cs.length ≠ 0) (D0 : Exa Z h0 d "[B") (A0 : Arv Z h0 d kd .byte (Int32.ofNat cs.length) (cs.map lo) (.int 0)) :
    W.Ct wd Z a0 el l (⟨"java/lang/StringLatin1", "hashCode", "([B)I"⟩ : MethodName) jdk_43_method_21_code 1 (some .int) ({ frames := 2, cells := 0, slots := 0, locals := 33 } : Room) #[(.ref d)] h0 [] (fun v h S => (∃ x, v = some (.int x)) ∧ h = h0) := by
  refine W.Ct.walk hwe (plainFor_of_name pn_java_lang_StringLatin1) ?_
  intro p e s m below meth c T hE0 X
  refine W.castG (show entryFrame m #[(.ref d)] 1 = mkF m 0 #[.val (.ref d)] [] from by first | (simp [entryFrame, mkF, argsToLocals, Value.category]; done) | rfl) ?_
  refine W.o_aloadN X (pc' := 1) d_jdk_43_method_21_0 rfl rfl rfl ?_
  refine W.o_arraylength X (pc' := 2) d_jdk_43_method_21_1 rfl A0 ?_
  by_cases e1 : cs.length = 1
  · refine W.o_lookHit X (pc' := 32) d_jdk_43_method_21_2 (by decide) (by rw [o32_toInt _ (by omega)]; exact look1 e1) ⟨by decide, by decide⟩ ?_
    refine W.o_aloadN X (pc' := 33) d_jdk_43_method_21_32 rfl rfl rfl ?_
    refine W.o_iconst X (0 : Int32) (pc' := 34) d_jdk_43_method_21_33 rfl rfl ?_
    refine W.o_baload X (pc' := 35) d_jdk_43_method_21_34 rfl A0 (o32_lt (i := 0) (n := cs.length) (by omega) (by omega)) (v := .int (cs[0]'(by omega)).toInt8.toInt32) (getD_lo (j := 0) (by omega) _) ?_
    refine W.o_sipush X (255 : Int32) (pc' := 38) d_jdk_43_method_21_35 rfl rfl ?_
    refine W.o_iand X (pc' := 39) d_jdk_43_method_21_38 rfl ?_
    refine W.o_goto X (pc' := 51) d_jdk_43_method_21_39 ⟨by decide, by decide⟩ ?_
    exact W.o_ireturnI X d_jdk_43_method_21_51 rfl (by decide) (by decide) fun P hP => ⟨⟨_, rfl⟩, rfl⟩
  · refine W.o_lookMiss X (pc' := 42) d_jdk_43_method_21_2 (by decide) (by rw [o32_toInt _ (by omega)]; exact look2 hn e1) ⟨by decide, by decide⟩ ?_
    refine W.o_aloadN X (pc' := 43) d_jdk_43_method_21_42 rfl rfl rfl ?_
    refine W.o_iconst X (0 : Int32) (pc' := 44) d_jdk_43_method_21_43 rfl rfl ?_
    refine W.o_aloadN X (pc' := 45) d_jdk_43_method_21_44 rfl rfl rfl ?_
    refine W.o_arraylength X (pc' := 46) d_jdk_43_method_21_45 rfl A0 ?_
    refine W.o_iconst X (0 : Int32) (pc' := 47) d_jdk_43_method_21_46 rfl rfl ?_
    refine W.o_iconst X (4 : Int32) (pc' := 48) d_jdk_43_method_21_47 rfl rfl ?_
    refine W.o_static X (pc' := 51) d_jdk_43_method_21_48 rfl (z := (⟨"jdk/internal/util/ArraysSupport", "vectorizedHashCode", "(Ljava/lang/Object;IIII)I"⟩ : MethodName)) (hw _ (List.mem_of_getElem? (i := 116) rfl)) (hw _ (List.mem_of_getElem? (i := 117) rfl)) (hw _ (List.mem_of_getElem? (i := 118) rfl)) (hw _ (List.mem_of_getElem? (i := 119) rfl)) (by decide) (ctVec l Z a0 hw d kd cs h0 hN D0 A0) (fun _ q => nomatch q) [(.ref d), (.int (0 : Int32)), (.int (Int32.ofNat cs.length)), (.int (0 : Int32)), (.int (4 : Int32))] rfl (rest := []) rfl pd__Ljava_lang_Object_IIII_I rfl rfl (by decide) (by exact Nat.le_of_ble_eq_true rfl) (by decide) (by decide) (fun v51 T q52 => ?_)
    obtain ⟨h55, S53, ⟨⟨x50, rfl⟩, eh⟩, X54⟩ := q52
    have eh := eh.symm
    subst eh
    have X := X54 [] all0
    show W.Go _ _ _ _ _ _ _ _ _ _ _ (mkF m 51 #[.val (.ref d)] [(.int x50)])
    exact W.o_ireturnI X d_jdk_43_method_21_51 rfl (by decide) (by decide) fun P hP => ⟨⟨_, rfl⟩, rfl⟩
set_option maxRecDepth 65536 in
set_option maxHeartbeats 40000000 in
theorem ctSH (l : Launch) (Z : State) (a0 : Array Value) (hw : ∀ d ∈ tables_1, d.before a0 Z = true) (a t : Addr) (cs : List Int32) (cz : Int32) (h0 : Heap) (C0 : Sta Z Z.heap "java/lang/String" "COMPACT_STRINGS" "Z" (.int cz)) (hcz : ¬ cz = 0) (hn : cs.length ≠ 0) (gz : Z.heap.size ≤ a) (G0 : StrH Z h0 a t cs) :
    W.Ct wd Z a0 el l (⟨"java/lang/String", "hashCode", "()I"⟩ : MethodName) jdk_42_method_78_code 2 (some .int) ({ frames := 3, cells := 0, slots := 0, locals := 45 } : Room) #[(.ref a)] h0 [a] (fun v h S => (∃ x, v = some (.int x)) ∧ Keep h0 h [a] ∧ StrH Z h a t cs) := by
  refine W.Ct.walk hwe (plainFor_of_name pn_java_lang_String) ?_
  intro p e s m below meth c T hE0 X
  refine W.castG (show entryFrame m #[(.ref a)] 2 = mkF m 0 #[.val (.ref a), .unset] [] from by first | (simp [entryFrame, mkF, argsToLocals, Value.category]; done) | rfl) ?_
  obtain ⟨⟨E0, F0, F1, ⟨kt, A0⟩, n1, l1⟩, ⟨xh, F2⟩, ⟨xz, F3⟩, D0⟩ := G0
  refine W.o_aloadN X (pc' := 1) d_jdk_42_method_78_0 rfl rfl rfl ?_
  refine W.o_getfield X (pc' := 4) d_jdk_42_method_78_1 rfl (hw _ (List.mem_of_getElem? (i := 67) rfl)) Via.refl F2 (fun T X => ?_)
  refine W.o_istoreN X (pc' := 5) d_jdk_42_method_78_4 rfl (L' := #[.val (.ref a), .val (.int xh)]) rfl ?_
  refine W.o_iloadN X (pc' := 6) d_jdk_42_method_78_5 rfl rfl ?_
  refine W.o_ifne X (pt := 58) (pf := 9) d_jdk_42_method_78_6 ⟨by decide, by decide⟩ rfl (fun c1 => ?_) (fun c1 => ?_)
  · refine W.o_iloadN X (pc' := 59) d_jdk_42_method_78_58 rfl rfl ?_
    exact W.o_ireturnI X d_jdk_42_method_78_59 rfl (by decide) (by decide) fun P hP => ⟨⟨_, rfl⟩, (Keep.refl h0 [a]), ⟨E0, F0, F1, ⟨kt, A0⟩, n1, l1⟩, ⟨_, F2⟩, ⟨_, F3⟩, D0⟩
  · refine W.o_aloadN X (pc' := 10) d_jdk_42_method_78_9 rfl rfl rfl ?_
    refine W.o_getfield X (pc' := 13) d_jdk_42_method_78_10 rfl (hw _ (List.mem_of_getElem? (i := 69) rfl)) Via.refl F3 (fun T X => ?_)
    refine W.o_ifne X (pt := 58) (pf := 16) d_jdk_42_method_78_13 ⟨by decide, by decide⟩ rfl (fun c2 => ?_) (fun c2 => ?_)
    · refine W.o_iloadN X (pc' := 59) d_jdk_42_method_78_58 rfl rfl ?_
      exact W.o_ireturnI X d_jdk_42_method_78_59 rfl (by decide) (by decide) fun P hP => ⟨⟨_, rfl⟩, (Keep.refl h0 [a]), ⟨E0, F0, F1, ⟨kt, A0⟩, n1, l1⟩, ⟨_, F2⟩, ⟨_, F3⟩, D0⟩
    · refine W.o_aloadN X (pc' := 17) d_jdk_42_method_78_16 rfl rfl rfl ?_
      refine W.o_virtual X (pc' := 20) d_jdk_42_method_78_17 rfl (u := (⟨"java/lang/String", "isLatin1", "()Z"⟩ : MethodName)) (z := (⟨"java/lang/String", "isLatin1", "()Z"⟩ : MethodName)) (hw _ (List.mem_of_getElem? (i := 71) rfl)) (hw _ (List.mem_of_getElem? (i := 72) rfl)) (fun s' hZ => notFace_of_selects (args := #[]) (mvT hZ (hw _ (List.mem_of_getElem? (i := 74) rfl)))) (hw _ (List.mem_of_getElem? (i := 74) rfl)) (hw _ (List.mem_of_getElem? (i := 73) rfl)) (hw _ (List.mem_of_getElem? (i := 2) rfl)) (hw _ (List.mem_of_getElem? (i := 75) rfl)) (by decide) E0 (ctIsL l Z a0 hw a cz 0 h0 C0 hcz F0) (fun _ q => nomatch q) [] rfl (rest := []) rfl pd___Z rfl rfl (by decide) (by exact Nat.le_of_ble_eq_true rfl) (by decide) (by decide) (fun v56 T q57 => ?_)
      obtain ⟨h60, S58, ⟨rfl, eh⟩, X59⟩ := q57
      have eh := eh.symm
      subst eh
      have X := X59 [] all0
      show W.Go _ _ _ _ _ _ _ _ _ _ _ (mkF m 20 #[.val (.ref a), .val (.int xh)] [(.int (if (0 : Int32) = 0 then 1 else 0))])
      refine W.o_ifeq X (pt := 33) (pf := 23) d_jdk_42_method_78_20 ⟨by decide, by decide⟩ rfl (fun hc => absurd hc (by decide)) (fun _ => ?_)
      refine W.o_aloadN X (pc' := 24) d_jdk_42_method_78_23 rfl rfl rfl ?_
      refine W.o_getfield X (pc' := 27) d_jdk_42_method_78_24 rfl (hw _ (List.mem_of_getElem? (i := 22) rfl)) Via.refl F1 (fun T X => ?_)
      refine W.o_static X (pc' := 30) d_jdk_42_method_78_27 rfl (z := (⟨"java/lang/StringLatin1", "hashCode", "([B)I"⟩ : MethodName)) (hw _ (List.mem_of_getElem? (i := 76) rfl)) (hw _ (List.mem_of_getElem? (i := 77) rfl)) (hw _ (List.mem_of_getElem? (i := 7) rfl)) (hw _ (List.mem_of_getElem? (i := 78) rfl)) (by decide) (ctLH l Z a0 hw t kt cs h0 n1 hn D0 A0) (fun _ q => nomatch q) [(.ref t)] rfl (rest := []) rfl pd___B_I rfl rfl (by decide) (by exact Nat.le_of_ble_eq_true rfl) (by decide) (by decide) (fun v62 T q63 => ?_)
      obtain ⟨h66, S64, ⟨⟨x61, rfl⟩, eh⟩, X65⟩ := q63
      have eh := eh.symm
      subst eh
      have X := X65 [] all0
      show W.Go _ _ _ _ _ _ _ _ _ _ _ (mkF m 30 #[.val (.ref a), .val (.int xh)] [(.int x61)])
      refine W.o_goto X (pc' := 40) d_jdk_42_method_78_30 ⟨by decide, by decide⟩ ?_
      refine W.o_istoreN X (pc' := 41) d_jdk_42_method_78_40 rfl (L' := #[.val (.ref a), .val (.int x61)]) rfl ?_
      refine W.o_iloadN X (pc' := 42) d_jdk_42_method_78_41 rfl rfl ?_
      refine W.o_ifne X (pt := 53) (pf := 45) d_jdk_42_method_78_42 ⟨by decide, by decide⟩ rfl (fun c3 => ?_) (fun c3 => ?_)
      · refine W.o_aloadN X (pc' := 54) d_jdk_42_method_78_53 rfl rfl rfl ?_
        refine W.o_iloadN X (pc' := 55) d_jdk_42_method_78_54 rfl rfl ?_
        refine W.o_putfield X (pc' := 58) d_jdk_42_method_78_55 rfl (hw _ (List.mem_of_getElem? (i := 67) rfl)) Via.refl F2 E0 (Or.inl (hw _ (List.mem_of_getElem? (i := 68) rfl))) (hw _ (List.mem_of_getElem? (i := 10) rfl)) (ty := .int) (by decide) rfl rfl gz (Or.inl rfl) (fun T h67 w68 X => ?_)
        have f69 := F2.same w68
        refine W.o_iloadN X (pc' := 59) d_jdk_42_method_78_58 rfl rfl ?_
        have f70 := (E0.wr w68)
        have f71 := (F0.other w68 (Or.inr (slot_ne (Or.inr (hw _ (List.mem_of_getElem? (i := 25) rfl))) (Or.inl (hw _ (List.mem_of_getElem? (i := 68) rfl))) (by decide) (t := .byte) (t' := .int) (by decide) (by decide))))
        have f72 := (F1.other w68 (Or.inr (slot_ne (Or.inr (hw _ (List.mem_of_getElem? (i := 23) rfl))) (Or.inl (hw _ (List.mem_of_getElem? (i := 68) rfl))) (by decide) (t := (.array .byte)) (t' := .int) (by decide) (by decide))))
        have f73 := (A0.other w68 (ne_exa (D0.wr w68) f70 (by decide)))
        have f74 := (F3.other w68 (Or.inr (slot_ne (Or.inl (hw _ (List.mem_of_getElem? (i := 70) rfl))) (Or.inl (hw _ (List.mem_of_getElem? (i := 68) rfl))) (by decide) (t := .boolean) (t' := .int) (by decide) (by decide))))
        have f75 := (D0.wr w68)
        exact W.o_ireturnI X d_jdk_42_method_78_59 rfl (by decide) (by decide) fun P hP => ⟨⟨_, rfl⟩, ((Keep.refl h0 [a]).wr w68 (Or.inl (List.mem_of_getElem? (i := 0) rfl))), ⟨f70, f71, f72, ⟨kt, f73⟩, n1, l1⟩, ⟨_, f69⟩, ⟨_, f74⟩, f75⟩
      · refine W.o_aloadN X (pc' := 46) d_jdk_42_method_78_45 rfl rfl rfl ?_
        refine W.o_iconst X (1 : Int32) (pc' := 47) d_jdk_42_method_78_46 rfl rfl ?_
        refine W.o_putfieldN X (pc' := 50) d_jdk_42_method_78_47 rfl (hw _ (List.mem_of_getElem? (i := 69) rfl)) Via.refl F3 E0 (Or.inl (hw _ (List.mem_of_getElem? (i := 70) rfl))) (hw _ (List.mem_of_getElem? (i := 10) rfl)) (ty := .boolean) (v' := (.int (1 : Int32))) (by decide) rfl rfl gz (Or.inl rfl) (fun T h76 w77 X => ?_)
        have f78 := F3.same w77
        refine W.o_goto X (pc' := 58) d_jdk_42_method_78_50 ⟨by decide, by decide⟩ ?_
        refine W.o_iloadN X (pc' := 59) d_jdk_42_method_78_58 rfl rfl ?_
        have f79 := (E0.wr w77)
        have f80 := (F0.other w77 (Or.inr (slot_ne (Or.inr (hw _ (List.mem_of_getElem? (i := 25) rfl))) (Or.inl (hw _ (List.mem_of_getElem? (i := 70) rfl))) (by decide) (t := .byte) (t' := .boolean) (by decide) (by decide))))
        have f81 := (F1.other w77 (Or.inr (slot_ne (Or.inr (hw _ (List.mem_of_getElem? (i := 23) rfl))) (Or.inl (hw _ (List.mem_of_getElem? (i := 70) rfl))) (by decide) (t := (.array .byte)) (t' := .boolean) (by decide) (by decide))))
        have f82 := (A0.other w77 (ne_exa (D0.wr w77) f79 (by decide)))
        have f83 := (F2.other w77 (Or.inr (slot_ne (Or.inl (hw _ (List.mem_of_getElem? (i := 68) rfl))) (Or.inl (hw _ (List.mem_of_getElem? (i := 70) rfl))) (by decide) (t := .int) (t' := .boolean) (by decide) (by decide))))
        have f84 := (D0.wr w77)
        exact W.o_ireturnI X d_jdk_42_method_78_59 rfl (by decide) (by decide) fun P hP => ⟨⟨_, rfl⟩, ((Keep.refl h0 [a]).wr w77 (Or.inl (List.mem_of_getElem? (i := 0) rfl))), ⟨f79, f80, f81, ⟨kt, f82⟩, n1, l1⟩, ⟨_, f83⟩, ⟨_, f78⟩, f84⟩
set_option maxRecDepth 65536 in
set_option maxHeartbeats 40000000 in
theorem ctAH (l : Launch) (Z : State) (a0 : Array Value) (hw : ∀ d ∈ tables_1, d.before a0 Z = true) (ar s0 s1 s2 t0 t1 t2 : Addr) (ka : ClassId) (cs0 cs1 cs2 : List Int32) (cz : Int32) (h0 : Heap) (C0 : Sta Z Z.heap "java/lang/String" "COMPACT_STRINGS" "Z" (.int cz)) (hcz : ¬ cz = 0) (A0 : Arv Z h0 ar ka (.object "java/lang/Object") (3 : Int32) [(.ref s0), (.ref s1), (.ref s2)] .null) (n0 : cs0.length ≠ 0) (z0 : Z.heap.size ≤ s0) (G0 : StrH Z h0 s0 t0 cs0) (ra0 : ar ≠ s0) (n1 : cs1.length ≠ 0) (z1 : Z.heap.size ≤ s1) (G1 : StrH Z h0 s1 t1 cs1) (ra1 : ar ≠ s1) (n2 : cs2.length ≠ 0) (z2 : Z.heap.size ≤ s2) (G2 : StrH Z h0 s2 t2 cs2) (ra2 : ar ≠ s2) (r01 : s0 ≠ s1) (r02 : s0 ≠ s2) (r12 : s1 ≠ s2) :
    W.Ct wd Z a0 el l (⟨"java/util/Arrays", "hashCode", "([Ljava/lang/Object;)I"⟩ : MethodName) jdk_65_method_157_code 6 (some .int) ({ frames := 4, cells := 0, slots := 0, locals := 59 } : Room) #[(.ref ar)] h0 [s0, s1, s2] (fun v h S => (∃ x, v = some (.int x)) ∧ Keep h0 h [s0, s1, s2] ∧ StrH Z h s0 t0 cs0 ∧ StrH Z h s1 t1 cs1 ∧ StrH Z h s2 t2 cs2) := by
  refine W.Ct.walk hwe (plainFor_of_name pn_java_util_Arrays) ?_
  intro p e s m below meth c T hE0 X
  refine W.castG (show entryFrame m #[(.ref ar)] 6 = mkF m 0 #[.val (.ref ar), .unset, .unset, .unset, .unset, .unset] [] from by first | (simp [entryFrame, mkF, argsToLocals, Value.category]; done) | rfl) ?_
  refine W.o_aloadN X (pc' := 1) d_jdk_65_method_157_0 rfl rfl rfl ?_
  refine W.o_ifnonnull_y X (pt := 6) d_jdk_65_method_157_1 ⟨by decide, by decide⟩ ?_
  refine W.o_iconst X (1 : Int32) (pc' := 7) d_jdk_65_method_157_6 rfl rfl ?_
  refine W.o_istoreN X (pc' := 8) d_jdk_65_method_157_7 rfl (L' := #[.val (.ref ar), .val (.int (1 : Int32)), .unset, .unset, .unset, .unset]) rfl ?_
  refine W.o_aloadN X (pc' := 9) d_jdk_65_method_157_8 rfl rfl rfl ?_
  refine W.o_astoreN X (pc' := 10) d_jdk_65_method_157_9 rfl (L' := #[.val (.ref ar), .val (.int (1 : Int32)), .val (.ref ar), .unset, .unset, .unset]) rfl rfl ?_
  refine W.o_aloadN X (pc' := 11) d_jdk_65_method_157_10 rfl rfl rfl ?_
  refine W.o_arraylength X (pc' := 12) d_jdk_65_method_157_11 rfl A0 ?_
  refine W.o_istoreN X (pc' := 13) d_jdk_65_method_157_12 rfl (L' := #[.val (.ref ar), .val (.int (1 : Int32)), .val (.ref ar), .val (.int (3 : Int32)), .unset, .unset]) rfl ?_
  refine W.o_iconst X (0 : Int32) (pc' := 14) d_jdk_65_method_157_13 rfl rfl ?_
  refine W.o_istore X (pc' := 16) d_jdk_65_method_157_14 rfl (L' := #[.val (.ref ar), .val (.int (1 : Int32)), .val (.ref ar), .val (.int (3 : Int32)), .val (.int (0 : Int32)), .unset]) rfl ?_
  refine W.o_iload X (pc' := 18) d_jdk_65_method_157_16 rfl rfl ?_
  refine W.o_iloadN X (pc' := 19) d_jdk_65_method_157_18 rfl rfl ?_
  refine W.o_if_icmpge X (pt := 54) (pf := 22) d_jdk_65_method_157_19 ⟨by decide, by decide⟩ rfl (fun hc => absurd (by decide) hc) (fun _ => ?_)
  refine W.o_aloadN X (pc' := 23) d_jdk_65_method_157_22 rfl rfl rfl ?_
  refine W.o_iload X (pc' := 25) d_jdk_65_method_157_23 rfl rfl ?_
  refine W.o_aaload X (pc' := 26) d_jdk_65_method_157_25 rfl A0 ⟨by decide, by decide⟩ (v := .ref s0) rfl ?_
  refine W.o_astore X (pc' := 28) d_jdk_65_method_157_26 rfl (L' := #[.val (.ref ar), .val (.int (1 : Int32)), .val (.ref ar), .val (.int (3 : Int32)), .val (.int (0 : Int32)), .val (.ref s0)]) rfl rfl ?_
  refine W.o_bipush X (31 : Int32) (pc' := 30) d_jdk_65_method_157_28 rfl rfl ?_
  refine W.o_iloadN X (pc' := 31) d_jdk_65_method_157_30 rfl rfl ?_
  refine W.o_imul X (pc' := 32) d_jdk_65_method_157_31 rfl ?_
  refine W.o_aload X (pc' := 34) d_jdk_65_method_157_32 rfl rfl rfl ?_
  refine W.o_ifnonnull_y X (pt := 41) d_jdk_65_method_157_34 ⟨by decide, by decide⟩ ?_
  refine W.o_aload X (pc' := 43) d_jdk_65_method_157_41 rfl rfl rfl ?_
  refine W.o_virtual X (pc' := 46) d_jdk_65_method_157_43 rfl (u := (⟨"java/lang/Object", "hashCode", "()I"⟩ : MethodName)) (z := (⟨"java/lang/String", "hashCode", "()I"⟩ : MethodName)) (hw _ (List.mem_of_getElem? (i := 61) rfl)) (hw _ (List.mem_of_getElem? (i := 62) rfl)) (fun s' hZ => nf_top (args := #[]) (mvT hZ (hw _ (List.mem_of_getElem? (i := 97) rfl)))) (hw _ (List.mem_of_getElem? (i := 64) rfl)) (hw _ (List.mem_of_getElem? (i := 65) rfl)) (hw _ (List.mem_of_getElem? (i := 2) rfl)) (hw _ (List.mem_of_getElem? (i := 66) rfl)) (by decide) G0.1.1 (ctSH l Z a0 hw s0 t0 cs0 cz h0 C0 hcz n0 z0 G0) (allS ⟨G0.lt, (Or.inl rfl)⟩ all0) [] rfl (rest := [(.int ((31 : Int32) * (1 : Int32)))]) rfl pd___I rfl rfl (by decide) (by exact Nat.le_of_ble_eq_true rfl) (by decide) (by decide) (fun v88 T q89 => ?_)
  obtain ⟨h92, S90, ⟨⟨x85, rfl⟩, K86, G87⟩, X91⟩ := q89
  have X := X91 [] all0
  show W.Go _ _ _ _ _ _ _ _ _ _ _ (mkF m 46 #[.val (.ref ar), .val (.int (1 : Int32)), .val (.ref ar), .val (.int (3 : Int32)), .val (.int (0 : Int32)), .val (.ref s0)] [(.int x85), (.int ((31 : Int32) * (1 : Int32)))])
  refine W.o_iadd X (pc' := 47) d_jdk_65_method_157_46 rfl ?_
  refine W.o_istoreN X (pc' := 48) d_jdk_65_method_157_47 rfl (L' := #[.val (.ref ar), .val (.int (((31 : Int32) * (1 : Int32)) + x85)), .val (.ref ar), .val (.int (3 : Int32)), .val (.int (0 : Int32)), .val (.ref s0)]) rfl ?_
  refine W.o_iinc X (1 : Int32) (pc' := 51) d_jdk_65_method_157_48 rfl rfl rfl (L' := #[.val (.ref ar), .val (.int (((31 : Int32) * (1 : Int32)) + x85)), .val (.ref ar), .val (.int (3 : Int32)), .val (.int ((0 : Int32) + (1 : Int32))), .val (.ref s0)]) rfl ?_
  refine W.o_goto X (pc' := 16) d_jdk_65_method_157_51 ⟨by decide, by decide⟩ ?_
  refine W.o_iload X (pc' := 18) d_jdk_65_method_157_16 rfl rfl ?_
  refine W.o_iloadN X (pc' := 19) d_jdk_65_method_157_18 rfl rfl ?_
  refine W.o_if_icmpge X (pt := 54) (pf := 22) d_jdk_65_method_157_19 ⟨by decide, by decide⟩ rfl (fun hc => absurd (by decide) hc) (fun _ => ?_)
  refine W.o_aloadN X (pc' := 23) d_jdk_65_method_157_22 rfl rfl rfl ?_
  refine W.o_iload X (pc' := 25) d_jdk_65_method_157_23 rfl rfl ?_
  have f93 := (A0.keep K86 (ninS ra0 nin0))
  refine W.o_aaload X (pc' := 26) d_jdk_65_method_157_25 rfl f93 ⟨by decide, by decide⟩ (v := .ref s1) rfl ?_
  refine W.o_astore X (pc' := 28) d_jdk_65_method_157_26 rfl (L' := #[.val (.ref ar), .val (.int (((31 : Int32) * (1 : Int32)) + x85)), .val (.ref ar), .val (.int (3 : Int32)), .val (.int ((0 : Int32) + (1 : Int32))), .val (.ref s1)]) rfl rfl ?_
  refine W.o_bipush X (31 : Int32) (pc' := 30) d_jdk_65_method_157_28 rfl rfl ?_
  refine W.o_iloadN X (pc' := 31) d_jdk_65_method_157_30 rfl rfl ?_
  refine W.o_imul X (pc' := 32) d_jdk_65_method_157_31 rfl ?_
  refine W.o_aload X (pc' := 34) d_jdk_65_method_157_32 rfl rfl rfl ?_
  refine W.o_ifnonnull_y X (pt := 41) d_jdk_65_method_157_34 ⟨by decide, by decide⟩ ?_
  refine W.o_aload X (pc' := 43) d_jdk_65_method_157_41 rfl rfl rfl ?_
  have f97 := (G1.keep K86 (ninS (Ne.symm r01) nin0) (ninS (ne_exa G1.2.2.2 G0.1.1 (by decide)) nin0))
  have f100 := (G1.1.1.keep K86)
  refine W.o_virtual X (pc' := 46) d_jdk_65_method_157_43 rfl (u := (⟨"java/lang/Object", "hashCode", "()I"⟩ : MethodName)) (z := (⟨"java/lang/String", "hashCode", "()I"⟩ : MethodName)) (hw _ (List.mem_of_getElem? (i := 61) rfl)) (hw _ (List.mem_of_getElem? (i := 62) rfl)) (fun s' hZ => nf_top (args := #[]) (mvT hZ (hw _ (List.mem_of_getElem? (i := 97) rfl)))) (hw _ (List.mem_of_getElem? (i := 64) rfl)) (hw _ (List.mem_of_getElem? (i := 65) rfl)) (hw _ (List.mem_of_getElem? (i := 2) rfl)) (hw _ (List.mem_of_getElem? (i := 66) rfl)) (by decide) f100 (ctSH l Z a0 hw s1 t1 cs1 cz h92 C0 hcz n1 z1 f97) (allS ⟨(G1.keep K86 (ninS (Ne.symm r01) nin0) (ninS (ne_exa G1.2.2.2 G0.1.1 (by decide)) nin0)).lt, (Or.inl rfl)⟩ all0) [] rfl (rest := [(.int ((31 : Int32) * (((31 : Int32) * (1 : Int32)) + x85)))]) rfl pd___I rfl rfl (by decide) (by exact Nat.le_of_ble_eq_true rfl) (by decide) (by decide) (fun v98 T q99 => ?_)
  obtain ⟨h103, S101, ⟨⟨x94, rfl⟩, K95, G96⟩, X102⟩ := q99
  have X := X102 [] all0
  show W.Go _ _ _ _ _ _ _ _ _ _ _ (mkF m 46 #[.val (.ref ar), .val (.int (((31 : Int32) * (1 : Int32)) + x85)), .val (.ref ar), .val (.int (3 : Int32)), .val (.int ((0 : Int32) + (1 : Int32))), .val (.ref s1)] [(.int x94), (.int ((31 : Int32) * (((31 : Int32) * (1 : Int32)) + x85)))])
  refine W.o_iadd X (pc' := 47) d_jdk_65_method_157_46 rfl ?_
  refine W.o_istoreN X (pc' := 48) d_jdk_65_method_157_47 rfl (L' := #[.val (.ref ar), .val (.int (((31 : Int32) * (((31 : Int32) * (1 : Int32)) + x85)) + x94)), .val (.ref ar), .val (.int (3 : Int32)), .val (.int ((0 : Int32) + (1 : Int32))), .val (.ref s1)]) rfl ?_
  refine W.o_iinc X (1 : Int32) (pc' := 51) d_jdk_65_method_157_48 rfl rfl rfl (L' := #[.val (.ref ar), .val (.int (((31 : Int32) * (((31 : Int32) * (1 : Int32)) + x85)) + x94)), .val (.ref ar), .val (.int (3 : Int32)), .val (.int (((0 : Int32) + (1 : Int32)) + (1 : Int32))), .val (.ref s1)]) rfl ?_
  refine W.o_goto X (pc' := 16) d_jdk_65_method_157_51 ⟨by decide, by decide⟩ ?_
  refine W.o_iload X (pc' := 18) d_jdk_65_method_157_16 rfl rfl ?_
  refine W.o_iloadN X (pc' := 19) d_jdk_65_method_157_18 rfl rfl ?_
  refine W.o_if_icmpge X (pt := 54) (pf := 22) d_jdk_65_method_157_19 ⟨by decide, by decide⟩ rfl (fun hc => absurd (by decide) hc) (fun _ => ?_)
  refine W.o_aloadN X (pc' := 23) d_jdk_65_method_157_22 rfl rfl rfl ?_
  refine W.o_iload X (pc' := 25) d_jdk_65_method_157_23 rfl rfl ?_
  have f104 := (f93.keep K95 (ninS ra1 nin0))
  refine W.o_aaload X (pc' := 26) d_jdk_65_method_157_25 rfl f104 ⟨by decide, by decide⟩ (v := .ref s2) rfl ?_
  refine W.o_astore X (pc' := 28) d_jdk_65_method_157_26 rfl (L' := #[.val (.ref ar), .val (.int (((31 : Int32) * (((31 : Int32) * (1 : Int32)) + x85)) + x94)), .val (.ref ar), .val (.int (3 : Int32)), .val (.int (((0 : Int32) + (1 : Int32)) + (1 : Int32))), .val (.ref s2)]) rfl rfl ?_
  refine W.o_bipush X (31 : Int32) (pc' := 30) d_jdk_65_method_157_28 rfl rfl ?_
  refine W.o_iloadN X (pc' := 31) d_jdk_65_method_157_30 rfl rfl ?_
  refine W.o_imul X (pc' := 32) d_jdk_65_method_157_31 rfl ?_
  refine W.o_aload X (pc' := 34) d_jdk_65_method_157_32 rfl rfl rfl ?_
  refine W.o_ifnonnull_y X (pt := 41) d_jdk_65_method_157_34 ⟨by decide, by decide⟩ ?_
  refine W.o_aload X (pc' := 43) d_jdk_65_method_157_41 rfl rfl rfl ?_
  have f108 := ((G2.keep K86 (ninS (Ne.symm r02) nin0) (ninS (ne_exa G2.2.2.2 G0.1.1 (by decide)) nin0)).keep K95 (ninS (Ne.symm r12) nin0) (ninS (ne_exa (G2.2.2.2.keep K86) f100 (by decide)) nin0))
  have f111 := ((G2.1.1.keep K86).keep K95)
  refine W.o_virtual X (pc' := 46) d_jdk_65_method_157_43 rfl (u := (⟨"java/lang/Object", "hashCode", "()I"⟩ : MethodName)) (z := (⟨"java/lang/String", "hashCode", "()I"⟩ : MethodName)) (hw _ (List.mem_of_getElem? (i := 61) rfl)) (hw _ (List.mem_of_getElem? (i := 62) rfl)) (fun s' hZ => nf_top (args := #[]) (mvT hZ (hw _ (List.mem_of_getElem? (i := 97) rfl)))) (hw _ (List.mem_of_getElem? (i := 64) rfl)) (hw _ (List.mem_of_getElem? (i := 65) rfl)) (hw _ (List.mem_of_getElem? (i := 2) rfl)) (hw _ (List.mem_of_getElem? (i := 66) rfl)) (by decide) f111 (ctSH l Z a0 hw s2 t2 cs2 cz h103 C0 hcz n2 z2 f108) (allS ⟨((G2.keep K86 (ninS (Ne.symm r02) nin0) (ninS (ne_exa G2.2.2.2 G0.1.1 (by decide)) nin0)).keep K95 (ninS (Ne.symm r12) nin0) (ninS (ne_exa (G2.2.2.2.keep K86) f100 (by decide)) nin0)).lt, (Or.inl rfl)⟩ all0) [] rfl (rest := [(.int ((31 : Int32) * (((31 : Int32) * (((31 : Int32) * (1 : Int32)) + x85)) + x94)))]) rfl pd___I rfl rfl (by decide) (by exact Nat.le_of_ble_eq_true rfl) (by decide) (by decide) (fun v109 T q110 => ?_)
  obtain ⟨h114, S112, ⟨⟨x105, rfl⟩, K106, G107⟩, X113⟩ := q110
  have X := X113 [] all0
  show W.Go _ _ _ _ _ _ _ _ _ _ _ (mkF m 46 #[.val (.ref ar), .val (.int (((31 : Int32) * (((31 : Int32) * (1 : Int32)) + x85)) + x94)), .val (.ref ar), .val (.int (3 : Int32)), .val (.int (((0 : Int32) + (1 : Int32)) + (1 : Int32))), .val (.ref s2)] [(.int x105), (.int ((31 : Int32) * (((31 : Int32) * (((31 : Int32) * (1 : Int32)) + x85)) + x94)))])
  refine W.o_iadd X (pc' := 47) d_jdk_65_method_157_46 rfl ?_
  refine W.o_istoreN X (pc' := 48) d_jdk_65_method_157_47 rfl (L' := #[.val (.ref ar), .val (.int (((31 : Int32) * (((31 : Int32) * (((31 : Int32) * (1 : Int32)) + x85)) + x94)) + x105)), .val (.ref ar), .val (.int (3 : Int32)), .val (.int (((0 : Int32) + (1 : Int32)) + (1 : Int32))), .val (.ref s2)]) rfl ?_
  refine W.o_iinc X (1 : Int32) (pc' := 51) d_jdk_65_method_157_48 rfl rfl rfl (L' := #[.val (.ref ar), .val (.int (((31 : Int32) * (((31 : Int32) * (((31 : Int32) * (1 : Int32)) + x85)) + x94)) + x105)), .val (.ref ar), .val (.int (3 : Int32)), .val (.int ((((0 : Int32) + (1 : Int32)) + (1 : Int32)) + (1 : Int32))), .val (.ref s2)]) rfl ?_
  refine W.o_goto X (pc' := 16) d_jdk_65_method_157_51 ⟨by decide, by decide⟩ ?_
  refine W.o_iload X (pc' := 18) d_jdk_65_method_157_16 rfl rfl ?_
  refine W.o_iloadN X (pc' := 19) d_jdk_65_method_157_18 rfl rfl ?_
  refine W.o_if_icmpge X (pt := 54) (pf := 22) d_jdk_65_method_157_19 ⟨by decide, by decide⟩ rfl (fun _ => ?_) (fun hc => absurd hc (by decide))
  refine W.o_iloadN X (pc' := 55) d_jdk_65_method_157_54 rfl rfl ?_
  have f115 := ((G87.keep K95 (ninS r01 nin0) (ninS (ne_exa (G0.2.2.2.keep K86) f100 (by decide)) nin0)).keep K106 (ninS r02 nin0) (ninS (ne_exa ((G0.2.2.2.keep K86).keep K95) f111 (by decide)) nin0))
  have f116 := (G96.keep K106 (ninS r12 nin0) (ninS (ne_exa ((G1.2.2.2.keep K86).keep K95) f111 (by decide)) nin0))
  exact W.o_ireturnI X d_jdk_65_method_157_55 rfl (by decide) (by decide) fun P hP => ⟨⟨_, rfl⟩, ((((Keep.refl h0 [s0, s1, s2]).trans K86 (allS (Or.inl (List.mem_of_getElem? (i := 0) rfl)) all0)).trans K95 (allS (Or.inl (List.mem_of_getElem? (i := 1) rfl)) all0)).trans K106 (allS (Or.inl (List.mem_of_getElem? (i := 2) rfl)) all0)), f115, f116, G107⟩
set_option maxRecDepth 65536 in
set_option maxHeartbeats 40000000 in
theorem ctOH (l : Launch) (Z : State) (a0 : Array Value) (hw : ∀ d ∈ tables_1, d.before a0 Z = true) (ar s0 s1 s2 t0 t1 t2 : Addr) (ka : ClassId) (cs0 cs1 cs2 : List Int32) (cz : Int32) (h0 : Heap) (C0 : Sta Z Z.heap "java/lang/String" "COMPACT_STRINGS" "Z" (.int cz)) (hcz : ¬ cz = 0) (A0 : Arv Z h0 ar ka (.object "java/lang/Object") (3 : Int32) [(.ref s0), (.ref s1), (.ref s2)] .null) (n0 : cs0.length ≠ 0) (z0 : Z.heap.size ≤ s0) (G0 : StrH Z h0 s0 t0 cs0) (ra0 : ar ≠ s0) (n1 : cs1.length ≠ 0) (z1 : Z.heap.size ≤ s1) (G1 : StrH Z h0 s1 t1 cs1) (ra1 : ar ≠ s1) (n2 : cs2.length ≠ 0) (z2 : Z.heap.size ≤ s2) (G2 : StrH Z h0 s2 t2 cs2) (ra2 : ar ≠ s2) (r01 : s0 ≠ s1) (r02 : s0 ≠ s2) (r12 : s1 ≠ s2) :
    W.Ct wd Z a0 el l (⟨"java/util/Objects", "hash", "([Ljava/lang/Object;)I"⟩ : MethodName) jdk_31_method_5_code 1 (some .int) ({ frames := 5, cells := 0, slots := 0, locals := 76 } : Room) #[(.ref ar)] h0 [s0, s1, s2] (fun v h S => (∃ x, v = some (.int x)) ∧ Keep h0 h [s0, s1, s2] ∧ StrH Z h s0 t0 cs0 ∧ StrH Z h s1 t1 cs1 ∧ StrH Z h s2 t2 cs2) := by
  refine W.Ct.walk hwe (plainFor_of_name pn_java_util_Objects) ?_
  intro p e s m below meth c T hE0 X
  refine W.castG (show entryFrame m #[(.ref ar)] 1 = mkF m 0 #[.val (.ref ar)] [] from by first | (simp [entryFrame, mkF, argsToLocals, Value.category]; done) | rfl) ?_
  refine W.o_aloadN X (pc' := 1) d_jdk_31_method_5_0 rfl rfl rfl ?_
  refine W.o_static X (pc' := 4) d_jdk_31_method_5_1 rfl (z := (⟨"java/util/Arrays", "hashCode", "([Ljava/lang/Object;)I"⟩ : MethodName)) (hw _ (List.mem_of_getElem? (i := 57) rfl)) (hw _ (List.mem_of_getElem? (i := 58) rfl)) (hw _ (List.mem_of_getElem? (i := 59) rfl)) (hw _ (List.mem_of_getElem? (i := 60) rfl)) (by decide) (ctAH l Z a0 hw ar s0 s1 s2 t0 t1 t2 ka cs0 cs1 cs2 cz h0 C0 hcz A0 n0 z0 G0 ra0 n1 z1 G1 ra1 n2 z2 G2 ra2 r01 r02 r12) (allS ⟨G0.lt, (Or.inl rfl)⟩ (allS ⟨G1.lt, (Or.inl rfl)⟩ (allS ⟨G2.lt, (Or.inl rfl)⟩ all0))) [(.ref ar)] rfl (rest := []) rfl pd___Ljava_lang_Object__I rfl rfl (by decide) (by exact Nat.le_of_ble_eq_true rfl) (by decide) (by decide) (fun v117 T q118 => ?_)
  obtain ⟨h121, S119, ⟨⟨xx, rfl⟩, K1, G3, G4, G5⟩, X120⟩ := q118
  have X := X120 [] all0
  show W.Go _ _ _ _ _ _ _ _ _ _ _ (mkF m 4 #[.val (.ref ar)] [(.int xx)])
  exact W.o_ireturnI X d_jdk_31_method_5_4 rfl (by decide) (by decide) fun P hP => ⟨⟨_, rfl⟩, K1, G3, G4, G5⟩
set_option maxRecDepth 65536 in
set_option maxHeartbeats 40000000 in
theorem ctCan (l : Launch) (Z : State) (a0 : Array Value) (hw : ∀ d ∈ tables_1, d.before a0 Z = true) (ch : Int32) (h0 : Heap) (hch : ¬ 255 < ch) :
    W.Ct wd Z a0 el l (⟨"java/lang/StringLatin1", "canEncode", "(C)Z"⟩ : MethodName) jdk_43_method_3_code 1 (some .boolean) ({ frames := 0, cells := 0, slots := 0, locals := 0 } : Room) #[(.int ch)] h0 [] (fun v h S => v = some (.int 1) ∧ h = h0) := by
  refine W.Ct.walk hwe (plainFor_of_name pn_java_lang_StringLatin1) ?_
  intro p e s m below meth c T hE0 X
  refine W.castG (show entryFrame m #[(.int ch)] 1 = mkF m 0 #[.val (.int ch)] [] from by first | (simp [entryFrame, mkF, argsToLocals, Value.category]; done) | rfl) ?_
  refine W.o_iloadN X (pc' := 1) d_jdk_43_method_3_0 rfl rfl ?_
  refine W.o_sipush X (255 : Int32) (pc' := 4) d_jdk_43_method_3_1 rfl rfl ?_
  refine W.o_if_icmpgt X (pt := 11) (pf := 7) d_jdk_43_method_3_4 ⟨by decide, by decide⟩ rfl (fun hc => absurd hc hch) (fun _ => ?_)
  refine W.o_iconst X (1 : Int32) (pc' := 8) d_jdk_43_method_3_7 rfl rfl ?_
  refine W.o_goto X (pc' := 12) d_jdk_43_method_3_8 ⟨by decide, by decide⟩ ?_
  exact W.o_ireturn X d_jdk_43_method_3_12 rfl (Or.inl rfl) (v := 1) rfl (by decide) (by decide) fun P hP => ⟨rfl, rfl⟩
set_option maxRecDepth 65536 in
set_option maxHeartbeats 40000000 in
theorem ctTBC (l : Launch) (Z : State) (a0 : Array Value) (hw : ∀ d ∈ tables_1, d.before a0 Z = true) (ch : Int32) (h0 : Heap)  :
    W.Ct wd Z a0 el l (⟨"java/lang/StringLatin1", "toBytes", "(C)[B"⟩ : MethodName) jdk_43_method_46_code 1 (some (.array .byte)) ({ frames := 0, cells := 1, slots := 1, locals := 0 } : Room) #[(.int ch)] h0 [] (fun v h S => ∃ d kd, v = some (.ref d) ∧ Keep h0 h [] ∧ h0.size ≤ d ∧ Arv Z h d kd .byte (1 : Int32) [(.int ch.toInt8.toInt32)] (.int 0) ∧ Exa Z h d "[B") := by
  refine W.Ct.walk hwe (plainFor_of_name pn_java_lang_StringLatin1) ?_
  intro p e s m below meth c T hE0 X
  refine W.castG (show entryFrame m #[(.int ch)] 1 = mkF m 0 #[.val (.int ch)] [] from by first | (simp [entryFrame, mkF, argsToLocals, Value.category]; done) | rfl) ?_
  refine W.o_iconst X (1 : Int32) (pc' := 1) d_jdk_43_method_46_0 rfl rfl ?_
  refine W.o_newarrayE X (pc' := 3) d_jdk_43_method_46_1 rfl (hw _ (List.mem_of_getElem? (i := 14) rfl)) (by decide) (cap := 1) (by decide) (by decide) (by decide) (by decide) (ad := "[B") (by decide) (fun T h122 b123 k124 g125 z126 e127 a128 x129 X => ?_)
  have f130 : Arv Z h122 b123 k124 .byte (1 : Int32) [(.int (0 : Int32))] (.int (0 : Int32)) := a128.pad (pad_rep [] (.int (0 : Int32)) 1)
  refine W.o_dup X (pc' := 4) d_jdk_43_method_46_3 rfl rfl ?_
  refine W.o_iconst X (0 : Int32) (pc' := 5) d_jdk_43_method_46_4 rfl rfl ?_
  refine W.o_iloadN X (pc' := 6) d_jdk_43_method_46_5 rfl rfl ?_
  refine W.o_i2b X (pc' := 7) d_jdk_43_method_46_6 rfl ?_
  refine W.o_bastore X (pc' := 8) d_jdk_43_method_46_7 rfl f130 0 rfl ⟨by decide, by decide⟩ (by exact Nat.le_of_ble_eq_true rfl) z126 (Or.inl rfl) (fun T h131 w132 a133 X => ?_)
  rw [nar_bb ch] at a133
  have f134 : Arv Z h131 b123 k124 .byte (1 : Int32) [(.int (ch.toInt8.toInt32))] (.int (0 : Int32)) := a133
  have f135 := (x129.wr w132)
  exact W.o_areturn X d_jdk_43_method_46_8 rfl rfl rfl (by decide) (by decide) fun P hP => ⟨b123, _, rfl, (((Keep.refl h0 []).ext e127).wr w132 (Or.inr (Nat.le_trans (Nat.le_refl _) (Nat.le_of_eq g125.symm)))), (Nat.le_trans (Nat.le_refl _) (Nat.le_of_eq g125.symm)), f134, f135⟩
set_option maxRecDepth 65536 in
set_option maxHeartbeats 40000000 in
theorem ctIB (l : Launch) (Z : State) (a0 : Array Value) (hw : ∀ d ∈ tables_1, d.before a0 Z = true) (a d : Addr) (kd : ClassId) (cs : List Int32) (h0 : Heap) (hN : cs.length ≤ 1000) (hlat : ∀ c ∈ cs, ¬ c < 0 ∧ ¬ 255 < c) (gz : Z.heap.size ≤ a) (E0 : Exa Z h0 a "java/lang/String") (F0 : Fld Z h0 a "java/lang/String" "value" "[B" .null) (F1 : Fld Z h0 a "java/lang/String" "coder" "B" (.int (0 : Int32))) (F2 : Fld Z h0 a "java/lang/String" "hash" "I" (.int (0 : Int32))) (F3 : Fld Z h0 a "java/lang/String" "hashIsZero" "Z" (.int (0 : Int32))) (D0 : Exa Z h0 d "[B") (A0 : Arv Z h0 d kd .byte (Int32.ofNat cs.length) (cs.map lo) (.int 0)) :
    W.Ct wd Z a0 el l (⟨"java/lang/String", "<init>", "([BB)V"⟩ : MethodName) jdk_42_method_151_code 3 none ({ frames := 1, cells := 0, slots := 0, locals := 12 } : Room) #[(.ref a), (.ref d), (.int (0 : Int32))] h0 [a] (fun v h S => v = none ∧ Keep h0 h [a] ∧ StrH Z h a d cs) := by
  refine W.Ct.walk hwe (plainFor_of_name pn_java_lang_String) ?_
  intro p e s m below meth c T hE0 X
  refine W.castG (show entryFrame m #[(.ref a), (.ref d), (.int (0 : Int32))] 3 = mkF m 0 #[.val (.ref a), .val (.ref d), .val (.int (0 : Int32))] [] from by first | (simp [entryFrame, mkF, argsToLocals, Value.category]; done) | rfl) ?_
  refine W.o_aloadN X (pc' := 1) d_jdk_42_method_151_0 rfl rfl rfl ?_
  refine W.o_initO X (pc' := 4) d_jdk_42_method_151_1 rfl (hw _ (List.mem_of_getElem? (i := 19) rfl)) (hw _ (List.mem_of_getElem? (i := 20) rfl)) (hw _ (List.mem_of_getElem? (i := 21) rfl)) rfl (by decide) (by decide) (fun T X => ?_)
  refine W.o_aloadN X (pc' := 5) d_jdk_42_method_151_4 rfl rfl rfl ?_
  refine W.o_aloadN X (pc' := 6) d_jdk_42_method_151_5 rfl rfl rfl ?_
  refine W.o_putfield X (pc' := 9) d_jdk_42_method_151_6 rfl (hw _ (List.mem_of_getElem? (i := 22) rfl)) Via.refl F0 E0 (Or.inr ⟨(hw _ (List.mem_of_getElem? (i := 23) rfl)), rfl, rfl⟩) (hw _ (List.mem_of_getElem? (i := 10) rfl)) (ty := (.array .byte)) (by decide) rfl rfl gz (Or.inl rfl) (fun T h136 w137 X => ?_)
  have f138 := F0.same w137
  refine W.o_aloadN X (pc' := 10) d_jdk_42_method_151_9 rfl rfl rfl ?_
  refine W.o_iloadN X (pc' := 11) d_jdk_42_method_151_10 rfl rfl ?_
  have f139 := (E0.wr w137)
  have f140 := (F1.other w137 (Or.inr (slot_ne (Or.inr (hw _ (List.mem_of_getElem? (i := 25) rfl))) (Or.inr (hw _ (List.mem_of_getElem? (i := 23) rfl))) (by decide) (t := .byte) (t' := (.array .byte)) (by decide) (by decide))))
  refine W.o_putfieldN X (pc' := 14) d_jdk_42_method_151_11 rfl (hw _ (List.mem_of_getElem? (i := 24) rfl)) Via.refl f140 f139 (Or.inr ⟨(hw _ (List.mem_of_getElem? (i := 25) rfl)), rfl, rfl⟩) (hw _ (List.mem_of_getElem? (i := 10) rfl)) (ty := .byte) (v' := (.int (0 : Int32))) (by decide) rfl rfl gz (Or.inl rfl) (fun T h141 w142 X => ?_)
  have f143 := f140.same w142
  have f144 := (f139.wr w142)
  have f145 := (f138.other w142 (Or.inr (slot_ne (Or.inr (hw _ (List.mem_of_getElem? (i := 23) rfl))) (Or.inr (hw _ (List.mem_of_getElem? (i := 25) rfl))) (by decide) (t := (.array .byte)) (t' := .byte) (by decide) (by decide))))
  have f146 := ((A0.other w137 (ne_exa ((D0.wr w137).wr w142) f144 (by decide))).other w142 (ne_exa ((D0.wr w137).wr w142) f144 (by decide)))
  have f147 := ((F2.other w137 (Or.inr (slot_ne (Or.inl (hw _ (List.mem_of_getElem? (i := 68) rfl))) (Or.inr (hw _ (List.mem_of_getElem? (i := 23) rfl))) (by decide) (t := .int) (t' := (.array .byte)) (by decide) (by decide)))).other w142 (Or.inr (slot_ne (Or.inl (hw _ (List.mem_of_getElem? (i := 68) rfl))) (Or.inr (hw _ (List.mem_of_getElem? (i := 25) rfl))) (by decide) (t := .int) (t' := .byte) (by decide) (by decide))))
  have f148 := ((F3.other w137 (Or.inr (slot_ne (Or.inl (hw _ (List.mem_of_getElem? (i := 70) rfl))) (Or.inr (hw _ (List.mem_of_getElem? (i := 23) rfl))) (by decide) (t := .boolean) (t' := (.array .byte)) (by decide) (by decide)))).other w142 (Or.inr (slot_ne (Or.inl (hw _ (List.mem_of_getElem? (i := 70) rfl))) (Or.inr (hw _ (List.mem_of_getElem? (i := 25) rfl))) (by decide) (t := .boolean) (t' := .byte) (by decide) (by decide))))
  have f149 := ((D0.wr w137).wr w142)
  exact W.o_return X d_jdk_42_method_151_14 (by decide) (by decide) fun P hP => ⟨rfl, (((Keep.refl h0 [a]).wr w137 (Or.inl (List.mem_of_getElem? (i := 0) rfl))).wr w142 (Or.inl (List.mem_of_getElem? (i := 0) rfl))), ⟨f144, f143, f145, ⟨kd, f146⟩, hN, hlat⟩, ⟨_, f147⟩, ⟨_, f148⟩, f149⟩
set_option maxRecDepth 65536 in
set_option maxHeartbeats 40000000 in
theorem ctVO (l : Launch) (Z : State) (a0 : Array Value) (hw : ∀ d ∈ tables_1, d.before a0 Z = true) (ch cz : Int32) (h0 : Heap) (C0 : Sta Z Z.heap "java/lang/String" "COMPACT_STRINGS" "Z" (.int cz)) (hcz : ¬ cz = 0) (q : ¬ ch < 0 ∧ ¬ 255 < ch) :
    W.Ct wd Z a0 el l (⟨"java/lang/String", "valueOf", "(C)Ljava/lang/String;"⟩ : MethodName) jdk_42_method_139_code 1 (some (.object "java/lang/String")) ({ frames := 2, cells := 2, slots := 5, locals := 27 } : Room) #[(.int ch)] h0 [] (fun v h S => ∃ a t, v = some (.ref a) ∧ Keep h0 h [] ∧ h0.size ≤ a ∧ Z.heap.size ≤ a ∧ h0.size ≤ t ∧ StrH Z h a t [ch]) := by
  refine W.Ct.walk hwe (plainFor_of_name pn_java_lang_String) ?_
  intro p e s m below meth c T hE0 X
  refine W.castG (show entryFrame m #[(.int ch)] 1 = mkF m 0 #[.val (.int ch)] [] from by first | (simp [entryFrame, mkF, argsToLocals, Value.category]; done) | rfl) ?_
  refine W.o_getstatic X (pc' := 3) d_jdk_42_method_139_0 rfl (hw _ (List.mem_of_getElem? (i := 4) rfl)) Via.refl C0 (fun T X => ?_)
  refine W.o_ifeq X (pt := 26) (pf := 6) d_jdk_42_method_139_3 ⟨by decide, by decide⟩ rfl (fun hc => absurd hc hcz) (fun _ => ?_)
  refine W.o_iloadN X (pc' := 7) d_jdk_42_method_139_6 rfl rfl ?_
  refine W.o_static X (pc' := 10) d_jdk_42_method_139_7 rfl (z := (⟨"java/lang/StringLatin1", "canEncode", "(C)Z"⟩ : MethodName)) (hw _ (List.mem_of_getElem? (i := 5) rfl)) (hw _ (List.mem_of_getElem? (i := 6) rfl)) (hw _ (List.mem_of_getElem? (i := 7) rfl)) (hw _ (List.mem_of_getElem? (i := 8) rfl)) (by decide) (ctCan l Z a0 hw ch h0 q.2) (fun _ q => nomatch q) [(.int ch)] rfl (rest := []) rfl pd__C_Z rfl rfl (by decide) (by exact Nat.le_of_ble_eq_true rfl) (by decide) (by decide) (fun v150 T q151 => ?_)
  obtain ⟨h154, S152, ⟨rfl, eh⟩, X153⟩ := q151
  have eh := eh.symm
  subst eh
  have X := X153 [] all0
  show W.Go _ _ _ _ _ _ _ _ _ _ _ (mkF m 10 #[.val (.int ch)] [(.int (1 : Int32))])
  refine W.o_ifeq X (pt := 26) (pf := 13) d_jdk_42_method_139_10 ⟨by decide, by decide⟩ rfl (fun hc => absurd hc (by decide)) (fun _ => ?_)
  refine W.o_new X (pc' := 16) d_jdk_42_method_139_13 rfl (hw _ (List.mem_of_getElem? (i := 9) rfl)) (hw _ (List.mem_of_getElem? (i := 10) rfl)) (hw _ (List.mem_of_getElem? (i := 2) rfl)) (by decide) (by decide) (fun T h155 b156 g157 z158 e159 a160 D161 X => ?_)
  have f162 : Fld Z h155 b156 "java/lang/String" "value" "[B" .null := D161 (Or.inr (hw _ (List.mem_of_getElem? (i := 23) rfl))) (ty := (.array .byte)) (by decide)
  have f163 : Fld Z h155 b156 "java/lang/String" "coder" "B" (.int (0 : Int32)) := D161 (Or.inr (hw _ (List.mem_of_getElem? (i := 25) rfl))) (ty := .byte) (by decide)
  have f164 : Fld Z h155 b156 "java/lang/String" "hash" "I" (.int (0 : Int32)) := D161 (Or.inl (hw _ (List.mem_of_getElem? (i := 68) rfl))) (ty := .int) (by decide)
  have f165 : Fld Z h155 b156 "java/lang/String" "hashIsZero" "Z" (.int (0 : Int32)) := D161 (Or.inl (hw _ (List.mem_of_getElem? (i := 70) rfl))) (ty := .boolean) (by decide)
  refine W.o_dup X (pc' := 17) d_jdk_42_method_139_16 rfl rfl ?_
  refine W.o_iloadN X (pc' := 18) d_jdk_42_method_139_17 rfl rfl ?_
  refine W.o_static X (pc' := 21) d_jdk_42_method_139_18 rfl (z := (⟨"java/lang/StringLatin1", "toBytes", "(C)[B"⟩ : MethodName)) (hw _ (List.mem_of_getElem? (i := 11) rfl)) (hw _ (List.mem_of_getElem? (i := 12) rfl)) (hw _ (List.mem_of_getElem? (i := 7) rfl)) (hw _ (List.mem_of_getElem? (i := 13) rfl)) (by decide) (ctTBC l Z a0 hw ch h155) (fun _ q => nomatch q) [(.int ch)] rfl (rest := [(.ref b156), (.ref b156)]) rfl pd__C__B rfl rfl (by decide) (by exact Nat.le_of_ble_eq_true rfl) (by decide) (by decide) (fun v166 T q167 => ?_)
  obtain ⟨h170, S168, ⟨d, kd, rfl, K1, gd, B1, D1⟩, X169⟩ := q167
  have X := X169 [] all0
  have B2 : Arv Z h170 d kd .byte (Int32.ofNat [ch].length) ([ch].map lo) (.int 0) := B1
  show W.Go _ _ _ _ _ _ _ _ _ _ _ (mkF m 21 #[.val (.int ch)] [(.ref d), (.ref b156), (.ref b156)])
  refine W.o_iconst X (0 : Int32) (pc' := 22) d_jdk_42_method_139_21 rfl rfl ?_
  have f171 := (a160.keep K1)
  have f172 := (f162.keep K1 nin0)
  have f173 := (f163.keep K1 nin0)
  have f174 := (f164.keep K1 nin0)
  have f175 := (f165.keep K1 nin0)
  refine W.o_special X (pc' := 25) d_jdk_42_method_139_22 rfl (z := (⟨"java/lang/String", "<init>", "([BB)V"⟩ : MethodName)) rfl (hw _ (List.mem_of_getElem? (i := 15) rfl)) (hw _ (List.mem_of_getElem? (i := 16) rfl)) (hw _ (List.mem_of_getElem? (i := 2) rfl)) (hw _ (List.mem_of_getElem? (i := 18) rfl)) (by decide) (ctIB l Z a0 hw b156 d kd [ch] h170 (by exact Nat.le_of_ble_eq_true rfl) (allI q (fun _ q => nomatch q)) z158 f171 f172 f173 f174 f175 D1 B2) (allS ⟨(a160.keep K1).lt, (Or.inl rfl)⟩ all0) [(.ref d), (.int (0 : Int32))] rfl (rest := [(.ref b156)]) rfl pd___BB_V rfl rfl (by decide) (by exact Nat.le_of_ble_eq_true rfl) (by decide) (by decide) (fun v176 T q177 => ?_)
  obtain ⟨h180, S178, ⟨rfl, K3, G3⟩, X179⟩ := q177
  have X := X179 [] all0
  show W.Go _ _ _ _ _ _ _ _ _ _ _ (mkF m 25 #[.val (.int ch)] [(.ref b156)])
  exact W.o_areturn X d_jdk_42_method_139_25 rfl rfl rfl (by decide) (by decide) fun P hP => ⟨b156, d, rfl, ((((Keep.refl h0 []).ext e159).trans K1 all0).trans K3 (allS (Or.inr (Nat.le_trans (Nat.le_refl _) (Nat.le_of_eq g157.symm))) all0)), (Nat.le_trans (Nat.le_refl _) (Nat.le_of_eq g157.symm)), z158, (Nat.le_trans (Nat.le_trans (Nat.le_refl _) e159.1) gd), G3⟩
set_option maxRecDepth 65536 in
set_option maxHeartbeats 40000000 in
theorem ctLI (l : Launch) (Z : State) (a0 : Array Value) (hw : ∀ d ∈ tables_1, d.before a0 Z = true) (a s0 s1 s2 t0 t1 t2 : Addr) (sl : Int32) (cs0 cs1 cs2 : List Int32) (cz : Int32) (h0 : Heap) (C0 : Sta Z Z.heap "java/lang/String" "COMPACT_STRINGS" "Z" (.int cz)) (hcz : ¬ cz = 0) (gz : Z.heap.size ≤ a) (E0 : Exa Z h0 a "com/example/holdfast/holdfast/redis/LockKeys") (F0 : Fld Z h0 a "com/example/holdfast/holdfast/redis/LockKeys" "key" "Ljava/lang/String;" .null) (F1 : Fld Z h0 a "com/example/holdfast/holdfast/redis/LockKeys" "fenceKey" "Ljava/lang/String;" .null) (F2 : Fld Z h0 a "com/example/holdfast/holdfast/redis/LockKeys" "waitersKey" "Ljava/lang/String;" .null) (F3 : Fld Z h0 a "com/example/holdfast/holdfast/redis/LockKeys" "slot" "I" (.int (0 : Int32))) (F4 : Fld Z h0 a "com/example/holdfast/holdfast/redis/LockKeys" "hash" "I" (.int (0 : Int32))) (n0 : cs0.length ≠ 0) (z0 : Z.heap.size ≤ s0) (G0 : StrH Z h0 s0 t0 cs0) (n1 : cs1.length ≠ 0) (z1 : Z.heap.size ≤ s1) (G1 : StrH Z h0 s1 t1 cs1) (n2 : cs2.length ≠ 0) (z2 : Z.heap.size ≤ s2) (G2 : StrH Z h0 s2 t2 cs2) (r01 : s0 ≠ s1) (r02 : s0 ≠ s2) (r12 : s1 ≠ s2) :
    W.Ct wd Z a0 el l (⟨"com/example/holdfast/holdfast/redis/LockKeys", "<init>", "(Ljava/lang/String;Ljava/lang/String;Ljava/lang/String;I)V"⟩ : MethodName) prog_8_method_1_code 5 none ({ frames := 6, cells := 7, slots := 99, locals := 89 } : Room) #[(.ref a), (.ref s0), (.ref s1), (.ref s2), (.int sl)] h0 [s0, s1, s2] (fun v h S => v = none ∧ Keep h0 h [a, s0, s1, s2] ∧ Exa Z h a "com/example/holdfast/holdfast/redis/LockKeys" ∧ Fld Z h a "com/example/holdfast/holdfast/redis/LockKeys" "key" "Ljava/lang/String;" (.ref s0) ∧ Fld Z h a "com/example/holdfast/holdfast/redis/LockKeys" "fenceKey" "Ljava/lang/String;" (.ref s1) ∧ Fld Z h a "com/example/holdfast/holdfast/redis/LockKeys" "waitersKey" "Ljava/lang/String;" (.ref s2) ∧ StrH Z h s0 t0 cs0 ∧ StrH Z h s1 t1 cs1 ∧ StrH Z h s2 t2 cs2) := by
  refine W.Ct.walk hwe (plainFor_of_name pn_com_example_holdfast_holdfast_redis_LockKeys) ?_
  intro p e s m below meth c T hE0 X
  refine W.castG (show entryFrame m #[(.ref a), (.ref s0), (.ref s1), (.ref s2), (.int sl)] 5 = mkF m 0 #[.val (.ref a), .val (.ref s0), .val (.ref s1), .val (.ref s2), .val (.int sl)] [] from by first | (simp [entryFrame, mkF, argsToLocals, Value.category]; done) | rfl) ?_
  have hwS : ∀ a ∈ Bundle.stringAtoms, a.before a0 Z = true := fun a ha => hw a (hwS0 a ha)
  refine W.o_aloadN X (pc' := 1) d_prog_8_method_1_0 rfl rfl rfl ?_
  refine W.o_initO X (pc' := 4) d_prog_8_method_1_1 rfl (hw _ (List.mem_of_getElem? (i := 32) rfl)) (hw _ (List.mem_of_getElem? (i := 20) rfl)) (hw _ (List.mem_of_getElem? (i := 21) rfl)) rfl (by decide) (by decide) (fun T X => ?_)
  refine W.o_aloadN X (pc' := 5) d_prog_8_method_1_4 rfl rfl rfl ?_
  refine W.o_aloadN X (pc' := 6) d_prog_8_method_1_5 rfl rfl rfl ?_
  refine W.o_ldcO X rfl (pc' := 8) d_prog_8_method_1_6 rfl (hw _ (List.mem_of_getElem? (i := 33) rfl)) hwS (nn := 12) (by decide) (by decide) (by decide) (by decide) (fun T h181 s182 e183 X => ?_)
  refine W.o_static X (pc' := 11) d_prog_8_method_1_8 rfl (z := (⟨"java/util/Objects", "requireNonNull", "(Ljava/lang/Object;Ljava/lang/String;)Ljava/lang/Object;"⟩ : MethodName)) (hw _ (List.mem_of_getElem? (i := 36) rfl)) (hw _ (List.mem_of_getElem? (i := 37) rfl)) (hw _ (List.mem_of_getElem? (i := 38) rfl)) (hw _ (List.mem_of_getElem? (i := 39) rfl)) (by decide) (ctReq l Z a0 hw s0 s182 h181) (fun _ q => nomatch q) [(.ref s0), (.ref s182)] rfl (rest := [(.ref a)]) rfl pd__Ljava_lang_Object_Ljava_lang_String__Ljava_lang_Object_ rfl rfl (by decide) (by exact Nat.le_of_ble_eq_true rfl) (by decide) (by decide) (fun v184 T q185 => ?_)
  obtain ⟨h188, S186, ⟨rfl, eh⟩, X187⟩ := q185
  have eh := eh.symm
  subst eh
  have X := X187 [] all0
  show W.Go _ _ _ _ _ _ _ _ _ _ _ (mkF m 11 #[.val (.ref a), .val (.ref s0), .val (.ref s1), .val (.ref s2), .val (.int sl)] [(.ref s0), (.ref a)])
  have f189 := (G0.1.1.ext e183)
  refine W.o_checkcast X (pc' := 14) d_prog_8_method_1_11 rfl (hw _ (List.mem_of_getElem? (i := 40) rfl)) (Ins.self f189) (fun T X => ?_)
  have f190 := (E0.ext e183)
  have f191 := (F0.ext e183)
  refine W.o_putfield X (pc' := 17) d_prog_8_method_1_14 rfl (hw _ (List.mem_of_getElem? (i := 41) rfl)) Via.refl f191 f190 (Or.inr ⟨(hw _ (List.mem_of_getElem? (i := 42) rfl)), rfl, rfl⟩) (hw _ (List.mem_of_getElem? (i := 27) rfl)) (ty := (.object "java/lang/String")) (by decide) rfl rfl gz (Or.inl rfl) (fun T h192 w193 X => ?_)
  have f194 := f191.same w193
  refine W.o_aloadN X (pc' := 18) d_prog_8_method_1_17 rfl rfl rfl ?_
  refine W.o_aloadN X (pc' := 19) d_prog_8_method_1_18 rfl rfl rfl ?_
  refine W.o_ldcO X rfl (pc' := 21) d_prog_8_method_1_19 rfl (hw _ (List.mem_of_getElem? (i := 43) rfl)) hwS (nn := 32) (by decide) (by decide) (by decide) (by decide) (fun T h195 s196 e197 X => ?_)
  refine W.o_static X (pc' := 24) d_prog_8_method_1_21 rfl (z := (⟨"java/util/Objects", "requireNonNull", "(Ljava/lang/Object;Ljava/lang/String;)Ljava/lang/Object;"⟩ : MethodName)) (hw _ (List.mem_of_getElem? (i := 36) rfl)) (hw _ (List.mem_of_getElem? (i := 37) rfl)) (hw _ (List.mem_of_getElem? (i := 38) rfl)) (hw _ (List.mem_of_getElem? (i := 39) rfl)) (by decide) (ctReq l Z a0 hw s1 s196 h195) (fun _ q => nomatch q) [(.ref s1), (.ref s196)] rfl (rest := [(.ref a)]) rfl pd__Ljava_lang_Object_Ljava_lang_String__Ljava_lang_Object_ rfl rfl (by decide) (by exact Nat.le_of_ble_eq_true rfl) (by decide) (by decide) (fun v198 T q199 => ?_)
  obtain ⟨h202, S200, ⟨rfl, eh⟩, X201⟩ := q199
  have eh := eh.symm
  subst eh
  have X := X201 [] all0
  show W.Go _ _ _ _ _ _ _ _ _ _ _ (mkF m 24 #[.val (.ref a), .val (.ref s0), .val (.ref s1), .val (.ref s2), .val (.int sl)] [(.ref s1), (.ref a)])
  have f203 := (((G1.1.1.ext e183).wr w193).ext e197)
  refine W.o_checkcast X (pc' := 27) d_prog_8_method_1_24 rfl (hw _ (List.mem_of_getElem? (i := 40) rfl)) (Ins.self f203) (fun T X => ?_)
  have f204 := ((f190.wr w193).ext e197)
  have f205 := (((F1.ext e183).other w193 (Or.inr (slot_ne (Or.inr (hw _ (List.mem_of_getElem? (i := 45) rfl))) (Or.inr (hw _ (List.mem_of_getElem? (i := 42) rfl))) (by decide) (t := (.object "java/lang/String")) (t' := (.object "java/lang/String")) (by decide) (by decide)))).ext e197)
  refine W.o_putfield X (pc' := 30) d_prog_8_method_1_27 rfl (hw _ (List.mem_of_getElem? (i := 44) rfl)) Via.refl f205 f204 (Or.inr ⟨(hw _ (List.mem_of_getElem? (i := 45) rfl)), rfl, rfl⟩) (hw _ (List.mem_of_getElem? (i := 27) rfl)) (ty := (.object "java/lang/String")) (by decide) rfl rfl gz (Or.inl rfl) (fun T h206 w207 X => ?_)
  have f208 := f205.same w207
  refine W.o_aloadN X (pc' := 31) d_prog_8_method_1_30 rfl rfl rfl ?_
  refine W.o_aloadN X (pc' := 32) d_prog_8_method_1_31 rfl rfl rfl ?_
  refine W.o_ldcO X rfl (pc' := 34) d_prog_8_method_1_32 rfl (hw _ (List.mem_of_getElem? (i := 46) rfl)) hwS (nn := 40) (by decide) (by decide) (by decide) (by decide) (fun T h209 s210 e211 X => ?_)
  refine W.o_static X (pc' := 37) d_prog_8_method_1_34 rfl (z := (⟨"java/util/Objects", "requireNonNull", "(Ljava/lang/Object;Ljava/lang/String;)Ljava/lang/Object;"⟩ : MethodName)) (hw _ (List.mem_of_getElem? (i := 36) rfl)) (hw _ (List.mem_of_getElem? (i := 37) rfl)) (hw _ (List.mem_of_getElem? (i := 38) rfl)) (hw _ (List.mem_of_getElem? (i := 39) rfl)) (by decide) (ctReq l Z a0 hw s2 s210 h209) (fun _ q => nomatch q) [(.ref s2), (.ref s210)] rfl (rest := [(.ref a)]) rfl pd__Ljava_lang_Object_Ljava_lang_String__Ljava_lang_Object_ rfl rfl (by decide) (by exact Nat.le_of_ble_eq_true rfl) (by decide) (by decide) (fun v212 T q213 => ?_)
  obtain ⟨h216, S214, ⟨rfl, eh⟩, X215⟩ := q213
  have eh := eh.symm
  subst eh
  have X := X215 [] all0
  show W.Go _ _ _ _ _ _ _ _ _ _ _ (mkF m 37 #[.val (.ref a), .val (.ref s0), .val (.ref s1), .val (.ref s2), .val (.int sl)] [(.ref s2), (.ref a)])
  have f217 := (((((G2.1.1.ext e183).wr w193).ext e197).wr w207).ext e211)
  refine W.o_checkcast X (pc' := 40) d_prog_8_method_1_37 rfl (hw _ (List.mem_of_getElem? (i := 40) rfl)) (Ins.self f217) (fun T X => ?_)
  have f218 := ((f204.wr w207).ext e211)
  have f219 := (((((F2.ext e183).other w193 (Or.inr (slot_ne (Or.inr (hw _ (List.mem_of_getElem? (i := 48) rfl))) (Or.inr (hw _ (List.mem_of_getElem? (i := 42) rfl))) (by decide) (t := (.object "java/lang/String")) (t' := (.object "java/lang/String")) (by decide) (by decide)))).ext e197).other w207 (Or.inr (slot_ne (Or.inr (hw _ (List.mem_of_getElem? (i := 48) rfl))) (Or.inr (hw _ (List.mem_of_getElem? (i := 45) rfl))) (by decide) (t := (.object "java/lang/String")) (t' := (.object "java/lang/String")) (by decide) (by decide)))).ext e211)
  refine W.o_putfield X (pc' := 43) d_prog_8_method_1_40 rfl (hw _ (List.mem_of_getElem? (i := 47) rfl)) Via.refl f219 f218 (Or.inr ⟨(hw _ (List.mem_of_getElem? (i := 48) rfl)), rfl, rfl⟩) (hw _ (List.mem_of_getElem? (i := 27) rfl)) (ty := (.object "java/lang/String")) (by decide) rfl rfl gz (Or.inl rfl) (fun T h220 w221 X => ?_)
  have f222 := f219.same w221
  refine W.o_aloadN X (pc' := 44) d_prog_8_method_1_43 rfl rfl rfl ?_
  refine W.o_iload X (pc' := 46) d_prog_8_method_1_44 rfl rfl ?_
  have f223 := (f218.wr w221)
  have f224 := ((((((F3.ext e183).other w193 (Or.inr (slot_ne (Or.inr (hw _ (List.mem_of_getElem? (i := 50) rfl))) (Or.inr (hw _ (List.mem_of_getElem? (i := 42) rfl))) (by decide) (t := .int) (t' := (.object "java/lang/String")) (by decide) (by decide)))).ext e197).other w207 (Or.inr (slot_ne (Or.inr (hw _ (List.mem_of_getElem? (i := 50) rfl))) (Or.inr (hw _ (List.mem_of_getElem? (i := 45) rfl))) (by decide) (t := .int) (t' := (.object "java/lang/String")) (by decide) (by decide)))).ext e211).other w221 (Or.inr (slot_ne (Or.inr (hw _ (List.mem_of_getElem? (i := 50) rfl))) (Or.inr (hw _ (List.mem_of_getElem? (i := 48) rfl))) (by decide) (t := .int) (t' := (.object "java/lang/String")) (by decide) (by decide))))
  refine W.o_putfield X (pc' := 49) d_prog_8_method_1_46 rfl (hw _ (List.mem_of_getElem? (i := 49) rfl)) Via.refl f224 f223 (Or.inr ⟨(hw _ (List.mem_of_getElem? (i := 50) rfl)), rfl, rfl⟩) (hw _ (List.mem_of_getElem? (i := 27) rfl)) (ty := .int) (by decide) rfl rfl gz (Or.inl rfl) (fun T h225 w226 X => ?_)
  have f227 := f224.same w226
  refine W.o_aloadN X (pc' := 50) d_prog_8_method_1_49 rfl rfl rfl ?_
  refine W.o_iconst X (3 : Int32) (pc' := 51) d_prog_8_method_1_50 rfl rfl ?_
  refine W.o_anewarray X (pc' := 54) d_prog_8_method_1_51 rfl (hw _ (List.mem_of_getElem? (i := 51) rfl)) (hw _ (List.mem_of_getElem? (i := 52) rfl)) (by decide) (cap := 3) (by decide) (by decide) (by decide) (by decide) (fun T h228 b229 k230 g231 z232 e233 a234 o235 X => ?_)
  have f236 : Arv Z h228 b229 k230 (.object "java/lang/Object") (3 : Int32) [.null, .null, .null] .null := a234.pad (pad_rep [] .null 3)
  refine W.o_dup X (pc' := 55) d_prog_8_method_1_54 rfl rfl ?_
  refine W.o_iconst X (0 : Int32) (pc' := 56) d_prog_8_method_1_55 rfl rfl ?_
  refine W.o_aloadN X (pc' := 57) d_prog_8_method_1_56 rfl rfl rfl ?_
  have f237 := (((((((f189.wr w193).ext e197).wr w207).ext e211).wr w221).wr w226).ext e233)
  refine W.o_aastore X (pc' := 58) d_prog_8_method_1_57 rfl f236 o235 (Ins.of_exa f237 (hw _ (List.mem_of_getElem? (i := 53) rfl))) 0 rfl ⟨by decide, by decide⟩ (by exact Nat.le_of_ble_eq_true rfl) z232 (Or.inl rfl) (fun T h238 w239 a240 X => ?_)
  have f241 : Arv Z h238 b229 k230 (.object "java/lang/Object") (3 : Int32) [(.ref s0), .null, .null] .null := a240
  refine W.o_dup X (pc' := 59) d_prog_8_method_1_58 rfl rfl ?_
  refine W.o_iconst X (1 : Int32) (pc' := 60) d_prog_8_method_1_59 rfl rfl ?_
  refine W.o_aloadN X (pc' := 61) d_prog_8_method_1_60 rfl rfl rfl ?_
  have f242 := ((((((f203.wr w207).ext e211).wr w221).wr w226).ext e233).wr w239)
  refine W.o_aastore X (pc' := 62) d_prog_8_method_1_61 rfl f241 o235 (Ins.of_exa f242 (hw _ (List.mem_of_getElem? (i := 53) rfl))) 1 rfl ⟨by decide, by decide⟩ (by exact Nat.le_of_ble_eq_true rfl) z232 (Or.inl rfl) (fun T h243 w244 a245 X => ?_)
  have f246 : Arv Z h243 b229 k230 (.object "java/lang/Object") (3 : Int32) [(.ref s0), (.ref s1), .null] .null := a245
  refine W.o_dup X (pc' := 63) d_prog_8_method_1_62 rfl rfl ?_
  refine W.o_iconst X (2 : Int32) (pc' := 64) d_prog_8_method_1_63 rfl rfl ?_
  refine W.o_aloadN X (pc' := 65) d_prog_8_method_1_64 rfl rfl rfl ?_
  have f247 := (((((f217.wr w221).wr w226).ext e233).wr w239).wr w244)
  refine W.o_aastore X (pc' := 66) d_prog_8_method_1_65 rfl f246 o235 (Ins.of_exa f247 (hw _ (List.mem_of_getElem? (i := 53) rfl))) 2 rfl ⟨by decide, by decide⟩ (by exact Nat.le_of_ble_eq_true rfl) z232 (Or.inl rfl) (fun T h248 w249 a250 X => ?_)
  have f251 : Arv Z h248 b229 k230 (.object "java/lang/Object") (3 : Int32) [(.ref s0), (.ref s1), (.ref s2)] .null := a250
  have f252 := (((((((((((G0.ext e183).other w193 (ne_exa f237 ((f223.wr w226).ext e233) (by decide)) (ne_exa ((((((G0.2.2.2.ext e183).wr w193).ext e197).wr w207).ext e211).wr w221) f223 (by decide))).ext e197).other w207 (ne_exa f237 ((f223.wr w226).ext e233) (by decide)) (ne_exa ((((((G0.2.2.2.ext e183).wr w193).ext e197).wr w207).ext e211).wr w221) f223 (by decide))).ext e211).other w221 (ne_exa f237 ((f223.wr w226).ext e233) (by decide)) (ne_exa ((((((G0.2.2.2.ext e183).wr w193).ext e197).wr w207).ext e211).wr w221) f223 (by decide))).other w226 (ne_exa f237 ((f223.wr w226).ext e233) (by decide)) (ne_exa ((((((G0.2.2.2.ext e183).wr w193).ext e197).wr w207).ext e211).wr w221) f223 (by decide))).ext e233).other w239 (Nat.ne_of_lt (Nat.lt_of_lt_of_le (((((((G0.ext e183).other w193 (ne_exa f237 ((f223.wr w226).ext e233) (by decide)) (ne_exa ((((((G0.2.2.2.ext e183).wr w193).ext e197).wr w207).ext e211).wr w221) f223 (by decide))).ext e197).other w207 (ne_exa f237 ((f223.wr w226).ext e233) (by decide)) (ne_exa ((((((G0.2.2.2.ext e183).wr w193).ext e197).wr w207).ext e211).wr w221) f223 (by decide))).ext e211).other w221 (ne_exa f237 ((f223.wr w226).ext e233) (by decide)) (ne_exa ((((((G0.2.2.2.ext e183).wr w193).ext e197).wr w207).ext e211).wr w221) f223 (by decide))).other w226 (ne_exa f237 ((f223.wr w226).ext e233) (by decide)) (ne_exa ((((((G0.2.2.2.ext e183).wr w193).ext e197).wr w207).ext e211).wr w221) f223 (by decide))).lt (Nat.le_of_eq g231.symm))) (Nat.ne_of_lt (Nat.lt_of_lt_of_le (((((((G0.ext e183).other w193 (ne_exa f237 ((f223.wr w226).ext e233) (by decide)) (ne_exa ((((((G0.2.2.2.ext e183).wr w193).ext e197).wr w207).ext e211).wr w221) f223 (by decide))).ext e197).other w207 (ne_exa f237 ((f223.wr w226).ext e233) (by decide)) (ne_exa ((((((G0.2.2.2.ext e183).wr w193).ext e197).wr w207).ext e211).wr w221) f223 (by decide))).ext e211).other w221 (ne_exa f237 ((f223.wr w226).ext e233) (by decide)) (ne_exa ((((((G0.2.2.2.ext e183).wr w193).ext e197).wr w207).ext e211).wr w221) f223 (by decide))).other w226 (ne_exa f237 ((f223.wr w226).ext e233) (by decide)) (ne_exa ((((((G0.2.2.2.ext e183).wr w193).ext e197).wr w207).ext e211).wr w221) f223 (by decide))).lt' (Nat.le_of_eq g231.symm)))).other w244 (Nat.ne_of_lt (Nat.lt_of_lt_of_le (((((((G0.ext e183).other w193 (ne_exa f237 ((f223.wr w226).ext e233) (by decide)) (ne_exa ((((((G0.2.2.2.ext e183).wr w193).ext e197).wr w207).ext e211).wr w221) f223 (by decide))).ext e197).other w207 (ne_exa f237 ((f223.wr w226).ext e233) (by decide)) (ne_exa ((((((G0.2.2.2.ext e183).wr w193).ext e197).wr w207).ext e211).wr w221) f223 (by decide))).ext e211).other w221 (ne_exa f237 ((f223.wr w226).ext e233) (by decide)) (ne_exa ((((((G0.2.2.2.ext e183).wr w193).ext e197).wr w207).ext e211).wr w221) f223 (by decide))).other w226 (ne_exa f237 ((f223.wr w226).ext e233) (by decide)) (ne_exa ((((((G0.2.2.2.ext e183).wr w193).ext e197).wr w207).ext e211).wr w221) f223 (by decide))).lt (Nat.le_of_eq g231.symm))) (Nat.ne_of_lt (Nat.lt_of_lt_of_le (((((((G0.ext e183).other w193 (ne_exa f237 ((f223.wr w226).ext e233) (by decide)) (ne_exa ((((((G0.2.2.2.ext e183).wr w193).ext e197).wr w207).ext e211).wr w221) f223 (by decide))).ext e197).other w207 (ne_exa f237 ((f223.wr w226).ext e233) (by decide)) (ne_exa ((((((G0.2.2.2.ext e183).wr w193).ext e197).wr w207).ext e211).wr w221) f223 (by decide))).ext e211).other w221 (ne_exa f237 ((f223.wr w226).ext e233) (by decide)) (ne_exa ((((((G0.2.2.2.ext e183).wr w193).ext e197).wr w207).ext e211).wr w221) f223 (by decide))).other w226 (ne_exa f237 ((f223.wr w226).ext e233) (by decide)) (ne_exa ((((((G0.2.2.2.ext e183).wr w193).ext e197).wr w207).ext e211).wr w221) f223 (by decide))).lt' (Nat.le_of_eq g231.symm)))).other w249 (Nat.ne_of_lt (Nat.lt_of_lt_of_le (((((((G0.ext e183).other w193 (ne_exa f237 ((f223.wr w226).ext e233) (by decide)) (ne_exa ((((((G0.2.2.2.ext e183).wr w193).ext e197).wr w207).ext e211).wr w221) f223 (by decide))).ext e197).other w207 (ne_exa f237 ((f223.wr w226).ext e233) (by decide)) (ne_exa ((((((G0.2.2.2.ext e183).wr w193).ext e197).wr w207).ext e211).wr w221) f223 (by decide))).ext e211).other w221 (ne_exa f237 ((f223.wr w226).ext e233) (by decide)) (ne_exa ((((((G0.2.2.2.ext e183).wr w193).ext e197).wr w207).ext e211).wr w221) f223 (by decide))).other w226 (ne_exa f237 ((f223.wr w226).ext e233) (by decide)) (ne_exa ((((((G0.2.2.2.ext e183).wr w193).ext e197).wr w207).ext e211).wr w221) f223 (by decide))).lt (Nat.le_of_eq g231.symm))) (Nat.ne_of_lt (Nat.lt_of_lt_of_le (((((((G0.ext e183).other w193 (ne_exa f237 ((f223.wr w226).ext e233) (by decide)) (ne_exa ((((((G0.2.2.2.ext e183).wr w193).ext e197).wr w207).ext e211).wr w221) f223 (by decide))).ext e197).other w207 (ne_exa f237 ((f223.wr w226).ext e233) (by decide)) (ne_exa ((((((G0.2.2.2.ext e183).wr w193).ext e197).wr w207).ext e211).wr w221) f223 (by decide))).ext e211).other w221 (ne_exa f237 ((f223.wr w226).ext e233) (by decide)) (ne_exa ((((((G0.2.2.2.ext e183).wr w193).ext e197).wr w207).ext e211).wr w221) f223 (by decide))).other w226 (ne_exa f237 ((f223.wr w226).ext e233) (by decide)) (ne_exa ((((((G0.2.2.2.ext e183).wr w193).ext e197).wr w207).ext e211).wr w221) f223 (by decide))).lt' (Nat.le_of_eq g231.symm))))
  have f253 := (((((((((((G1.ext e183).other w193 (ne_exa f242 (((f223.wr w226).ext e233).wr w239) (by decide)) (ne_exa ((((((G1.2.2.2.ext e183).wr w193).ext e197).wr w207).ext e211).wr w221) f223 (by decide))).ext e197).other w207 (ne_exa f242 (((f223.wr w226).ext e233).wr w239) (by decide)) (ne_exa ((((((G1.2.2.2.ext e183).wr w193).ext e197).wr w207).ext e211).wr w221) f223 (by decide))).ext e211).other w221 (ne_exa f242 (((f223.wr w226).ext e233).wr w239) (by decide)) (ne_exa ((((((G1.2.2.2.ext e183).wr w193).ext e197).wr w207).ext e211).wr w221) f223 (by decide))).other w226 (ne_exa f242 (((f223.wr w226).ext e233).wr w239) (by decide)) (ne_exa ((((((G1.2.2.2.ext e183).wr w193).ext e197).wr w207).ext e211).wr w221) f223 (by decide))).ext e233).other w239 (Nat.ne_of_lt (Nat.lt_of_lt_of_le (((((((G1.ext e183).other w193 (ne_exa f242 (((f223.wr w226).ext e233).wr w239) (by decide)) (ne_exa ((((((G1.2.2.2.ext e183).wr w193).ext e197).wr w207).ext e211).wr w221) f223 (by decide))).ext e197).other w207 (ne_exa f242 (((f223.wr w226).ext e233).wr w239) (by decide)) (ne_exa ((((((G1.2.2.2.ext e183).wr w193).ext e197).wr w207).ext e211).wr w221) f223 (by decide))).ext e211).other w221 (ne_exa f242 (((f223.wr w226).ext e233).wr w239) (by decide)) (ne_exa ((((((G1.2.2.2.ext e183).wr w193).ext e197).wr w207).ext e211).wr w221) f223 (by decide))).other w226 (ne_exa f242 (((f223.wr w226).ext e233).wr w239) (by decide)) (ne_exa ((((((G1.2.2.2.ext e183).wr w193).ext e197).wr w207).ext e211).wr w221) f223 (by decide))).lt (Nat.le_of_eq g231.symm))) (Nat.ne_of_lt (Nat.lt_of_lt_of_le (((((((G1.ext e183).other w193 (ne_exa f242 (((f223.wr w226).ext e233).wr w239) (by decide)) (ne_exa ((((((G1.2.2.2.ext e183).wr w193).ext e197).wr w207).ext e211).wr w221) f223 (by decide))).ext e197).other w207 (ne_exa f242 (((f223.wr w226).ext e233).wr w239) (by decide)) (ne_exa ((((((G1.2.2.2.ext e183).wr w193).ext e197).wr w207).ext e211).wr w221) f223 (by decide))).ext e211).other w221 (ne_exa f242 (((f223.wr w226).ext e233).wr w239) (by decide)) (ne_exa ((((((G1.2.2.2.ext e183).wr w193).ext e197).wr w207).ext e211).wr w221) f223 (by decide))).other w226 (ne_exa f242 (((f223.wr w226).ext e233).wr w239) (by decide)) (ne_exa ((((((G1.2.2.2.ext e183).wr w193).ext e197).wr w207).ext e211).wr w221) f223 (by decide))).lt' (Nat.le_of_eq g231.symm)))).other w244 (Nat.ne_of_lt (Nat.lt_of_lt_of_le (((((((G1.ext e183).other w193 (ne_exa f242 (((f223.wr w226).ext e233).wr w239) (by decide)) (ne_exa ((((((G1.2.2.2.ext e183).wr w193).ext e197).wr w207).ext e211).wr w221) f223 (by decide))).ext e197).other w207 (ne_exa f242 (((f223.wr w226).ext e233).wr w239) (by decide)) (ne_exa ((((((G1.2.2.2.ext e183).wr w193).ext e197).wr w207).ext e211).wr w221) f223 (by decide))).ext e211).other w221 (ne_exa f242 (((f223.wr w226).ext e233).wr w239) (by decide)) (ne_exa ((((((G1.2.2.2.ext e183).wr w193).ext e197).wr w207).ext e211).wr w221) f223 (by decide))).other w226 (ne_exa f242 (((f223.wr w226).ext e233).wr w239) (by decide)) (ne_exa ((((((G1.2.2.2.ext e183).wr w193).ext e197).wr w207).ext e211).wr w221) f223 (by decide))).lt (Nat.le_of_eq g231.symm))) (Nat.ne_of_lt (Nat.lt_of_lt_of_le (((((((G1.ext e183).other w193 (ne_exa f242 (((f223.wr w226).ext e233).wr w239) (by decide)) (ne_exa ((((((G1.2.2.2.ext e183).wr w193).ext e197).wr w207).ext e211).wr w221) f223 (by decide))).ext e197).other w207 (ne_exa f242 (((f223.wr w226).ext e233).wr w239) (by decide)) (ne_exa ((((((G1.2.2.2.ext e183).wr w193).ext e197).wr w207).ext e211).wr w221) f223 (by decide))).ext e211).other w221 (ne_exa f242 (((f223.wr w226).ext e233).wr w239) (by decide)) (ne_exa ((((((G1.2.2.2.ext e183).wr w193).ext e197).wr w207).ext e211).wr w221) f223 (by decide))).other w226 (ne_exa f242 (((f223.wr w226).ext e233).wr w239) (by decide)) (ne_exa ((((((G1.2.2.2.ext e183).wr w193).ext e197).wr w207).ext e211).wr w221) f223 (by decide))).lt' (Nat.le_of_eq g231.symm)))).other w249 (Nat.ne_of_lt (Nat.lt_of_lt_of_le (((((((G1.ext e183).other w193 (ne_exa f242 (((f223.wr w226).ext e233).wr w239) (by decide)) (ne_exa ((((((G1.2.2.2.ext e183).wr w193).ext e197).wr w207).ext e211).wr w221) f223 (by decide))).ext e197).other w207 (ne_exa f242 (((f223.wr w226).ext e233).wr w239) (by decide)) (ne_exa ((((((G1.2.2.2.ext e183).wr w193).ext e197).wr w207).ext e211).wr w221) f223 (by decide))).ext e211).other w221 (ne_exa f242 (((f223.wr w226).ext e233).wr w239) (by decide)) (ne_exa ((((((G1.2.2.2.ext e183).wr w193).ext e197).wr w207).ext e211).wr w221) f223 (by decide))).other w226 (ne_exa f242 (((f223.wr w226).ext e233).wr w239) (by decide)) (ne_exa ((((((G1.2.2.2.ext e183).wr w193).ext e197).wr w207).ext e211).wr w221) f223 (by decide))).lt (Nat.le_of_eq g231.symm))) (Nat.ne_of_lt (Nat.lt_of_lt_of_le (((((((G1.ext e183).other w193 (ne_exa f242 (((f223.wr w226).ext e233).wr w239) (by decide)) (ne_exa ((((((G1.2.2.2.ext e183).wr w193).ext e197).wr w207).ext e211).wr w221) f223 (by decide))).ext e197).other w207 (ne_exa f242 (((f223.wr w226).ext e233).wr w239) (by decide)) (ne_exa ((((((G1.2.2.2.ext e183).wr w193).ext e197).wr w207).ext e211).wr w221) f223 (by decide))).ext e211).other w221 (ne_exa f242 (((f223.wr w226).ext e233).wr w239) (by decide)) (ne_exa ((((((G1.2.2.2.ext e183).wr w193).ext e197).wr w207).ext e211).wr w221) f223 (by decide))).other w226 (ne_exa f242 (((f223.wr w226).ext e233).wr w239) (by decide)) (ne_exa ((((((G1.2.2.2.ext e183).wr w193).ext e197).wr w207).ext e211).wr w221) f223 (by decide))).lt' (Nat.le_of_eq g231.symm))))
  have f254 := (((((((((((G2.ext e183).other w193 (ne_exa f247 ((((f223.wr w226).ext e233).wr w239).wr w244) (by decide)) (ne_exa ((((((G2.2.2.2.ext e183).wr w193).ext e197).wr w207).ext e211).wr w221) f223 (by decide))).ext e197).other w207 (ne_exa f247 ((((f223.wr w226).ext e233).wr w239).wr w244) (by decide)) (ne_exa ((((((G2.2.2.2.ext e183).wr w193).ext e197).wr w207).ext e211).wr w221) f223 (by decide))).ext e211).other w221 (ne_exa f247 ((((f223.wr w226).ext e233).wr w239).wr w244) (by decide)) (ne_exa ((((((G2.2.2.2.ext e183).wr w193).ext e197).wr w207).ext e211).wr w221) f223 (by decide))).other w226 (ne_exa f247 ((((f223.wr w226).ext e233).wr w239).wr w244) (by decide)) (ne_exa ((((((G2.2.2.2.ext e183).wr w193).ext e197).wr w207).ext e211).wr w221) f223 (by decide))).ext e233).other w239 (Nat.ne_of_lt (Nat.lt_of_lt_of_le (((((((G2.ext e183).other w193 (ne_exa f247 ((((f223.wr w226).ext e233).wr w239).wr w244) (by decide)) (ne_exa ((((((G2.2.2.2.ext e183).wr w193).ext e197).wr w207).ext e211).wr w221) f223 (by decide))).ext e197).other w207 (ne_exa f247 ((((f223.wr w226).ext e233).wr w239).wr w244) (by decide)) (ne_exa ((((((G2.2.2.2.ext e183).wr w193).ext e197).wr w207).ext e211).wr w221) f223 (by decide))).ext e211).other w221 (ne_exa f247 ((((f223.wr w226).ext e233).wr w239).wr w244) (by decide)) (ne_exa ((((((G2.2.2.2.ext e183).wr w193).ext e197).wr w207).ext e211).wr w221) f223 (by decide))).other w226 (ne_exa f247 ((((f223.wr w226).ext e233).wr w239).wr w244) (by decide)) (ne_exa ((((((G2.2.2.2.ext e183).wr w193).ext e197).wr w207).ext e211).wr w221) f223 (by decide))).lt (Nat.le_of_eq g231.symm))) (Nat.ne_of_lt (Nat.lt_of_lt_of_le (((((((G2.ext e183).other w193 (ne_exa f247 ((((f223.wr w226).ext e233).wr w239).wr w244) (by decide)) (ne_exa ((((((G2.2.2.2.ext e183).wr w193).ext e197).wr w207).ext e211).wr w221) f223 (by decide))).ext e197).other w207 (ne_exa f247 ((((f223.wr w226).ext e233).wr w239).wr w244) (by decide)) (ne_exa ((((((G2.2.2.2.ext e183).wr w193).ext e197).wr w207).ext e211).wr w221) f223 (by decide))).ext e211).other w221 (ne_exa f247 ((((f223.wr w226).ext e233).wr w239).wr w244) (by decide)) (ne_exa ((((((G2.2.2.2.ext e183).wr w193).ext e197).wr w207).ext e211).wr w221) f223 (by decide))).other w226 (ne_exa f247 ((((f223.wr w226).ext e233).wr w239).wr w244) (by decide)) (ne_exa ((((((G2.2.2.2.ext e183).wr w193).ext e197).wr w207).ext e211).wr w221) f223 (by decide))).lt' (Nat.le_of_eq g231.symm)))).other w244 (Nat.ne_of_lt (Nat.lt_of_lt_of_le (((((((G2.ext e183).other w193 (ne_exa f247 ((((f223.wr w226).ext e233).wr w239).wr w244) (by decide)) (ne_exa ((((((G2.2.2.2.ext e183).wr w193).ext e197).wr w207).ext e211).wr w221) f223 (by decide))).ext e197).other w207 (ne_exa f247 ((((f223.wr w226).ext e233).wr w239).wr w244) (by decide)) (ne_exa ((((((G2.2.2.2.ext e183).wr w193).ext e197).wr w207).ext e211).wr w221) f223 (by decide))).ext e211).other w221 (ne_exa f247 ((((f223.wr w226).ext e233).wr w239).wr w244) (by decide)) (ne_exa ((((((G2.2.2.2.ext e183).wr w193).ext e197).wr w207).ext e211).wr w221) f223 (by decide))).other w226 (ne_exa f247 ((((f223.wr w226).ext e233).wr w239).wr w244) (by decide)) (ne_exa ((((((G2.2.2.2.ext e183).wr w193).ext e197).wr w207).ext e211).wr w221) f223 (by decide))).lt (Nat.le_of_eq g231.symm))) (Nat.ne_of_lt (Nat.lt_of_lt_of_le (((((((G2.ext e183).other w193 (ne_exa f247 ((((f223.wr w226).ext e233).wr w239).wr w244) (by decide)) (ne_exa ((((((G2.2.2.2.ext e183).wr w193).ext e197).wr w207).ext e211).wr w221) f223 (by decide))).ext e197).other w207 (ne_exa f247 ((((f223.wr w226).ext e233).wr w239).wr w244) (by decide)) (ne_exa ((((((G2.2.2.2.ext e183).wr w193).ext e197).wr w207).ext e211).wr w221) f223 (by decide))).ext e211).other w221 (ne_exa f247 ((((f223.wr w226).ext e233).wr w239).wr w244) (by decide)) (ne_exa ((((((G2.2.2.2.ext e183).wr w193).ext e197).wr w207).ext e211).wr w221) f223 (by decide))).other w226 (ne_exa f247 ((((f223.wr w226).ext e233).wr w239).wr w244) (by decide)) (ne_exa ((((((G2.2.2.2.ext e183).wr w193).ext e197).wr w207).ext e211).wr w221) f223 (by decide))).lt' (Nat.le_of_eq g231.symm)))).other w249 (Nat.ne_of_lt (Nat.lt_of_lt_of_le (((((((G2.ext e183).other w193 (ne_exa f247 ((((f223.wr w226).ext e233).wr w239).wr w244) (by decide)) (ne_exa ((((((G2.2.2.2.ext e183).wr w193).ext e197).wr w207).ext e211).wr w221) f223 (by decide))).ext e197).other w207 (ne_exa f247 ((((f223.wr w226).ext e233).wr w239).wr w244) (by decide)) (ne_exa ((((((G2.2.2.2.ext e183).wr w193).ext e197).wr w207).ext e211).wr w221) f223 (by decide))).ext e211).other w221 (ne_exa f247 ((((f223.wr w226).ext e233).wr w239).wr w244) (by decide)) (ne_exa ((((((G2.2.2.2.ext e183).wr w193).ext e197).wr w207).ext e211).wr w221) f223 (by decide))).other w226 (ne_exa f247 ((((f223.wr w226).ext e233).wr w239).wr w244) (by decide)) (ne_exa ((((((G2.2.2.2.ext e183).wr w193).ext e197).wr w207).ext e211).wr w221) f223 (by decide))).lt (Nat.le_of_eq g231.symm))) (Nat.ne_of_lt (Nat.lt_of_lt_of_le (((((((G2.ext e183).other w193 (ne_exa f247 ((((f223.wr w226).ext e233).wr w239).wr w244) (by decide)) (ne_exa ((((((G2.2.2.2.ext e183).wr w193).ext e197).wr w207).ext e211).wr w221) f223 (by decide))).ext e197).other w207 (ne_exa f247 ((((f223.wr w226).ext e233).wr w239).wr w244) (by decide)) (ne_exa ((((((G2.2.2.2.ext e183).wr w193).ext e197).wr w207).ext e211).wr w221) f223 (by decide))).ext e211).other w221 (ne_exa f247 ((((f223.wr w226).ext e233).wr w239).wr w244) (by decide)) (ne_exa ((((((G2.2.2.2.ext e183).wr w193).ext e197).wr w207).ext e211).wr w221) f223 (by decide))).other w226 (ne_exa f247 ((((f223.wr w226).ext e233).wr w239).wr w244) (by decide)) (ne_exa ((((((G2.2.2.2.ext e183).wr w193).ext e197).wr w207).ext e211).wr w221) f223 (by decide))).lt' (Nat.le_of_eq g231.symm))))
  refine W.o_static X (pc' := 69) d_prog_8_method_1_66 rfl (z := (⟨"java/util/Objects", "hash", "([Ljava/lang/Object;)I"⟩ : MethodName)) (hw _ (List.mem_of_getElem? (i := 54) rfl)) (hw _ (List.mem_of_getElem? (i := 55) rfl)) (hw _ (List.mem_of_getElem? (i := 38) rfl)) (hw _ (List.mem_of_getElem? (i := 56) rfl)) (by decide) (ctOH l Z a0 hw b229 s0 s1 s2 t0 t1 t2 k230 cs0 cs1 cs2 cz h248 C0 hcz f251 n0 z0 f252 (Ne.symm (Nat.ne_of_lt (Nat.lt_of_lt_of_le (((((((G0.ext e183).other w193 (ne_exa f237 ((f223.wr w226).ext e233) (by decide)) (ne_exa ((((((G0.2.2.2.ext e183).wr w193).ext e197).wr w207).ext e211).wr w221) f223 (by decide))).ext e197).other w207 (ne_exa f237 ((f223.wr w226).ext e233) (by decide)) (ne_exa ((((((G0.2.2.2.ext e183).wr w193).ext e197).wr w207).ext e211).wr w221) f223 (by decide))).ext e211).other w221 (ne_exa f237 ((f223.wr w226).ext e233) (by decide)) (ne_exa ((((((G0.2.2.2.ext e183).wr w193).ext e197).wr w207).ext e211).wr w221) f223 (by decide))).other w226 (ne_exa f237 ((f223.wr w226).ext e233) (by decide)) (ne_exa ((((((G0.2.2.2.ext e183).wr w193).ext e197).wr w207).ext e211).wr w221) f223 (by decide))).lt (Nat.le_of_eq g231.symm)))) n1 z1 f253 (Ne.symm (Nat.ne_of_lt (Nat.lt_of_lt_of_le (((((((G1.ext e183).other w193 (ne_exa f242 (((f223.wr w226).ext e233).wr w239) (by decide)) (ne_exa ((((((G1.2.2.2.ext e183).wr w193).ext e197).wr w207).ext e211).wr w221) f223 (by decide))).ext e197).other w207 (ne_exa f242 (((f223.wr w226).ext e233).wr w239) (by decide)) (ne_exa ((((((G1.2.2.2.ext e183).wr w193).ext e197).wr w207).ext e211).wr w221) f223 (by decide))).ext e211).other w221 (ne_exa f242 (((f223.wr w226).ext e233).wr w239) (by decide)) (ne_exa ((((((G1.2.2.2.ext e183).wr w193).ext e197).wr w207).ext e211).wr w221) f223 (by decide))).other w226 (ne_exa f242 (((f223.wr w226).ext e233).wr w239) (by decide)) (ne_exa ((((((G1.2.2.2.ext e183).wr w193).ext e197).wr w207).ext e211).wr w221) f223 (by decide))).lt (Nat.le_of_eq g231.symm)))) n2 z2 f254 (Ne.symm (Nat.ne_of_lt (Nat.lt_of_lt_of_le (((((((G2.ext e183).other w193 (ne_exa f247 ((((f223.wr w226).ext e233).wr w239).wr w244) (by decide)) (ne_exa ((((((G2.2.2.2.ext e183).wr w193).ext e197).wr w207).ext e211).wr w221) f223 (by decide))).ext e197).other w207 (ne_exa f247 ((((f223.wr w226).ext e233).wr w239).wr w244) (by decide)) (ne_exa ((((((G2.2.2.2.ext e183).wr w193).ext e197).wr w207).ext e211).wr w221) f223 (by decide))).ext e211).other w221 (ne_exa f247 ((((f223.wr w226).ext e233).wr w239).wr w244) (by decide)) (ne_exa ((((((G2.2.2.2.ext e183).wr w193).ext e197).wr w207).ext e211).wr w221) f223 (by decide))).other w226 (ne_exa f247 ((((f223.wr w226).ext e233).wr w239).wr w244) (by decide)) (ne_exa ((((((G2.2.2.2.ext e183).wr w193).ext e197).wr w207).ext e211).wr w221) f223 (by decide))).lt (Nat.le_of_eq g231.symm)))) r01 r02 r12) (allS ⟨(((((((((((G0.ext e183).other w193 (ne_exa f237 ((f223.wr w226).ext e233) (by decide)) (ne_exa ((((((G0.2.2.2.ext e183).wr w193).ext e197).wr w207).ext e211).wr w221) f223 (by decide))).ext e197).other w207 (ne_exa f237 ((f223.wr w226).ext e233) (by decide)) (ne_exa ((((((G0.2.2.2.ext e183).wr w193).ext e197).wr w207).ext e211).wr w221) f223 (by decide))).ext e211).other w221 (ne_exa f237 ((f223.wr w226).ext e233) (by decide)) (ne_exa ((((((G0.2.2.2.ext e183).wr w193).ext e197).wr w207).ext e211).wr w221) f223 (by decide))).other w226 (ne_exa f237 ((f223.wr w226).ext e233) (by decide)) (ne_exa ((((((G0.2.2.2.ext e183).wr w193).ext e197).wr w207).ext e211).wr w221) f223 (by decide))).ext e233).other w239 (Nat.ne_of_lt (Nat.lt_of_lt_of_le (((((((G0.ext e183).other w193 (ne_exa f237 ((f223.wr w226).ext e233) (by decide)) (ne_exa ((((((G0.2.2.2.ext e183).wr w193).ext e197).wr w207).ext e211).wr w221) f223 (by decide))).ext e197).other w207 (ne_exa f237 ((f223.wr w226).ext e233) (by decide)) (ne_exa ((((((G0.2.2.2.ext e183).wr w193).ext e197).wr w207).ext e211).wr w221) f223 (by decide))).ext e211).other w221 (ne_exa f237 ((f223.wr w226).ext e233) (by decide)) (ne_exa ((((((G0.2.2.2.ext e183).wr w193).ext e197).wr w207).ext e211).wr w221) f223 (by decide))).other w226 (ne_exa f237 ((f223.wr w226).ext e233) (by decide)) (ne_exa ((((((G0.2.2.2.ext e183).wr w193).ext e197).wr w207).ext e211).wr w221) f223 (by decide))).lt (Nat.le_of_eq g231.symm))) (Nat.ne_of_lt (Nat.lt_of_lt_of_le (((((((G0.ext e183).other w193 (ne_exa f237 ((f223.wr w226).ext e233) (by decide)) (ne_exa ((((((G0.2.2.2.ext e183).wr w193).ext e197).wr w207).ext e211).wr w221) f223 (by decide))).ext e197).other w207 (ne_exa f237 ((f223.wr w226).ext e233) (by decide)) (ne_exa ((((((G0.2.2.2.ext e183).wr w193).ext e197).wr w207).ext e211).wr w221) f223 (by decide))).ext e211).other w221 (ne_exa f237 ((f223.wr w226).ext e233) (by decide)) (ne_exa ((((((G0.2.2.2.ext e183).wr w193).ext e197).wr w207).ext e211).wr w221) f223 (by decide))).other w226 (ne_exa f237 ((f223.wr w226).ext e233) (by decide)) (ne_exa ((((((G0.2.2.2.ext e183).wr w193).ext e197).wr w207).ext e211).wr w221) f223 (by decide))).lt' (Nat.le_of_eq g231.symm)))).other w244 (Nat.ne_of_lt (Nat.lt_of_lt_of_le (((((((G0.ext e183).other w193 (ne_exa f237 ((f223.wr w226).ext e233) (by decide)) (ne_exa ((((((G0.2.2.2.ext e183).wr w193).ext e197).wr w207).ext e211).wr w221) f223 (by decide))).ext e197).other w207 (ne_exa f237 ((f223.wr w226).ext e233) (by decide)) (ne_exa ((((((G0.2.2.2.ext e183).wr w193).ext e197).wr w207).ext e211).wr w221) f223 (by decide))).ext e211).other w221 (ne_exa f237 ((f223.wr w226).ext e233) (by decide)) (ne_exa ((((((G0.2.2.2.ext e183).wr w193).ext e197).wr w207).ext e211).wr w221) f223 (by decide))).other w226 (ne_exa f237 ((f223.wr w226).ext e233) (by decide)) (ne_exa ((((((G0.2.2.2.ext e183).wr w193).ext e197).wr w207).ext e211).wr w221) f223 (by decide))).lt (Nat.le_of_eq g231.symm))) (Nat.ne_of_lt (Nat.lt_of_lt_of_le (((((((G0.ext e183).other w193 (ne_exa f237 ((f223.wr w226).ext e233) (by decide)) (ne_exa ((((((G0.2.2.2.ext e183).wr w193).ext e197).wr w207).ext e211).wr w221) f223 (by decide))).ext e197).other w207 (ne_exa f237 ((f223.wr w226).ext e233) (by decide)) (ne_exa ((((((G0.2.2.2.ext e183).wr w193).ext e197).wr w207).ext e211).wr w221) f223 (by decide))).ext e211).other w221 (ne_exa f237 ((f223.wr w226).ext e233) (by decide)) (ne_exa ((((((G0.2.2.2.ext e183).wr w193).ext e197).wr w207).ext e211).wr w221) f223 (by decide))).other w226 (ne_exa f237 ((f223.wr w226).ext e233) (by decide)) (ne_exa ((((((G0.2.2.2.ext e183).wr w193).ext e197).wr w207).ext e211).wr w221) f223 (by decide))).lt' (Nat.le_of_eq g231.symm)))).other w249 (Nat.ne_of_lt (Nat.lt_of_lt_of_le (((((((G0.ext e183).other w193 (ne_exa f237 ((f223.wr w226).ext e233) (by decide)) (ne_exa ((((((G0.2.2.2.ext e183).wr w193).ext e197).wr w207).ext e211).wr w221) f223 (by decide))).ext e197).other w207 (ne_exa f237 ((f223.wr w226).ext e233) (by decide)) (ne_exa ((((((G0.2.2.2.ext e183).wr w193).ext e197).wr w207).ext e211).wr w221) f223 (by decide))).ext e211).other w221 (ne_exa f237 ((f223.wr w226).ext e233) (by decide)) (ne_exa ((((((G0.2.2.2.ext e183).wr w193).ext e197).wr w207).ext e211).wr w221) f223 (by decide))).other w226 (ne_exa f237 ((f223.wr w226).ext e233) (by decide)) (ne_exa ((((((G0.2.2.2.ext e183).wr w193).ext e197).wr w207).ext e211).wr w221) f223 (by decide))).lt (Nat.le_of_eq g231.symm))) (Nat.ne_of_lt (Nat.lt_of_lt_of_le (((((((G0.ext e183).other w193 (ne_exa f237 ((f223.wr w226).ext e233) (by decide)) (ne_exa ((((((G0.2.2.2.ext e183).wr w193).ext e197).wr w207).ext e211).wr w221) f223 (by decide))).ext e197).other w207 (ne_exa f237 ((f223.wr w226).ext e233) (by decide)) (ne_exa ((((((G0.2.2.2.ext e183).wr w193).ext e197).wr w207).ext e211).wr w221) f223 (by decide))).ext e211).other w221 (ne_exa f237 ((f223.wr w226).ext e233) (by decide)) (ne_exa ((((((G0.2.2.2.ext e183).wr w193).ext e197).wr w207).ext e211).wr w221) f223 (by decide))).other w226 (ne_exa f237 ((f223.wr w226).ext e233) (by decide)) (ne_exa ((((((G0.2.2.2.ext e183).wr w193).ext e197).wr w207).ext e211).wr w221) f223 (by decide))).lt' (Nat.le_of_eq g231.symm)))).lt, (Or.inl rfl)⟩ (allS ⟨(((((((((((G1.ext e183).other w193 (ne_exa f242 (((f223.wr w226).ext e233).wr w239) (by decide)) (ne_exa ((((((G1.2.2.2.ext e183).wr w193).ext e197).wr w207).ext e211).wr w221) f223 (by decide))).ext e197).other w207 (ne_exa f242 (((f223.wr w226).ext e233).wr w239) (by decide)) (ne_exa ((((((G1.2.2.2.ext e183).wr w193).ext e197).wr w207).ext e211).wr w221) f223 (by decide))).ext e211).other w221 (ne_exa f242 (((f223.wr w226).ext e233).wr w239) (by decide)) (ne_exa ((((((G1.2.2.2.ext e183).wr w193).ext e197).wr w207).ext e211).wr w221) f223 (by decide))).other w226 (ne_exa f242 (((f223.wr w226).ext e233).wr w239) (by decide)) (ne_exa ((((((G1.2.2.2.ext e183).wr w193).ext e197).wr w207).ext e211).wr w221) f223 (by decide))).ext e233).other w239 (Nat.ne_of_lt (Nat.lt_of_lt_of_le (((((((G1.ext e183).other w193 (ne_exa f242 (((f223.wr w226).ext e233).wr w239) (by decide)) (ne_exa ((((((G1.2.2.2.ext e183).wr w193).ext e197).wr w207).ext e211).wr w221) f223 (by decide))).ext e197).other w207 (ne_exa f242 (((f223.wr w226).ext e233).wr w239) (by decide)) (ne_exa ((((((G1.2.2.2.ext e183).wr w193).ext e197).wr w207).ext e211).wr w221) f223 (by decide))).ext e211).other w221 (ne_exa f242 (((f223.wr w226).ext e233).wr w239) (by decide)) (ne_exa ((((((G1.2.2.2.ext e183).wr w193).ext e197).wr w207).ext e211).wr w221) f223 (by decide))).other w226 (ne_exa f242 (((f223.wr w226).ext e233).wr w239) (by decide)) (ne_exa ((((((G1.2.2.2.ext e183).wr w193).ext e197).wr w207).ext e211).wr w221) f223 (by decide))).lt (Nat.le_of_eq g231.symm))) (Nat.ne_of_lt (Nat.lt_of_lt_of_le (((((((G1.ext e183).other w193 (ne_exa f242 (((f223.wr w226).ext e233).wr w239) (by decide)) (ne_exa ((((((G1.2.2.2.ext e183).wr w193).ext e197).wr w207).ext e211).wr w221) f223 (by decide))).ext e197).other w207 (ne_exa f242 (((f223.wr w226).ext e233).wr w239) (by decide)) (ne_exa ((((((G1.2.2.2.ext e183).wr w193).ext e197).wr w207).ext e211).wr w221) f223 (by decide))).ext e211).other w221 (ne_exa f242 (((f223.wr w226).ext e233).wr w239) (by decide)) (ne_exa ((((((G1.2.2.2.ext e183).wr w193).ext e197).wr w207).ext e211).wr w221) f223 (by decide))).other w226 (ne_exa f242 (((f223.wr w226).ext e233).wr w239) (by decide)) (ne_exa ((((((G1.2.2.2.ext e183).wr w193).ext e197).wr w207).ext e211).wr w221) f223 (by decide))).lt' (Nat.le_of_eq g231.symm)))).other w244 (Nat.ne_of_lt (Nat.lt_of_lt_of_le (((((((G1.ext e183).other w193 (ne_exa f242 (((f223.wr w226).ext e233).wr w239) (by decide)) (ne_exa ((((((G1.2.2.2.ext e183).wr w193).ext e197).wr w207).ext e211).wr w221) f223 (by decide))).ext e197).other w207 (ne_exa f242 (((f223.wr w226).ext e233).wr w239) (by decide)) (ne_exa ((((((G1.2.2.2.ext e183).wr w193).ext e197).wr w207).ext e211).wr w221) f223 (by decide))).ext e211).other w221 (ne_exa f242 (((f223.wr w226).ext e233).wr w239) (by decide)) (ne_exa ((((((G1.2.2.2.ext e183).wr w193).ext e197).wr w207).ext e211).wr w221) f223 (by decide))).other w226 (ne_exa f242 (((f223.wr w226).ext e233).wr w239) (by decide)) (ne_exa ((((((G1.2.2.2.ext e183).wr w193).ext e197).wr w207).ext e211).wr w221) f223 (by decide))).lt (Nat.le_of_eq g231.symm))) (Nat.ne_of_lt (Nat.lt_of_lt_of_le (((((((G1.ext e183).other w193 (ne_exa f242 (((f223.wr w226).ext e233).wr w239) (by decide)) (ne_exa ((((((G1.2.2.2.ext e183).wr w193).ext e197).wr w207).ext e211).wr w221) f223 (by decide))).ext e197).other w207 (ne_exa f242 (((f223.wr w226).ext e233).wr w239) (by decide)) (ne_exa ((((((G1.2.2.2.ext e183).wr w193).ext e197).wr w207).ext e211).wr w221) f223 (by decide))).ext e211).other w221 (ne_exa f242 (((f223.wr w226).ext e233).wr w239) (by decide)) (ne_exa ((((((G1.2.2.2.ext e183).wr w193).ext e197).wr w207).ext e211).wr w221) f223 (by decide))).other w226 (ne_exa f242 (((f223.wr w226).ext e233).wr w239) (by decide)) (ne_exa ((((((G1.2.2.2.ext e183).wr w193).ext e197).wr w207).ext e211).wr w221) f223 (by decide))).lt' (Nat.le_of_eq g231.symm)))).other w249 (Nat.ne_of_lt (Nat.lt_of_lt_of_le (((((((G1.ext e183).other w193 (ne_exa f242 (((f223.wr w226).ext e233).wr w239) (by decide)) (ne_exa ((((((G1.2.2.2.ext e183).wr w193).ext e197).wr w207).ext e211).wr w221) f223 (by decide))).ext e197).other w207 (ne_exa f242 (((f223.wr w226).ext e233).wr w239) (by decide)) (ne_exa ((((((G1.2.2.2.ext e183).wr w193).ext e197).wr w207).ext e211).wr w221) f223 (by decide))).ext e211).other w221 (ne_exa f242 (((f223.wr w226).ext e233).wr w239) (by decide)) (ne_exa ((((((G1.2.2.2.ext e183).wr w193).ext e197).wr w207).ext e211).wr w221) f223 (by decide))).other w226 (ne_exa f242 (((f223.wr w226).ext e233).wr w239) (by decide)) (ne_exa ((((((G1.2.2.2.ext e183).wr w193).ext e197).wr w207).ext e211).wr w221) f223 (by decide))).lt (Nat.le_of_eq g231.symm))) (Nat.ne_of_lt (Nat.lt_of_lt_of_le (((((((G1.ext e183).other w193 (ne_exa f242 (((f223.wr w226).ext e233).wr w239) (by decide)) (ne_exa ((((((G1.2.2.2.ext e183).wr w193).ext e197).wr w207).ext e211).wr w221) f223 (by decide))).ext e197).other w207 (ne_exa f242 (((f223.wr w226).ext e233).wr w239) (by decide)) (ne_exa ((((((G1.2.2.2.ext e183).wr w193).ext e197).wr w207).ext e211).wr w221) f223 (by decide))).ext e211).other w221 (ne_exa f242 (((f223.wr w226).ext e233).wr w239) (by decide)) (ne_exa ((((((G1.2.2.2.ext e183).wr w193).ext e197).wr w207).ext e211).wr w221) f223 (by decide))).other w226 (ne_exa f242 (((f223.wr w226).ext e233).wr w239) (by decide)) (ne_exa ((((((G1.2.2.2.ext e183).wr w193).ext e197).wr w207).ext e211).wr w221) f223 (by decide))).lt' (Nat.le_of_eq g231.symm)))).lt, (Or.inl rfl)⟩ (allS ⟨(((((((((((G2.ext e183).other w193 (ne_exa f247 ((((f223.wr w226).ext e233).wr w239).wr w244) (by decide)) (ne_exa ((((((G2.2.2.2.ext e183).wr w193).ext e197).wr w207).ext e211).wr w221) f223 (by decide))).ext e197).other w207 (ne_exa f247 ((((f223.wr w226).ext e233).wr w239).wr w244) (by decide)) (ne_exa ((((((G2.2.2.2.ext e183).wr w193).ext e197).wr w207).ext e211).wr w221) f223 (by decide))).ext e211).other w221 (ne_exa f247 ((((f223.wr w226).ext e233).wr w239).wr w244) (by decide)) (ne_exa ((((((G2.2.2.2.ext e183).wr w193).ext e197).wr w207).ext e211).wr w221) f223 (by decide))).other w226 (ne_exa f247 ((((f223.wr w226).ext e233).wr w239).wr w244) (by decide)) (ne_exa ((((((G2.2.2.2.ext e183).wr w193).ext e197).wr w207).ext e211).wr w221) f223 (by decide))).ext e233).other w239 (Nat.ne_of_lt (Nat.lt_of_lt_of_le (((((((G2.ext e183).other w193 (ne_exa f247 ((((f223.wr w226).ext e233).wr w239).wr w244) (by decide)) (ne_exa ((((((G2.2.2.2.ext e183).wr w193).ext e197).wr w207).ext e211).wr w221) f223 (by decide))).ext e197).other w207 (ne_exa f247 ((((f223.wr w226).ext e233).wr w239).wr w244) (by decide)) (ne_exa ((((((G2.2.2.2.ext e183).wr w193).ext e197).wr w207).ext e211).wr w221) f223 (by decide))).ext e211).other w221 (ne_exa f247 ((((f223.wr w226).ext e233).wr w239).wr w244) (by decide)) (ne_exa ((((((G2.2.2.2.ext e183).wr w193).ext e197).wr w207).ext e211).wr w221) f223 (by decide))).other w226 (ne_exa f247 ((((f223.wr w226).ext e233).wr w239).wr w244) (by decide)) (ne_exa ((((((G2.2.2.2.ext e183).wr w193).ext e197).wr w207).ext e211).wr w221) f223 (by decide))).lt (Nat.le_of_eq g231.symm))) (Nat.ne_of_lt (Nat.lt_of_lt_of_le (((((((G2.ext e183).other w193 (ne_exa f247 ((((f223.wr w226).ext e233).wr w239).wr w244) (by decide)) (ne_exa ((((((G2.2.2.2.ext e183).wr w193).ext e197).wr w207).ext e211).wr w221) f223 (by decide))).ext e197).other w207 (ne_exa f247 ((((f223.wr w226).ext e233).wr w239).wr w244) (by decide)) (ne_exa ((((((G2.2.2.2.ext e183).wr w193).ext e197).wr w207).ext e211).wr w221) f223 (by decide))).ext e211).other w221 (ne_exa f247 ((((f223.wr w226).ext e233).wr w239).wr w244) (by decide)) (ne_exa ((((((G2.2.2.2.ext e183).wr w193).ext e197).wr w207).ext e211).wr w221) f223 (by decide))).other w226 (ne_exa f247 ((((f223.wr w226).ext e233).wr w239).wr w244) (by decide)) (ne_exa ((((((G2.2.2.2.ext e183).wr w193).ext e197).wr w207).ext e211).wr w221) f223 (by decide))).lt' (Nat.le_of_eq g231.symm)))).other w244 (Nat.ne_of_lt (Nat.lt_of_lt_of_le (((((((G2.ext e183).other w193 (ne_exa f247 ((((f223.wr w226).ext e233).wr w239).wr w244) (by decide)) (ne_exa ((((((G2.2.2.2.ext e183).wr w193).ext e197).wr w207).ext e211).wr w221) f223 (by decide))).ext e197).other w207 (ne_exa f247 ((((f223.wr w226).ext e233).wr w239).wr w244) (by decide)) (ne_exa ((((((G2.2.2.2.ext e183).wr w193).ext e197).wr w207).ext e211).wr w221) f223 (by decide))).ext e211).other w221 (ne_exa f247 ((((f223.wr w226).ext e233).wr w239).wr w244) (by decide)) (ne_exa ((((((G2.2.2.2.ext e183).wr w193).ext e197).wr w207).ext e211).wr w221) f223 (by decide))).other w226 (ne_exa f247 ((((f223.wr w226).ext e233).wr w239).wr w244) (by decide)) (ne_exa ((((((G2.2.2.2.ext e183).wr w193).ext e197).wr w207).ext e211).wr w221) f223 (by decide))).lt (Nat.le_of_eq g231.symm))) (Nat.ne_of_lt (Nat.lt_of_lt_of_le (((((((G2.ext e183).other w193 (ne_exa f247 ((((f223.wr w226).ext e233).wr w239).wr w244) (by decide)) (ne_exa ((((((G2.2.2.2.ext e183).wr w193).ext e197).wr w207).ext e211).wr w221) f223 (by decide))).ext e197).other w207 (ne_exa f247 ((((f223.wr w226).ext e233).wr w239).wr w244) (by decide)) (ne_exa ((((((G2.2.2.2.ext e183).wr w193).ext e197).wr w207).ext e211).wr w221) f223 (by decide))).ext e211).other w221 (ne_exa f247 ((((f223.wr w226).ext e233).wr w239).wr w244) (by decide)) (ne_exa ((((((G2.2.2.2.ext e183).wr w193).ext e197).wr w207).ext e211).wr w221) f223 (by decide))).other w226 (ne_exa f247 ((((f223.wr w226).ext e233).wr w239).wr w244) (by decide)) (ne_exa ((((((G2.2.2.2.ext e183).wr w193).ext e197).wr w207).ext e211).wr w221) f223 (by decide))).lt' (Nat.le_of_eq g231.symm)))).other w249 (Nat.ne_of_lt (Nat.lt_of_lt_of_le (((((((G2.ext e183).other w193 (ne_exa f247 ((((f223.wr w226).ext e233).wr w239).wr w244) (by decide)) (ne_exa ((((((G2.2.2.2.ext e183).wr w193).ext e197).wr w207).ext e211).wr w221) f223 (by decide))).ext e197).other w207 (ne_exa f247 ((((f223.wr w226).ext e233).wr w239).wr w244) (by decide)) (ne_exa ((((((G2.2.2.2.ext e183).wr w193).ext e197).wr w207).ext e211).wr w221) f223 (by decide))).ext e211).other w221 (ne_exa f247 ((((f223.wr w226).ext e233).wr w239).wr w244) (by decide)) (ne_exa ((((((G2.2.2.2.ext e183).wr w193).ext e197).wr w207).ext e211).wr w221) f223 (by decide))).other w226 (ne_exa f247 ((((f223.wr w226).ext e233).wr w239).wr w244) (by decide)) (ne_exa ((((((G2.2.2.2.ext e183).wr w193).ext e197).wr w207).ext e211).wr w221) f223 (by decide))).lt (Nat.le_of_eq g231.symm))) (Nat.ne_of_lt (Nat.lt_of_lt_of_le (((((((G2.ext e183).other w193 (ne_exa f247 ((((f223.wr w226).ext e233).wr w239).wr w244) (by decide)) (ne_exa ((((((G2.2.2.2.ext e183).wr w193).ext e197).wr w207).ext e211).wr w221) f223 (by decide))).ext e197).other w207 (ne_exa f247 ((((f223.wr w226).ext e233).wr w239).wr w244) (by decide)) (ne_exa ((((((G2.2.2.2.ext e183).wr w193).ext e197).wr w207).ext e211).wr w221) f223 (by decide))).ext e211).other w221 (ne_exa f247 ((((f223.wr w226).ext e233).wr w239).wr w244) (by decide)) (ne_exa ((((((G2.2.2.2.ext e183).wr w193).ext e197).wr w207).ext e211).wr w221) f223 (by decide))).other w226 (ne_exa f247 ((((f223.wr w226).ext e233).wr w239).wr w244) (by decide)) (ne_exa ((((((G2.2.2.2.ext e183).wr w193).ext e197).wr w207).ext e211).wr w221) f223 (by decide))).lt' (Nat.le_of_eq g231.symm)))).lt, (Or.inl rfl)⟩ all0))) [(.ref b229)] rfl (rest := [(.ref a)]) rfl pd___Ljava_lang_Object__I rfl rfl (by decide) (by exact Nat.le_of_ble_eq_true rfl) (by decide) (by decide) (fun v255 T q256 => ?_)
  obtain ⟨h259, S257, ⟨⟨xx, rfl⟩, K1, G3, G4, G5⟩, X258⟩ := q256
  have X := X258 [] all0
  show W.Go _ _ _ _ _ _ _ _ _ _ _ (mkF m 69 #[.val (.ref a), .val (.ref s0), .val (.ref s1), .val (.ref s2), .val (.int sl)] [(.int xx), (.ref a)])
  have f260 := ((((((f223.wr w226).ext e233).wr w239).wr w244).wr w249).keep K1)
  have f261 := ((((((((((((F4.ext e183).other w193 (Or.inr (slot_ne (Or.inr (hw _ (List.mem_of_getElem? (i := 80) rfl))) (Or.inr (hw _ (List.mem_of_getElem? (i := 42) rfl))) (by decide) (t := .int) (t' := (.object "java/lang/String")) (by decide) (by decide)))).ext e197).other w207 (Or.inr (slot_ne (Or.inr (hw _ (List.mem_of_getElem? (i := 80) rfl))) (Or.inr (hw _ (List.mem_of_getElem? (i := 45) rfl))) (by decide) (t := .int) (t' := (.object "java/lang/String")) (by decide) (by decide)))).ext e211).other w221 (Or.inr (slot_ne (Or.inr (hw _ (List.mem_of_getElem? (i := 80) rfl))) (Or.inr (hw _ (List.mem_of_getElem? (i := 48) rfl))) (by decide) (t := .int) (t' := (.object "java/lang/String")) (by decide) (by decide)))).other w226 (Or.inr (slot_ne (Or.inr (hw _ (List.mem_of_getElem? (i := 80) rfl))) (Or.inr (hw _ (List.mem_of_getElem? (i := 50) rfl))) (by decide) (t := .int) (t' := .int) (by decide) (by decide)))).ext e233).other w239 (Or.inl (Nat.ne_of_lt (Nat.lt_of_lt_of_le f227.lt (Nat.le_of_eq g231.symm))))).other w244 (Or.inl (Nat.ne_of_lt (Nat.lt_of_lt_of_le f227.lt (Nat.le_of_eq g231.symm))))).other w249 (Or.inl (Nat.ne_of_lt (Nat.lt_of_lt_of_le f227.lt (Nat.le_of_eq g231.symm))))).keep K1 (ninS (ne_exa f260 ((((f237.wr w239).wr w244).wr w249).keep K1) (by decide)) (ninS (ne_exa f260 (((f242.wr w244).wr w249).keep K1) (by decide)) (ninS (ne_exa f260 ((f247.wr w249).keep K1) (by decide)) nin0))))
  refine W.o_putfield X (pc' := 72) d_prog_8_method_1_69 rfl (hw _ (List.mem_of_getElem? (i := 79) rfl)) Via.refl f261 f260 (Or.inr ⟨(hw _ (List.mem_of_getElem? (i := 80) rfl)), rfl, rfl⟩) (hw _ (List.mem_of_getElem? (i := 27) rfl)) (ty := .int) (by decide) rfl rfl gz (Or.inl rfl) (fun T h262 w263 X => ?_)
  have f264 := f261.same w263
  have f265 := (f260.wr w263)
  have f266 := (((((((((((f194.ext e197).other w207 (Or.inr (slot_ne (Or.inr (hw _ (List.mem_of_getElem? (i := 42) rfl))) (Or.inr (hw _ (List.mem_of_getElem? (i := 45) rfl))) (by decide) (t := (.object "java/lang/String")) (t' := (.object "java/lang/String")) (by decide) (by decide)))).ext e211).other w221 (Or.inr (slot_ne (Or.inr (hw _ (List.mem_of_getElem? (i := 42) rfl))) (Or.inr (hw _ (List.mem_of_getElem? (i := 48) rfl))) (by decide) (t := (.object "java/lang/String")) (t' := (.object "java/lang/String")) (by decide) (by decide)))).other w226 (Or.inr (slot_ne (Or.inr (hw _ (List.mem_of_getElem? (i := 42) rfl))) (Or.inr (hw _ (List.mem_of_getElem? (i := 50) rfl))) (by decide) (t := (.object "java/lang/String")) (t' := .int) (by decide) (by decide)))).ext e233).other w239 (Or.inl (Nat.ne_of_lt (Nat.lt_of_lt_of_le f227.lt (Nat.le_of_eq g231.symm))))).other w244 (Or.inl (Nat.ne_of_lt (Nat.lt_of_lt_of_le f227.lt (Nat.le_of_eq g231.symm))))).other w249 (Or.inl (Nat.ne_of_lt (Nat.lt_of_lt_of_le f227.lt (Nat.le_of_eq g231.symm))))).keep K1 (ninS (ne_exa f265 (((((f237.wr w239).wr w244).wr w249).keep K1).wr w263) (by decide)) (ninS (ne_exa f265 ((((f242.wr w244).wr w249).keep K1).wr w263) (by decide)) (ninS (ne_exa f265 (((f247.wr w249).keep K1).wr w263) (by decide)) nin0)))).other w263 (Or.inr (slot_ne (Or.inr (hw _ (List.mem_of_getElem? (i := 42) rfl))) (Or.inr (hw _ (List.mem_of_getElem? (i := 80) rfl))) (by decide) (t := (.object "java/lang/String")) (t' := .int) (by decide) (by decide))))
  have f267 := (((((((((f208.ext e211).other w221 (Or.inr (slot_ne (Or.inr (hw _ (List.mem_of_getElem? (i := 45) rfl))) (Or.inr (hw _ (List.mem_of_getElem? (i := 48) rfl))) (by decide) (t := (.object "java/lang/String")) (t' := (.object "java/lang/String")) (by decide) (by decide)))).other w226 (Or.inr (slot_ne (Or.inr (hw _ (List.mem_of_getElem? (i := 45) rfl))) (Or.inr (hw _ (List.mem_of_getElem? (i := 50) rfl))) (by decide) (t := (.object "java/lang/String")) (t' := .int) (by decide) (by decide)))).ext e233).other w239 (Or.inl (Nat.ne_of_lt (Nat.lt_of_lt_of_le f227.lt (Nat.le_of_eq g231.symm))))).other w244 (Or.inl (Nat.ne_of_lt (Nat.lt_of_lt_of_le f227.lt (Nat.le_of_eq g231.symm))))).other w249 (Or.inl (Nat.ne_of_lt (Nat.lt_of_lt_of_le f227.lt (Nat.le_of_eq g231.symm))))).keep K1 (ninS (ne_exa f265 (((((f237.wr w239).wr w244).wr w249).keep K1).wr w263) (by decide)) (ninS (ne_exa f265 ((((f242.wr w244).wr w249).keep K1).wr w263) (by decide)) (ninS (ne_exa f265 (((f247.wr w249).keep K1).wr w263) (by decide)) nin0)))).other w263 (Or.inr (slot_ne (Or.inr (hw _ (List.mem_of_getElem? (i := 45) rfl))) (Or.inr (hw _ (List.mem_of_getElem? (i := 80) rfl))) (by decide) (t := (.object "java/lang/String")) (t' := .int) (by decide) (by decide))))
  have f268 := (((((((f222.other w226 (Or.inr (slot_ne (Or.inr (hw _ (List.mem_of_getElem? (i := 48) rfl))) (Or.inr (hw _ (List.mem_of_getElem? (i := 50) rfl))) (by decide) (t := (.object "java/lang/String")) (t' := .int) (by decide) (by decide)))).ext e233).other w239 (Or.inl (Nat.ne_of_lt (Nat.lt_of_lt_of_le f227.lt (Nat.le_of_eq g231.symm))))).other w244 (Or.inl (Nat.ne_of_lt (Nat.lt_of_lt_of_le f227.lt (Nat.le_of_eq g231.symm))))).other w249 (Or.inl (Nat.ne_of_lt (Nat.lt_of_lt_of_le f227.lt (Nat.le_of_eq g231.symm))))).keep K1 (ninS (ne_exa f265 (((((f237.wr w239).wr w244).wr w249).keep K1).wr w263) (by decide)) (ninS (ne_exa f265 ((((f242.wr w244).wr w249).keep K1).wr w263) (by decide)) (ninS (ne_exa f265 (((f247.wr w249).keep K1).wr w263) (by decide)) nin0)))).other w263 (Or.inr (slot_ne (Or.inr (hw _ (List.mem_of_getElem? (i := 48) rfl))) (Or.inr (hw _ (List.mem_of_getElem? (i := 80) rfl))) (by decide) (t := (.object "java/lang/String")) (t' := .int) (by decide) (by decide))))
  have f269 := (G3.other w263 (ne_exa (((((f237.wr w239).wr w244).wr w249).keep K1).wr w263) f265 (by decide)) (ne_exa (((((((((((((G0.2.2.2.ext e183).wr w193).ext e197).wr w207).ext e211).wr w221).wr w226).ext e233).wr w239).wr w244).wr w249).keep K1).wr w263) f265 (by decide)))
  have f270 := (G4.other w263 (ne_exa ((((f242.wr w244).wr w249).keep K1).wr w263) f265 (by decide)) (ne_exa (((((((((((((G1.2.2.2.ext e183).wr w193).ext e197).wr w207).ext e211).wr w221).wr w226).ext e233).wr w239).wr w244).wr w249).keep K1).wr w263) f265 (by decide)))
  have f271 := (G5.other w263 (ne_exa (((f247.wr w249).keep K1).wr w263) f265 (by decide)) (ne_exa (((((((((((((G2.2.2.2.ext e183).wr w193).ext e197).wr w207).ext e211).wr w221).wr w226).ext e233).wr w239).wr w244).wr w249).keep K1).wr w263) f265 (by decide)))
  exact W.o_return X d_prog_8_method_1_72 (by decide) (by decide) fun P hP => ⟨rfl, ((((((((((((((Keep.refl h0 [a, s0, s1, s2]).ext e183).wr w193 (Or.inl (List.mem_of_getElem? (i := 0) rfl))).ext e197).wr w207 (Or.inl (List.mem_of_getElem? (i := 0) rfl))).ext e211).wr w221 (Or.inl (List.mem_of_getElem? (i := 0) rfl))).wr w226 (Or.inl (List.mem_of_getElem? (i := 0) rfl))).ext e233).wr w239 (Or.inr (Nat.le_trans (Nat.le_trans (Nat.le_trans (Nat.le_trans (Nat.le_trans (Nat.le_trans (Nat.le_trans (Nat.le_trans (Nat.le_refl _) e183.1) (Nat.le_of_eq w193.size.symm)) e197.1) (Nat.le_of_eq w207.size.symm)) e211.1) (Nat.le_of_eq w221.size.symm)) (Nat.le_of_eq w226.size.symm)) (Nat.le_of_eq g231.symm)))).wr w244 (Or.inr (Nat.le_trans (Nat.le_trans (Nat.le_trans (Nat.le_trans (Nat.le_trans (Nat.le_trans (Nat.le_trans (Nat.le_trans (Nat.le_refl _) e183.1) (Nat.le_of_eq w193.size.symm)) e197.1) (Nat.le_of_eq w207.size.symm)) e211.1) (Nat.le_of_eq w221.size.symm)) (Nat.le_of_eq w226.size.symm)) (Nat.le_of_eq g231.symm)))).wr w249 (Or.inr (Nat.le_trans (Nat.le_trans (Nat.le_trans (Nat.le_trans (Nat.le_trans (Nat.le_trans (Nat.le_trans (Nat.le_trans (Nat.le_refl _) e183.1) (Nat.le_of_eq w193.size.symm)) e197.1) (Nat.le_of_eq w207.size.symm)) e211.1) (Nat.le_of_eq w221.size.symm)) (Nat.le_of_eq w226.size.symm)) (Nat.le_of_eq g231.symm)))).trans K1 (allS (Or.inl (List.mem_of_getElem? (i := 1) rfl)) (allS (Or.inl (List.mem_of_getElem? (i := 2) rfl)) (allS (Or.inl (List.mem_of_getElem? (i := 3) rfl)) all0)))).wr w263 (Or.inl (List.mem_of_getElem? (i := 0) rfl))), f265, f266, f267, f268, f269, f270, f271⟩
set_option maxRecDepth 65536 in
set_option maxHeartbeats 40000000 in
theorem ctEqN (l : Launch) (Z : State) (a0 : Array Value) (hw : ∀ d ∈ tables_1, d.before a0 Z = true) (a : Addr) (h0 : Heap)  :
    W.Ct wd Z a0 el l (⟨"com/example/holdfast/holdfast/redis/LockKeys", "equals", "(Ljava/lang/Object;)Z"⟩ : MethodName) prog_8_method_6_code 3 (some .boolean) ({ frames := 0, cells := 0, slots := 0, locals := 0 } : Room) #[(.ref a), .null] h0 [] (fun v h S => v = some (.int 0) ∧ h = h0) := by
  refine W.Ct.walk hwe (plainFor_of_name pn_com_example_holdfast_holdfast_redis_LockKeys) ?_
  intro p e s m below meth c T hE0 X
  refine W.castG (show entryFrame m #[(.ref a), .null] 3 = mkF m 0 #[.val (.ref a), .val .null, .unset] [] from by first | (simp [entryFrame, mkF, argsToLocals, Value.category]; done) | rfl) ?_
  refine W.o_aloadN X (pc' := 1) d_prog_8_method_6_0 rfl rfl rfl ?_
  refine W.o_instanceof_null X (pc' := 4) d_prog_8_method_6_1 rfl ?_
  refine W.o_ifeq X (pt := 58) (pf := 7) d_prog_8_method_6_4 ⟨by decide, by decide⟩ rfl (fun _ => ?_) (fun hc => absurd rfl hc)
  refine W.o_iconst X (0 : Int32) (pc' := 59) d_prog_8_method_6_58 rfl rfl ?_
  exact W.o_ireturn X d_prog_8_method_6_59 rfl (Or.inl rfl) (v := 0) rfl (by decide) (by decide) fun P hP => ⟨rfl, rfl⟩
set_option maxRecDepth 65536 in
set_option maxHeartbeats 40000000 in
theorem ctEqS (l : Launch) (Z : State) (a0 : Array Value) (hw : ∀ d ∈ tables_1, d.before a0 Z = true) (a b : Addr) (h0 : Heap) (E1 : Exa Z h0 b "java/lang/String") (hno : ∃ c t, Z.vm.findClass "java/lang/String" = some c ∧ Z.vm.findClass "com/example/holdfast/holdfast/redis/LockKeys" = some t ∧ Z.vm.assignable c t = false) :
    W.Ct wd Z a0 el l (⟨"com/example/holdfast/holdfast/redis/LockKeys", "equals", "(Ljava/lang/Object;)Z"⟩ : MethodName) prog_8_method_6_code 3 (some .boolean) ({ frames := 0, cells := 0, slots := 0, locals := 0 } : Room) #[(.ref a), (.ref b)] h0 [] (fun v h S => v = some (.int 0) ∧ h = h0) := by
  refine W.Ct.walk hwe (plainFor_of_name pn_com_example_holdfast_holdfast_redis_LockKeys) ?_
  intro p e s m below meth c T hE0 X
  refine W.castG (show entryFrame m #[(.ref a), (.ref b)] 3 = mkF m 0 #[.val (.ref a), .val (.ref b), .unset] [] from by first | (simp [entryFrame, mkF, argsToLocals, Value.category]; done) | rfl) ?_
  refine W.o_aloadN X (pc' := 1) d_prog_8_method_6_0 rfl rfl rfl ?_
  refine W.o_instanceof_n X (pc' := 4) d_prog_8_method_6_1 rfl (hw _ (List.mem_of_getElem? (i := 86) rfl)) E1 hno (fun T X => ?_)
  refine W.o_ifeq X (pt := 58) (pf := 7) d_prog_8_method_6_4 ⟨by decide, by decide⟩ rfl (fun _ => ?_) (fun hc => absurd rfl hc)
  refine W.o_iconst X (0 : Int32) (pc' := 59) d_prog_8_method_6_58 rfl rfl ?_
  exact W.o_ireturn X d_prog_8_method_6_59 rfl (Or.inl rfl) (v := 0) rfl (by decide) (by decide) fun P hP => ⟨rfl, rfl⟩
set_option maxRecDepth 65536 in
set_option maxHeartbeats 40000000 in
theorem ctEqL (l : Launch) (Z : State) (a0 : Array Value) (hw : ∀ d ∈ tables_1, d.before a0 Z = true) (a b u0 u1 u2 v0 v1 v2 tu0 tu1 tu2 tv0 tv1 tv2 : Addr) (cs0 cs1 cs2 ds0 ds1 ds2 : List Int32) (cz : Int32) (h0 : Heap) (C0 : Sta Z Z.heap "java/lang/String" "COMPACT_STRINGS" "Z" (.int cz)) (hcz : ¬ cz = 0) (E0 : Exa Z h0 a "com/example/holdfast/holdfast/redis/LockKeys") (E1 : Exa Z h0 b "com/example/holdfast/holdfast/redis/LockKeys") (F0 : Fld Z h0 a "com/example/holdfast/holdfast/redis/LockKeys" "key" "Ljava/lang/String;" (.ref u0)) (F1 : Fld Z h0 a "com/example/holdfast/holdfast/redis/LockKeys" "fenceKey" "Ljava/lang/String;" (.ref u1)) (F2 : Fld Z h0 a "com/example/holdfast/holdfast/redis/LockKeys" "waitersKey" "Ljava/lang/String;" (.ref u2)) (H0 : Fld Z h0 b "com/example/holdfast/holdfast/redis/LockKeys" "key" "Ljava/lang/String;" (.ref v0)) (H1 : Fld Z h0 b "com/example/holdfast/holdfast/redis/LockKeys" "fenceKey" "Ljava/lang/String;" (.ref v1)) (H2 : Fld Z h0 b "com/example/holdfast/holdfast/redis/LockKeys" "waitersKey" "Ljava/lang/String;" (.ref v2)) (hs0 : u0 = v0 → cs0 = ds0) (G0 : StrH Z h0 u0 tu0 cs0) (I0 : StrH Z h0 v0 tv0 ds0) (hs1 : u1 = v1 → cs1 = ds1) (G1 : StrH Z h0 u1 tu1 cs1) (I1 : StrH Z h0 v1 tv1 ds1) (hs2 : u2 = v2 → cs2 = ds2) (G2 : StrH Z h0 u2 tu2 cs2) (I2 : StrH Z h0 v2 tv2 ds2) :
    W.Ct wd Z a0 el l (⟨"com/example/holdfast/holdfast/redis/LockKeys", "equals", "(Ljava/lang/Object;)Z"⟩ : MethodName) prog_8_method_6_code 3 (some .boolean) ({ frames := 2, cells := 0, slots := 0, locals := 28 } : Room) #[(.ref a), (.ref b)] h0 [] (fun v h S => v = some (.int (b2i (decide (cs0 = ds0) && (decide (cs1 = ds1) && decide (cs2 = ds2))))) ∧ h = h0) := by
  refine W.Ct.walk hwe (plainFor_of_name pn_com_example_holdfast_holdfast_redis_LockKeys) ?_
  intro p e s m below meth c T hE0 X
  refine W.castG (show entryFrame m #[(.ref a), (.ref b)] 3 = mkF m 0 #[.val (.ref a), .val (.ref b), .unset] [] from by first | (simp [entryFrame, mkF, argsToLocals, Value.category]; done) | rfl) ?_
  refine W.o_aloadN X (pc' := 1) d_prog_8_method_6_0 rfl rfl rfl ?_
  refine W.o_instanceof_y X (pc' := 4) d_prog_8_method_6_1 rfl (hw _ (List.mem_of_getElem? (i := 86) rfl)) (Ins.self E1) (fun T X => ?_)
  refine W.o_ifeq X (pt := 58) (pf := 7) d_prog_8_method_6_4 ⟨by decide, by decide⟩ rfl (fun hc => absurd hc (by decide)) (fun _ => ?_)
  refine W.o_aloadN X (pc' := 8) d_prog_8_method_6_7 rfl rfl rfl ?_
  refine W.o_checkcast X (pc' := 11) d_prog_8_method_6_8 rfl (hw _ (List.mem_of_getElem? (i := 86) rfl)) (Ins.self E1) (fun T X => ?_)
  refine W.o_astoreN X (pc' := 12) d_prog_8_method_6_11 rfl (L' := #[.val (.ref a), .val (.ref b), .val (.ref b)]) rfl rfl ?_
  refine W.o_aloadN X (pc' := 13) d_prog_8_method_6_12 rfl rfl rfl ?_
  refine W.o_getfield X (pc' := 16) d_prog_8_method_6_13 rfl (hw _ (List.mem_of_getElem? (i := 41) rfl)) Via.refl F0 (fun T X => ?_)
  refine W.o_aloadN X (pc' := 17) d_prog_8_method_6_16 rfl rfl rfl ?_
  refine W.o_getfield X (pc' := 20) d_prog_8_method_6_17 rfl (hw _ (List.mem_of_getElem? (i := 41) rfl)) Via.refl H0 (fun T X => ?_)
  refine W.o_virtual X (pc' := 23) d_prog_8_method_6_20 rfl (u := (⟨"java/lang/String", "equals", "(Ljava/lang/Object;)Z"⟩ : MethodName)) (z := (⟨"java/lang/String", "equals", "(Ljava/lang/Object;)Z"⟩ : MethodName)) (hw _ (List.mem_of_getElem? (i := 88) rfl)) (hw _ (List.mem_of_getElem? (i := 89) rfl)) (fun s' hZ => notFace_of_selects (args := #[]) (mvT hZ (hw _ (List.mem_of_getElem? (i := 91) rfl)))) (hw _ (List.mem_of_getElem? (i := 91) rfl)) (hw _ (List.mem_of_getElem? (i := 90) rfl)) (hw _ (List.mem_of_getElem? (i := 2) rfl)) (hw _ (List.mem_of_getElem? (i := 92) rfl)) (by decide) G0.1.1 (ctSEq l Z a0 hw u0 v0 tu0 tv0 cs0 ds0 cz h0 C0 hcz hs0 G0.1 I0.1) (fun _ q => nomatch q) [(.ref v0)] rfl (rest := []) rfl pd__Ljava_lang_Object__Z rfl rfl (by decide) (by exact Nat.le_of_ble_eq_true rfl) (by decide) (by decide) (fun v272 T q273 => ?_)
  obtain ⟨h276, S274, ⟨rfl, eh⟩, X275⟩ := q273
  have eh := eh.symm
  subst eh
  have X := X275 [] all0
  show W.Go _ _ _ _ _ _ _ _ _ _ _ (mkF m 23 #[.val (.ref a), .val (.ref b), .val (.ref b)] [(.int (b2i (decide (cs0 = ds0))))])
  refine W.o_ifeq X (pt := 58) (pf := 26) d_prog_8_method_6_23 ⟨by decide, by decide⟩ rfl (fun h1 => ?_) (fun h1 => ?_)
  · refine W.o_iconst X (0 : Int32) (pc' := 59) d_prog_8_method_6_58 rfl rfl ?_
    exact W.o_ireturn X d_prog_8_method_6_59 rfl (Or.inl rfl) (v := 0) rfl (by decide) (by decide) fun P hP => ⟨by rw [b2i_0 h1]; rfl, rfl⟩
  · refine W.o_aloadN X (pc' := 27) d_prog_8_method_6_26 rfl rfl rfl ?_
    refine W.o_getfield X (pc' := 30) d_prog_8_method_6_27 rfl (hw _ (List.mem_of_getElem? (i := 44) rfl)) Via.refl F1 (fun T X => ?_)
    refine W.o_aloadN X (pc' := 31) d_prog_8_method_6_30 rfl rfl rfl ?_
    refine W.o_getfield X (pc' := 34) d_prog_8_method_6_31 rfl (hw _ (List.mem_of_getElem? (i := 44) rfl)) Via.refl H1 (fun T X => ?_)
    refine W.o_virtual X (pc' := 37) d_prog_8_method_6_34 rfl (u := (⟨"java/lang/String", "equals", "(Ljava/lang/Object;)Z"⟩ : MethodName)) (z := (⟨"java/lang/String", "equals", "(Ljava/lang/Object;)Z"⟩ : MethodName)) (hw _ (List.mem_of_getElem? (i := 88) rfl)) (hw _ (List.mem_of_getElem? (i := 89) rfl)) (fun s' hZ => notFace_of_selects (args := #[]) (mvT hZ (hw _ (List.mem_of_getElem? (i := 91) rfl)))) (hw _ (List.mem_of_getElem? (i := 91) rfl)) (hw _ (List.mem_of_getElem? (i := 90) rfl)) (hw _ (List.mem_of_getElem? (i := 2) rfl)) (hw _ (List.mem_of_getElem? (i := 92) rfl)) (by decide) G1.1.1 (ctSEq l Z a0 hw u1 v1 tu1 tv1 cs1 ds1 cz h0 C0 hcz hs1 G1.1 I1.1) (fun _ q => nomatch q) [(.ref v1)] rfl (rest := []) rfl pd__Ljava_lang_Object__Z rfl rfl (by decide) (by exact Nat.le_of_ble_eq_true rfl) (by decide) (by decide) (fun v277 T q278 => ?_)
    obtain ⟨h281, S279, ⟨rfl, eh⟩, X280⟩ := q278
    have eh := eh.symm
    subst eh
    have X := X280 [] all0
    show W.Go _ _ _ _ _ _ _ _ _ _ _ (mkF m 37 #[.val (.ref a), .val (.ref b), .val (.ref b)] [(.int (b2i (decide (cs1 = ds1))))])
    refine W.o_ifeq X (pt := 58) (pf := 40) d_prog_8_method_6_37 ⟨by decide, by decide⟩ rfl (fun h2 => ?_) (fun h2 => ?_)
    · refine W.o_iconst X (0 : Int32) (pc' := 59) d_prog_8_method_6_58 rfl rfl ?_
      exact W.o_ireturn X d_prog_8_method_6_59 rfl (Or.inl rfl) (v := 0) rfl (by decide) (by decide) fun P hP => ⟨by rw [b2i_n h1, b2i_0 h2]; rfl, rfl⟩
    · refine W.o_aloadN X (pc' := 41) d_prog_8_method_6_40 rfl rfl rfl ?_
      refine W.o_getfield X (pc' := 44) d_prog_8_method_6_41 rfl (hw _ (List.mem_of_getElem? (i := 47) rfl)) Via.refl F2 (fun T X => ?_)
      refine W.o_aloadN X (pc' := 45) d_prog_8_method_6_44 rfl rfl rfl ?_
      refine W.o_getfield X (pc' := 48) d_prog_8_method_6_45 rfl (hw _ (List.mem_of_getElem? (i := 47) rfl)) Via.refl H2 (fun T X => ?_)
      refine W.o_virtual X (pc' := 51) d_prog_8_method_6_48 rfl (u := (⟨"java/lang/String", "equals", "(Ljava/lang/Object;)Z"⟩ : MethodName)) (z := (⟨"java/lang/String", "equals", "(Ljava/lang/Object;)Z"⟩ : MethodName)) (hw _ (List.mem_of_getElem? (i := 88) rfl)) (hw _ (List.mem_of_getElem? (i := 89) rfl)) (fun s' hZ => notFace_of_selects (args := #[]) (mvT hZ (hw _ (List.mem_of_getElem? (i := 91) rfl)))) (hw _ (List.mem_of_getElem? (i := 91) rfl)) (hw _ (List.mem_of_getElem? (i := 90) rfl)) (hw _ (List.mem_of_getElem? (i := 2) rfl)) (hw _ (List.mem_of_getElem? (i := 92) rfl)) (by decide) G2.1.1 (ctSEq l Z a0 hw u2 v2 tu2 tv2 cs2 ds2 cz h0 C0 hcz hs2 G2.1 I2.1) (fun _ q => nomatch q) [(.ref v2)] rfl (rest := []) rfl pd__Ljava_lang_Object__Z rfl rfl (by decide) (by exact Nat.le_of_ble_eq_true rfl) (by decide) (by decide) (fun v282 T q283 => ?_)
      obtain ⟨h286, S284, ⟨rfl, eh⟩, X285⟩ := q283
      have eh := eh.symm
      subst eh
      have X := X285 [] all0
      show W.Go _ _ _ _ _ _ _ _ _ _ _ (mkF m 51 #[.val (.ref a), .val (.ref b), .val (.ref b)] [(.int (b2i (decide (cs2 = ds2))))])
      refine W.o_ifeq X (pt := 58) (pf := 54) d_prog_8_method_6_51 ⟨by decide, by decide⟩ rfl (fun h3 => ?_) (fun h3 => ?_)
      · refine W.o_iconst X (0 : Int32) (pc' := 59) d_prog_8_method_6_58 rfl rfl ?_
        exact W.o_ireturn X d_prog_8_method_6_59 rfl (Or.inl rfl) (v := 0) rfl (by decide) (by decide) fun P hP => ⟨by rw [b2i_n h1, b2i_n h2, b2i_0 h3]; rfl, rfl⟩
      · refine W.o_iconst X (1 : Int32) (pc' := 55) d_prog_8_method_6_54 rfl rfl ?_
        refine W.o_goto X (pc' := 59) d_prog_8_method_6_55 ⟨by decide, by decide⟩ ?_
        exact W.o_ireturn X d_prog_8_method_6_59 rfl (Or.inl rfl) (v := 1) rfl (by decide) (by decide) fun P hP => ⟨by rw [b2i_n h1, b2i_n h2, b2i_n h3]; rfl, rfl⟩
set_option maxRecDepth 65536 in
set_option maxHeartbeats 40000000 in
theorem ctLaw (l : Launch) (Z : State) (a0 : Array Value) (hw : ∀ d ∈ tables_1, d.before a0 Z = true) (p0 p1 p2 p3 cz : Int32) (h0 : Heap) (C0 : Sta Z Z.heap "java/lang/String" "COMPACT_STRINGS" "Z" (.int cz)) (hcz : ¬ cz = 0) (hno : ∃ c t, Z.vm.findClass "java/lang/String" = some c ∧ Z.vm.findClass "com/example/holdfast/holdfast/redis/LockKeys" = some t ∧ Z.vm.assignable c t = false) :
    W.Ct wd Z a0 el l x code maxLocals ret room_1 #[(.int p0), (.int p1), (.int p2), (.int p3)] h0 [] (fun v h S => v = some (.int 1)) := by
  refine W.Ct.walk hwe (plainFor_of_name pn_com_example_holdfast_holdfast_redis_LockKeysEqualsPinLaw) ?_
  intro p e s m below meth c T hE0 X
  refine W.castG (show entryFrame m #[(.int p0), (.int p1), (.int p2), (.int p3)] maxLocals = mkF m 0 #[.val (.int p0), .val (.int p1), .val (.int p2), .val (.int p3), .unset, .unset, .unset, .unset, .unset, .unset, .unset, .unset, .unset, .unset, .unset, .unset, .unset, .unset, .unset, .unset, .unset] [] from by first | (simp [entryFrame, mkF, argsToLocals, Value.category, maxLocals]; done) | rfl) ?_
  refine W.o_iloadN X (pc' := 1) at_0 rfl rfl ?_
  refine W.o_sipush X (255 : Int32) (pc' := 4) at_1 rfl rfl ?_
  refine W.o_iand X (pc' := 5) at_4 rfl ?_
  refine W.o_i2c X (pc' := 6) at_5 rfl ?_
  generalize hc0 : ((p0 &&& (255 : Int32)).toUInt32.toUInt16.toUInt32.toInt32) = c0
  have qc0 : ¬ c0 < 0 ∧ ¬ 255 < c0 := hc0 ▸ and_ch _
  refine W.o_istore X (pc' := 8) at_6 rfl (L' := #[.val (.int p0), .val (.int p1), .val (.int p2), .val (.int p3), .val (.int c0), .unset, .unset, .unset, .unset, .unset, .unset, .unset, .unset, .unset, .unset, .unset, .unset, .unset, .unset, .unset, .unset]) rfl ?_
  refine W.o_iloadN X (pc' := 9) at_8 rfl rfl ?_
  refine W.o_bipush X (8 : Int32) (pc' := 11) at_9 rfl rfl ?_
  refine W.o_iushr X (pc' := 12) at_11 rfl ?_
  refine W.o_sipush X (255 : Int32) (pc' := 15) at_12 rfl rfl ?_
  refine W.o_iand X (pc' := 16) at_15 rfl ?_
  refine W.o_i2c X (pc' := 17) at_16 rfl ?_
  generalize hc1 : ((((p0.toUInt32 >>> ((8 : Int32) &&& 31).toUInt32).toInt32) &&& (255 : Int32)).toUInt32.toUInt16.toUInt32.toInt32) = c1
  have qc1 : ¬ c1 < 0 ∧ ¬ 255 < c1 := hc1 ▸ and_ch _
  refine W.o_istore X (pc' := 19) at_17 rfl (L' := #[.val (.int p0), .val (.int p1), .val (.int p2), .val (.int p3), .val (.int c0), .val (.int c1), .unset, .unset, .unset, .unset, .unset, .unset, .unset, .unset, .unset, .unset, .unset, .unset, .unset, .unset, .unset]) rfl ?_
  refine W.o_iloadN X (pc' := 20) at_19 rfl rfl ?_
  refine W.o_bipush X (16 : Int32) (pc' := 22) at_20 rfl rfl ?_
  refine W.o_iushr X (pc' := 23) at_22 rfl ?_
  refine W.o_sipush X (255 : Int32) (pc' := 26) at_23 rfl rfl ?_
  refine W.o_iand X (pc' := 27) at_26 rfl ?_
  refine W.o_i2c X (pc' := 28) at_27 rfl ?_
  generalize hc2 : ((((p0.toUInt32 >>> ((16 : Int32) &&& 31).toUInt32).toInt32) &&& (255 : Int32)).toUInt32.toUInt16.toUInt32.toInt32) = c2
  have qc2 : ¬ c2 < 0 ∧ ¬ 255 < c2 := hc2 ▸ and_ch _
  refine W.o_istore X (pc' := 30) at_28 rfl (L' := #[.val (.int p0), .val (.int p1), .val (.int p2), .val (.int p3), .val (.int c0), .val (.int c1), .val (.int c2), .unset, .unset, .unset, .unset, .unset, .unset, .unset, .unset, .unset, .unset, .unset, .unset, .unset, .unset]) rfl ?_
  refine W.o_iloadN X (pc' := 31) at_30 rfl rfl ?_
  refine W.o_iconst X (1 : Int32) (pc' := 32) at_31 rfl rfl ?_
  refine W.o_iand X (pc' := 33) at_32 rfl ?_
  have J0 : ∀ d0 : Int32, (¬ d0 < 0 ∧ ¬ 255 < d0) → W.Go wd Z el room_1.cells room_1.slots (fun v h S => v = some (.int 1)) p e s below T (mkF m 47 #[.val (.int p0), .val (.int p1), .val (.int p2), .val (.int p3), .val (.int c0), .val (.int c1), .val (.int c2), .unset, .unset, .unset, .unset, .unset, .unset, .unset, .unset, .unset, .unset, .unset, .unset, .unset, .unset] [(.int d0)]) := by
    intro d0 qd0
    refine W.o_istore X (pc' := 49) at_47 rfl (L' := #[.val (.int p0), .val (.int p1), .val (.int p2), .val (.int p3), .val (.int c0), .val (.int c1), .val (.int c2), .val (.int d0), .unset, .unset, .unset, .unset, .unset, .unset, .unset, .unset, .unset, .unset, .unset, .unset, .unset]) rfl ?_
    refine W.o_iloadN X (pc' := 50) at_49 rfl rfl ?_
    refine W.o_iconst X (2 : Int32) (pc' := 51) at_50 rfl rfl ?_
    refine W.o_iand X (pc' := 52) at_51 rfl ?_
    have J1 : ∀ d1 : Int32, (¬ d1 < 0 ∧ ¬ 255 < d1) → W.Go wd Z el room_1.cells room_1.slots (fun v h S => v = some (.int 1)) p e s below T (mkF m 69 #[.val (.int p0), .val (.int p1), .val (.int p2), .val (.int p3), .val (.int c0), .val (.int c1), .val (.int c2), .val (.int d0), .unset, .unset, .unset, .unset, .unset, .unset, .unset, .unset, .unset, .unset, .unset, .unset, .unset] [(.int d1)]) := by
      intro d1 qd1
      refine W.o_istore X (pc' := 71) at_69 rfl (L' := #[.val (.int p0), .val (.int p1), .val (.int p2), .val (.int p3), .val (.int c0), .val (.int c1), .val (.int c2), .val (.int d0), .val (.int d1), .unset, .unset, .unset, .unset, .unset, .unset, .unset, .unset, .unset, .unset, .unset, .unset]) rfl ?_
      refine W.o_iloadN X (pc' := 72) at_71 rfl rfl ?_
      refine W.o_iconst X (4 : Int32) (pc' := 73) at_72 rfl rfl ?_
      refine W.o_iand X (pc' := 74) at_73 rfl ?_
      have J2 : ∀ d2 : Int32, (¬ d2 < 0 ∧ ¬ 255 < d2) → W.Go wd Z el room_1.cells room_1.slots (fun v h S => v = some (.int 1)) p e s below T (mkF m 91 #[.val (.int p0), .val (.int p1), .val (.int p2), .val (.int p3), .val (.int c0), .val (.int c1), .val (.int c2), .val (.int d0), .val (.int d1), .unset, .unset, .unset, .unset, .unset, .unset, .unset, .unset, .unset, .unset, .unset, .unset] [(.int d2)]) := by
        intro d2 qd2
        refine W.o_istore X (pc' := 93) at_91 rfl (L' := #[.val (.int p0), .val (.int p1), .val (.int p2), .val (.int p3), .val (.int c0), .val (.int c1), .val (.int c2), .val (.int d0), .val (.int d1), .val (.int d2), .unset, .unset, .unset, .unset, .unset, .unset, .unset, .unset, .unset, .unset, .unset]) rfl ?_
        refine W.o_iloadN X (pc' := 94) at_93 rfl rfl ?_
        refine W.o_bipush X (32 : Int32) (pc' := 96) at_94 rfl rfl ?_
        refine W.o_iand X (pc' := 97) at_96 rfl ?_
        refine W.o_ifeq X (pt := 104) (pf := 100) at_97 ⟨by decide, by decide⟩ rfl (fun hlk => ?_) (fun hlk => ?_)
        · refine W.o_iconst X (0 : Int32) (pc' := 105) at_104 rfl rfl ?_
          refine W.o_istore X (pc' := 107) at_105 rfl (L' := #[.val (.int p0), .val (.int p1), .val (.int p2), .val (.int p3), .val (.int c0), .val (.int c1), .val (.int c2), .val (.int d0), .val (.int d1), .val (.int d2), .val (.int (0 : Int32)), .unset, .unset, .unset, .unset, .unset, .unset, .unset, .unset, .unset, .unset]) rfl ?_
          refine W.o_iload X (pc' := 109) at_107 rfl rfl ?_
          refine W.o_static X (pc' := 112) at_109 rfl (z := (⟨"java/lang/String", "valueOf", "(C)Ljava/lang/String;"⟩ : MethodName)) (hw _ (List.mem_of_getElem? (i := 0) rfl)) (hw _ (List.mem_of_getElem? (i := 1) rfl)) (hw _ (List.mem_of_getElem? (i := 2) rfl)) (hw _ (List.mem_of_getElem? (i := 3) rfl)) (by decide) (ctVO l Z a0 hw c0 cz h0 C0 hcz qc0) (fun _ q => nomatch q) [(.int c0)] rfl (rest := []) rfl pd__C_Ljava_lang_String_ rfl rfl (by decide) (by exact Nat.le_of_ble_eq_true rfl) (by decide) (by decide) (fun v294 T q295 => ?_)
          obtain ⟨h298, S296, ⟨a287, t288, rfl, K289, g290, z291, y292, G293⟩, X297⟩ := q295
          have X := X297 [] all0
          show W.Go _ _ _ _ _ _ _ _ _ _ _ (mkF m 112 #[.val (.int p0), .val (.int p1), .val (.int p2), .val (.int p3), .val (.int c0), .val (.int c1), .val (.int c2), .val (.int d0), .val (.int d1), .val (.int d2), .val (.int (0 : Int32)), .unset, .unset, .unset, .unset, .unset, .unset, .unset, .unset, .unset, .unset] [(.ref a287)])
          refine W.o_astore X (pc' := 114) at_112 rfl (L' := #[.val (.int p0), .val (.int p1), .val (.int p2), .val (.int p3), .val (.int c0), .val (.int c1), .val (.int c2), .val (.int d0), .val (.int d1), .val (.int d2), .val (.int (0 : Int32)), .val (.ref a287), .unset, .unset, .unset, .unset, .unset, .unset, .unset, .unset, .unset]) rfl rfl ?_
          refine W.o_iload X (pc' := 116) at_114 rfl rfl ?_
          refine W.o_static X (pc' := 119) at_116 rfl (z := (⟨"java/lang/String", "valueOf", "(C)Ljava/lang/String;"⟩ : MethodName)) (hw _ (List.mem_of_getElem? (i := 0) rfl)) (hw _ (List.mem_of_getElem? (i := 1) rfl)) (hw _ (List.mem_of_getElem? (i := 2) rfl)) (hw _ (List.mem_of_getElem? (i := 3) rfl)) (by decide) (ctVO l Z a0 hw c1 cz h298 C0 hcz qc1) (fun _ q => nomatch q) [(.int c1)] rfl (rest := []) rfl pd__C_Ljava_lang_String_ rfl rfl (by decide) (by exact Nat.le_of_ble_eq_true rfl) (by decide) (by decide) (fun v306 T q307 => ?_)
          obtain ⟨h310, S308, ⟨a299, t300, rfl, K301, g302, z303, y304, G305⟩, X309⟩ := q307
          have X := X309 [] all0
          show W.Go _ _ _ _ _ _ _ _ _ _ _ (mkF m 119 #[.val (.int p0), .val (.int p1), .val (.int p2), .val (.int p3), .val (.int c0), .val (.int c1), .val (.int c2), .val (.int d0), .val (.int d1), .val (.int d2), .val (.int (0 : Int32)), .val (.ref a287), .unset, .unset, .unset, .unset, .unset, .unset, .unset, .unset, .unset] [(.ref a299)])
          refine W.o_astore X (pc' := 121) at_119 rfl (L' := #[.val (.int p0), .val (.int p1), .val (.int p2), .val (.int p3), .val (.int c0), .val (.int c1), .val (.int c2), .val (.int d0), .val (.int d1), .val (.int d2), .val (.int (0 : Int32)), .val (.ref a287), .val (.ref a299), .unset, .unset, .unset, .unset, .unset, .unset, .unset, .unset]) rfl rfl ?_
          refine W.o_iload X (pc' := 123) at_121 rfl rfl ?_
          refine W.o_static X (pc' := 126) at_123 rfl (z := (⟨"java/lang/String", "valueOf", "(C)Ljava/lang/String;"⟩ : MethodName)) (hw _ (List.mem_of_getElem? (i := 0) rfl)) (hw _ (List.mem_of_getElem? (i := 1) rfl)) (hw _ (List.mem_of_getElem? (i := 2) rfl)) (hw _ (List.mem_of_getElem? (i := 3) rfl)) (by decide) (ctVO l Z a0 hw c2 cz h310 C0 hcz qc2) (fun _ q => nomatch q) [(.int c2)] rfl (rest := []) rfl pd__C_Ljava_lang_String_ rfl rfl (by decide) (by exact Nat.le_of_ble_eq_true rfl) (by decide) (by decide) (fun v318 T q319 => ?_)
          obtain ⟨h322, S320, ⟨a311, t312, rfl, K313, g314, z315, y316, G317⟩, X321⟩ := q319
          have X := X321 [] all0
          show W.Go _ _ _ _ _ _ _ _ _ _ _ (mkF m 126 #[.val (.int p0), .val (.int p1), .val (.int p2), .val (.int p3), .val (.int c0), .val (.int c1), .val (.int c2), .val (.int d0), .val (.int d1), .val (.int d2), .val (.int (0 : Int32)), .val (.ref a287), .val (.ref a299), .unset, .unset, .unset, .unset, .unset, .unset, .unset, .unset] [(.ref a311)])
          refine W.o_astore X (pc' := 128) at_126 rfl (L' := #[.val (.int p0), .val (.int p1), .val (.int p2), .val (.int p3), .val (.int c0), .val (.int c1), .val (.int c2), .val (.int d0), .val (.int d1), .val (.int d2), .val (.int (0 : Int32)), .val (.ref a287), .val (.ref a299), .val (.ref a311), .unset, .unset, .unset, .unset, .unset, .unset, .unset]) rfl rfl ?_
          refine W.o_iload X (pc' := 130) at_128 rfl rfl ?_
          refine W.o_ifeq X (pt := 156) (pf := 133) at_130 ⟨by decide, by decide⟩ rfl (fun _ => ?_) (fun hc => absurd rfl hc)
          refine W.o_iload X (pc' := 158) at_156 rfl rfl ?_
          refine W.o_static X (pc' := 161) at_158 rfl (z := (⟨"java/lang/String", "valueOf", "(C)Ljava/lang/String;"⟩ : MethodName)) (hw _ (List.mem_of_getElem? (i := 0) rfl)) (hw _ (List.mem_of_getElem? (i := 1) rfl)) (hw _ (List.mem_of_getElem? (i := 2) rfl)) (hw _ (List.mem_of_getElem? (i := 3) rfl)) (by decide) (ctVO l Z a0 hw d0 cz h322 C0 hcz qd0) (fun _ q => nomatch q) [(.int d0)] rfl (rest := []) rfl pd__C_Ljava_lang_String_ rfl rfl (by decide) (by exact Nat.le_of_ble_eq_true rfl) (by decide) (by decide) (fun v330 T q331 => ?_)
          obtain ⟨h334, S332, ⟨a323, t324, rfl, K325, g326, z327, y328, G329⟩, X333⟩ := q331
          have X := X333 [] all0
          show W.Go _ _ _ _ _ _ _ _ _ _ _ (mkF m 161 #[.val (.int p0), .val (.int p1), .val (.int p2), .val (.int p3), .val (.int c0), .val (.int c1), .val (.int c2), .val (.int d0), .val (.int d1), .val (.int d2), .val (.int (0 : Int32)), .val (.ref a287), .val (.ref a299), .val (.ref a311), .unset, .unset, .unset, .unset, .unset, .unset, .unset] [(.ref a323)])
          refine W.o_astore X (pc' := 163) at_161 rfl (L' := #[.val (.int p0), .val (.int p1), .val (.int p2), .val (.int p3), .val (.int c0), .val (.int c1), .val (.int c2), .val (.int d0), .val (.int d1), .val (.int d2), .val (.int (0 : Int32)), .val (.ref a287), .val (.ref a299), .val (.ref a311), .val (.ref a323), .unset, .unset, .unset, .unset, .unset, .unset]) rfl rfl ?_
          refine W.o_iload X (pc' := 165) at_163 rfl rfl ?_
          refine W.o_static X (pc' := 168) at_165 rfl (z := (⟨"java/lang/String", "valueOf", "(C)Ljava/lang/String;"⟩ : MethodName)) (hw _ (List.mem_of_getElem? (i := 0) rfl)) (hw _ (List.mem_of_getElem? (i := 1) rfl)) (hw _ (List.mem_of_getElem? (i := 2) rfl)) (hw _ (List.mem_of_getElem? (i := 3) rfl)) (by decide) (ctVO l Z a0 hw d1 cz h334 C0 hcz qd1) (fun _ q => nomatch q) [(.int d1)] rfl (rest := []) rfl pd__C_Ljava_lang_String_ rfl rfl (by decide) (by exact Nat.le_of_ble_eq_true rfl) (by decide) (by decide) (fun v342 T q343 => ?_)
          obtain ⟨h346, S344, ⟨a335, t336, rfl, K337, g338, z339, y340, G341⟩, X345⟩ := q343
          have X := X345 [] all0
          show W.Go _ _ _ _ _ _ _ _ _ _ _ (mkF m 168 #[.val (.int p0), .val (.int p1), .val (.int p2), .val (.int p3), .val (.int c0), .val (.int c1), .val (.int c2), .val (.int d0), .val (.int d1), .val (.int d2), .val (.int (0 : Int32)), .val (.ref a287), .val (.ref a299), .val (.ref a311), .val (.ref a323), .unset, .unset, .unset, .unset, .unset, .unset] [(.ref a335)])
          refine W.o_astore X (pc' := 170) at_168 rfl (L' := #[.val (.int p0), .val (.int p1), .val (.int p2), .val (.int p3), .val (.int c0), .val (.int c1), .val (.int c2), .val (.int d0), .val (.int d1), .val (.int d2), .val (.int (0 : Int32)), .val (.ref a287), .val (.ref a299), .val (.ref a311), .val (.ref a323), .val (.ref a335), .unset, .unset, .unset, .unset, .unset]) rfl rfl ?_
          refine W.o_iload X (pc' := 172) at_170 rfl rfl ?_
          refine W.o_static X (pc' := 175) at_172 rfl (z := (⟨"java/lang/String", "valueOf", "(C)Ljava/lang/String;"⟩ : MethodName)) (hw _ (List.mem_of_getElem? (i := 0) rfl)) (hw _ (List.mem_of_getElem? (i := 1) rfl)) (hw _ (List.mem_of_getElem? (i := 2) rfl)) (hw _ (List.mem_of_getElem? (i := 3) rfl)) (by decide) (ctVO l Z a0 hw d2 cz h346 C0 hcz qd2) (fun _ q => nomatch q) [(.int d2)] rfl (rest := []) rfl pd__C_Ljava_lang_String_ rfl rfl (by decide) (by exact Nat.le_of_ble_eq_true rfl) (by decide) (by decide) (fun v354 T q355 => ?_)
          obtain ⟨h358, S356, ⟨a347, t348, rfl, K349, g350, z351, y352, G353⟩, X357⟩ := q355
          have X := X357 [] all0
          show W.Go _ _ _ _ _ _ _ _ _ _ _ (mkF m 175 #[.val (.int p0), .val (.int p1), .val (.int p2), .val (.int p3), .val (.int c0), .val (.int c1), .val (.int c2), .val (.int d0), .val (.int d1), .val (.int d2), .val (.int (0 : Int32)), .val (.ref a287), .val (.ref a299), .val (.ref a311), .val (.ref a323), .val (.ref a335), .unset, .unset, .unset, .unset, .unset] [(.ref a347)])
          refine W.o_astore X (pc' := 177) at_175 rfl (L' := #[.val (.int p0), .val (.int p1), .val (.int p2), .val (.int p3), .val (.int c0), .val (.int c1), .val (.int c2), .val (.int d0), .val (.int d1), .val (.int d2), .val (.int (0 : Int32)), .val (.ref a287), .val (.ref a299), .val (.ref a311), .val (.ref a323), .val (.ref a335), .val (.ref a347), .unset, .unset, .unset, .unset]) rfl rfl ?_
          refine W.o_new X (pc' := 180) at_177 rfl (hw _ (List.mem_of_getElem? (i := 26) rfl)) (hw _ (List.mem_of_getElem? (i := 27) rfl)) (hw _ (List.mem_of_getElem? (i := 28) rfl)) (by decide) (by decide) (fun T h359 b360 g361 z362 e363 a364 D365 X => ?_)
          have f366 : Fld Z h359 b360 "com/example/holdfast/holdfast/redis/LockKeys" "key" "Ljava/lang/String;" .null := D365 (Or.inr (hw _ (List.mem_of_getElem? (i := 42) rfl))) (ty := (.object "java/lang/String")) (by decide)
          have f367 : Fld Z h359 b360 "com/example/holdfast/holdfast/redis/LockKeys" "fenceKey" "Ljava/lang/String;" .null := D365 (Or.inr (hw _ (List.mem_of_getElem? (i := 45) rfl))) (ty := (.object "java/lang/String")) (by decide)
          have f368 : Fld Z h359 b360 "com/example/holdfast/holdfast/redis/LockKeys" "waitersKey" "Ljava/lang/String;" .null := D365 (Or.inr (hw _ (List.mem_of_getElem? (i := 48) rfl))) (ty := (.object "java/lang/String")) (by decide)
          have f369 : Fld Z h359 b360 "com/example/holdfast/holdfast/redis/LockKeys" "slot" "I" (.int (0 : Int32)) := D365 (Or.inr (hw _ (List.mem_of_getElem? (i := 50) rfl))) (ty := .int) (by decide)
          have f370 : Fld Z h359 b360 "com/example/holdfast/holdfast/redis/LockKeys" "hash" "I" (.int (0 : Int32)) := D365 (Or.inr (hw _ (List.mem_of_getElem? (i := 80) rfl))) (ty := .int) (by decide)
          refine W.o_dup X (pc' := 181) at_180 rfl rfl ?_
          refine W.o_aload X (pc' := 183) at_181 rfl rfl rfl ?_
          refine W.o_aload X (pc' := 185) at_183 rfl rfl rfl ?_
          refine W.o_aload X (pc' := 187) at_185 rfl rfl rfl ?_
          refine W.o_iloadN X (pc' := 188) at_187 rfl rfl ?_
          have f379 := ((((((G293.keep K301 nin0 nin0).keep K313 nin0 nin0).keep K325 nin0 nin0).keep K337 nin0 nin0).keep K349 nin0 nin0).ext e363)
          have f380 := (((((G305.keep K313 nin0 nin0).keep K325 nin0 nin0).keep K337 nin0 nin0).keep K349 nin0 nin0).ext e363)
          have f381 := ((((G317.keep K325 nin0 nin0).keep K337 nin0 nin0).keep K349 nin0 nin0).ext e363)
          refine W.o_special X (pc' := 191) at_188 rfl (z := (⟨"com/example/holdfast/holdfast/redis/LockKeys", "<init>", "(Ljava/lang/String;Ljava/lang/String;Ljava/lang/String;I)V"⟩ : MethodName)) rfl (hw _ (List.mem_of_getElem? (i := 29) rfl)) (hw _ (List.mem_of_getElem? (i := 30) rfl)) (hw _ (List.mem_of_getElem? (i := 28) rfl)) (hw _ (List.mem_of_getElem? (i := 31) rfl)) (by decide) (ctLI l Z a0 hw b360 a287 a299 a311 t288 t300 t312 p3 [c0] [c1] [c2] cz h359 C0 hcz z362 a364 f366 f367 f368 f369 f370 (by exact Nat.succ_ne_zero _) z291 f379 (by exact Nat.succ_ne_zero _) z303 f380 (by exact Nat.succ_ne_zero _) z315 f381 (Nat.ne_of_lt (Nat.lt_of_lt_of_le G293.lt g302)) (Nat.ne_of_lt (Nat.lt_of_lt_of_le (G293.keep K301 nin0 nin0).lt g314)) (Nat.ne_of_lt (Nat.lt_of_lt_of_le G305.lt g314))) (allS ⟨((((((G293.keep K301 nin0 nin0).keep K313 nin0 nin0).keep K325 nin0 nin0).keep K337 nin0 nin0).keep K349 nin0 nin0).ext e363).lt, (Or.inl rfl)⟩ (allS ⟨(((((G305.keep K313 nin0 nin0).keep K325 nin0 nin0).keep K337 nin0 nin0).keep K349 nin0 nin0).ext e363).lt, (Or.inl rfl)⟩ (allS ⟨((((G317.keep K325 nin0 nin0).keep K337 nin0 nin0).keep K349 nin0 nin0).ext e363).lt, (Or.inl rfl)⟩ all0))) [(.ref a287), (.ref a299), (.ref a311), (.int p3)] rfl (rest := [(.ref b360)]) rfl pd__Ljava_lang_String_Ljava_lang_String_Ljava_lang_String_I_V rfl rfl (by decide) (by exact Nat.le_of_ble_eq_true rfl) (by decide) (by decide) (fun v382 T q383 => ?_)
          obtain ⟨h386, S384, ⟨rfl, K371, E372, F373, F374, F375, G376, G377, G378⟩, X385⟩ := q383
          have X := X385 [] all0
          show W.Go _ _ _ _ _ _ _ _ _ _ _ (mkF m 191 #[.val (.int p0), .val (.int p1), .val (.int p2), .val (.int p3), .val (.int c0), .val (.int c1), .val (.int c2), .val (.int d0), .val (.int d1), .val (.int d2), .val (.int (0 : Int32)), .val (.ref a287), .val (.ref a299), .val (.ref a311), .val (.ref a323), .val (.ref a335), .val (.ref a347), .unset, .unset, .unset, .unset] [(.ref b360)])
          refine W.o_astore X (pc' := 193) at_191 rfl (L' := #[.val (.int p0), .val (.int p1), .val (.int p2), .val (.int p3), .val (.int c0), .val (.int c1), .val (.int c2), .val (.int d0), .val (.int d1), .val (.int d2), .val (.int (0 : Int32)), .val (.ref a287), .val (.ref a299), .val (.ref a311), .val (.ref a323), .val (.ref a335), .val (.ref a347), .val (.ref b360), .unset, .unset, .unset]) rfl rfl ?_
          refine W.o_new X (pc' := 196) at_193 rfl (hw _ (List.mem_of_getElem? (i := 26) rfl)) (hw _ (List.mem_of_getElem? (i := 27) rfl)) (hw _ (List.mem_of_getElem? (i := 28) rfl)) (by decide) (by decide) (fun T h387 b388 g389 z390 e391 a392 D393 X => ?_)
          have f394 : Fld Z h387 b388 "com/example/holdfast/holdfast/redis/LockKeys" "key" "Ljava/lang/String;" .null := D393 (Or.inr (hw _ (List.mem_of_getElem? (i := 42) rfl))) (ty := (.object "java/lang/String")) (by decide)
          have f395 : Fld Z h387 b388 "com/example/holdfast/holdfast/redis/LockKeys" "fenceKey" "Ljava/lang/String;" .null := D393 (Or.inr (hw _ (List.mem_of_getElem? (i := 45) rfl))) (ty := (.object "java/lang/String")) (by decide)
          have f396 : Fld Z h387 b388 "com/example/holdfast/holdfast/redis/LockKeys" "waitersKey" "Ljava/lang/String;" .null := D393 (Or.inr (hw _ (List.mem_of_getElem? (i := 48) rfl))) (ty := (.object "java/lang/String")) (by decide)
          have f397 : Fld Z h387 b388 "com/example/holdfast/holdfast/redis/LockKeys" "slot" "I" (.int (0 : Int32)) := D393 (Or.inr (hw _ (List.mem_of_getElem? (i := 50) rfl))) (ty := .int) (by decide)
          have f398 : Fld Z h387 b388 "com/example/holdfast/holdfast/redis/LockKeys" "hash" "I" (.int (0 : Int32)) := D393 (Or.inr (hw _ (List.mem_of_getElem? (i := 80) rfl))) (ty := .int) (by decide)
          refine W.o_dup X (pc' := 197) at_196 rfl rfl ?_
          refine W.o_aload X (pc' := 199) at_197 rfl rfl rfl ?_
          refine W.o_aload X (pc' := 201) at_199 rfl rfl rfl ?_
          refine W.o_aload X (pc' := 203) at_201 rfl rfl rfl ?_
          refine W.o_iloadN X (pc' := 204) at_203 rfl rfl ?_
          have f407 := (((((G329.keep K337 nin0 nin0).keep K349 nin0 nin0).ext e363).keep K371 (ninS (Nat.ne_of_lt (Nat.lt_of_lt_of_le ((G329.keep K337 nin0 nin0).keep K349 nin0 nin0).lt (Nat.le_of_eq g361.symm))) (ninS (Ne.symm (Nat.ne_of_lt (Nat.lt_of_lt_of_le ((G293.keep K301 nin0 nin0).keep K313 nin0 nin0).lt g326))) (ninS (Ne.symm (Nat.ne_of_lt (Nat.lt_of_lt_of_le (G305.keep K313 nin0 nin0).lt g326))) (ninS (Ne.symm (Nat.ne_of_lt (Nat.lt_of_lt_of_le G317.lt g326))) nin0)))) (ninS (Nat.ne_of_lt (Nat.lt_of_lt_of_le ((G329.keep K337 nin0 nin0).keep K349 nin0 nin0).lt' (Nat.le_of_eq g361.symm))) (ninS (Ne.symm (Nat.ne_of_lt (Nat.lt_of_lt_of_le ((G293.keep K301 nin0 nin0).keep K313 nin0 nin0).lt y328))) (ninS (Ne.symm (Nat.ne_of_lt (Nat.lt_of_lt_of_le (G305.keep K313 nin0 nin0).lt y328))) (ninS (Ne.symm (Nat.ne_of_lt (Nat.lt_of_lt_of_le G317.lt y328))) nin0))))).ext e391)
          have f408 := ((((G341.keep K349 nin0 nin0).ext e363).keep K371 (ninS (Nat.ne_of_lt (Nat.lt_of_lt_of_le (G341.keep K349 nin0 nin0).lt (Nat.le_of_eq g361.symm))) (ninS (Ne.symm (Nat.ne_of_lt (Nat.lt_of_lt_of_le (((G293.keep K301 nin0 nin0).keep K313 nin0 nin0).keep K325 nin0 nin0).lt g338))) (ninS (Ne.symm (Nat.ne_of_lt (Nat.lt_of_lt_of_le ((G305.keep K313 nin0 nin0).keep K325 nin0 nin0).lt g338))) (ninS (Ne.symm (Nat.ne_of_lt (Nat.lt_of_lt_of_le (G317.keep K325 nin0 nin0).lt g338))) nin0)))) (ninS (Nat.ne_of_lt (Nat.lt_of_lt_of_le (G341.keep K349 nin0 nin0).lt' (Nat.le_of_eq g361.symm))) (ninS (Ne.symm (Nat.ne_of_lt (Nat.lt_of_lt_of_le (((G293.keep K301 nin0 nin0).keep K313 nin0 nin0).keep K325 nin0 nin0).lt y340))) (ninS (Ne.symm (Nat.ne_of_lt (Nat.lt_of_lt_of_le ((G305.keep K313 nin0 nin0).keep K325 nin0 nin0).lt y340))) (ninS (Ne.symm (Nat.ne_of_lt (Nat.lt_of_lt_of_le (G317.keep K325 nin0 nin0).lt y340))) nin0))))).ext e391)
          have f409 := (((G353.ext e363).keep K371 (ninS (Nat.ne_of_lt (Nat.lt_of_lt_of_le G353.lt (Nat.le_of_eq g361.symm))) (ninS (Ne.symm (Nat.ne_of_lt (Nat.lt_of_lt_of_le ((((G293.keep K301 nin0 nin0).keep K313 nin0 nin0).keep K325 nin0 nin0).keep K337 nin0 nin0).lt g350))) (ninS (Ne.symm (Nat.ne_of_lt (Nat.lt_of_lt_of_le (((G305.keep K313 nin0 nin0).keep K325 nin0 nin0).keep K337 nin0 nin0).lt g350))) (ninS (Ne.symm (Nat.ne_of_lt (Nat.lt_of_lt_of_le ((G317.keep K325 nin0 nin0).keep K337 nin0 nin0).lt g350))) nin0)))) (ninS (Nat.ne_of_lt (Nat.lt_of_lt_of_le G353.lt' (Nat.le_of_eq g361.symm))) (ninS (Ne.symm (Nat.ne_of_lt (Nat.lt_of_lt_of_le ((((G293.keep K301 nin0 nin0).keep K313 nin0 nin0).keep K325 nin0 nin0).keep K337 nin0 nin0).lt y352))) (ninS (Ne.symm (Nat.ne_of_lt (Nat.lt_of_lt_of_le (((G305.keep K313 nin0 nin0).keep K325 nin0 nin0).keep K337 nin0 nin0).lt y352))) (ninS (Ne.symm (Nat.ne_of_lt (Nat.lt_of_lt_of_le ((G317.keep K325 nin0 nin0).keep K337 nin0 nin0).lt y352))) nin0))))).ext e391)
          refine W.o_special X (pc' := 207) at_204 rfl (z := (⟨"com/example/holdfast/holdfast/redis/LockKeys", "<init>", "(Ljava/lang/String;Ljava/lang/String;Ljava/lang/String;I)V"⟩ : MethodName)) rfl (hw _ (List.mem_of_getElem? (i := 29) rfl)) (hw _ (List.mem_of_getElem? (i := 30) rfl)) (hw _ (List.mem_of_getElem? (i := 28) rfl)) (hw _ (List.mem_of_getElem? (i := 31) rfl)) (by decide) (ctLI l Z a0 hw b388 a323 a335 a347 t324 t336 t348 p3 [d0] [d1] [d2] cz h387 C0 hcz z390 a392 f394 f395 f396 f397 f398 (by exact Nat.succ_ne_zero _) z327 f407 (by exact Nat.succ_ne_zero _) z339 f408 (by exact Nat.succ_ne_zero _) z351 f409 (Nat.ne_of_lt (Nat.lt_of_lt_of_le G329.lt g338)) (Nat.ne_of_lt (Nat.lt_of_lt_of_le (G329.keep K337 nin0 nin0).lt g350)) (Nat.ne_of_lt (Nat.lt_of_lt_of_le G341.lt g350))) (allS ⟨(((((G329.keep K337 nin0 nin0).keep K349 nin0 nin0).ext e363).keep K371 (ninS (Nat.ne_of_lt (Nat.lt_of_lt_of_le ((G329.keep K337 nin0 nin0).keep K349 nin0 nin0).lt (Nat.le_of_eq g361.symm))) (ninS (Ne.symm (Nat.ne_of_lt (Nat.lt_of_lt_of_le ((G293.keep K301 nin0 nin0).keep K313 nin0 nin0).lt g326))) (ninS (Ne.symm (Nat.ne_of_lt (Nat.lt_of_lt_of_le (G305.keep K313 nin0 nin0).lt g326))) (ninS (Ne.symm (Nat.ne_of_lt (Nat.lt_of_lt_of_le G317.lt g326))) nin0)))) (ninS (Nat.ne_of_lt (Nat.lt_of_lt_of_le ((G329.keep K337 nin0 nin0).keep K349 nin0 nin0).lt' (Nat.le_of_eq g361.symm))) (ninS (Ne.symm (Nat.ne_of_lt (Nat.lt_of_lt_of_le ((G293.keep K301 nin0 nin0).keep K313 nin0 nin0).lt y328))) (ninS (Ne.symm (Nat.ne_of_lt (Nat.lt_of_lt_of_le (G305.keep K313 nin0 nin0).lt y328))) (ninS (Ne.symm (Nat.ne_of_lt (Nat.lt_of_lt_of_le G317.lt y328))) nin0))))).ext e391).lt, (Or.inl rfl)⟩ (allS ⟨((((G341.keep K349 nin0 nin0).ext e363).keep K371 (ninS (Nat.ne_of_lt (Nat.lt_of_lt_of_le (G341.keep K349 nin0 nin0).lt (Nat.le_of_eq g361.symm))) (ninS (Ne.symm (Nat.ne_of_lt (Nat.lt_of_lt_of_le (((G293.keep K301 nin0 nin0).keep K313 nin0 nin0).keep K325 nin0 nin0).lt g338))) (ninS (Ne.symm (Nat.ne_of_lt (Nat.lt_of_lt_of_le ((G305.keep K313 nin0 nin0).keep K325 nin0 nin0).lt g338))) (ninS (Ne.symm (Nat.ne_of_lt (Nat.lt_of_lt_of_le (G317.keep K325 nin0 nin0).lt g338))) nin0)))) (ninS (Nat.ne_of_lt (Nat.lt_of_lt_of_le (G341.keep K349 nin0 nin0).lt' (Nat.le_of_eq g361.symm))) (ninS (Ne.symm (Nat.ne_of_lt (Nat.lt_of_lt_of_le (((G293.keep K301 nin0 nin0).keep K313 nin0 nin0).keep K325 nin0 nin0).lt y340))) (ninS (Ne.symm (Nat.ne_of_lt (Nat.lt_of_lt_of_le ((G305.keep K313 nin0 nin0).keep K325 nin0 nin0).lt y340))) (ninS (Ne.symm (Nat.ne_of_lt (Nat.lt_of_lt_of_le (G317.keep K325 nin0 nin0).lt y340))) nin0))))).ext e391).lt, (Or.inl rfl)⟩ (allS ⟨(((G353.ext e363).keep K371 (ninS (Nat.ne_of_lt (Nat.lt_of_lt_of_le G353.lt (Nat.le_of_eq g361.symm))) (ninS (Ne.symm (Nat.ne_of_lt (Nat.lt_of_lt_of_le ((((G293.keep K301 nin0 nin0).keep K313 nin0 nin0).keep K325 nin0 nin0).keep K337 nin0 nin0).lt g350))) (ninS (Ne.symm (Nat.ne_of_lt (Nat.lt_of_lt_of_le (((G305.keep K313 nin0 nin0).keep K325 nin0 nin0).keep K337 nin0 nin0).lt g350))) (ninS (Ne.symm (Nat.ne_of_lt (Nat.lt_of_lt_of_le ((G317.keep K325 nin0 nin0).keep K337 nin0 nin0).lt g350))) nin0)))) (ninS (Nat.ne_of_lt (Nat.lt_of_lt_of_le G353.lt' (Nat.le_of_eq g361.symm))) (ninS (Ne.symm (Nat.ne_of_lt (Nat.lt_of_lt_of_le ((((G293.keep K301 nin0 nin0).keep K313 nin0 nin0).keep K325 nin0 nin0).keep K337 nin0 nin0).lt y352))) (ninS (Ne.symm (Nat.ne_of_lt (Nat.lt_of_lt_of_le (((G305.keep K313 nin0 nin0).keep K325 nin0 nin0).keep K337 nin0 nin0).lt y352))) (ninS (Ne.symm (Nat.ne_of_lt (Nat.lt_of_lt_of_le ((G317.keep K325 nin0 nin0).keep K337 nin0 nin0).lt y352))) nin0))))).ext e391).lt, (Or.inl rfl)⟩ all0))) [(.ref a323), (.ref a335), (.ref a347), (.int p3)] rfl (rest := [(.ref b388)]) rfl pd__Ljava_lang_String_Ljava_lang_String_Ljava_lang_String_I_V rfl rfl (by decide) (by exact Nat.le_of_ble_eq_true rfl) (by decide) (by decide) (fun v410 T q411 => ?_)
          obtain ⟨h414, S412, ⟨rfl, K399, E400, F401, F402, F403, G404, G405, G406⟩, X413⟩ := q411
          have X := X413 [] all0
          show W.Go _ _ _ _ _ _ _ _ _ _ _ (mkF m 207 #[.val (.int p0), .val (.int p1), .val (.int p2), .val (.int p3), .val (.int c0), .val (.int c1), .val (.int c2), .val (.int d0), .val (.int d1), .val (.int d2), .val (.int (0 : Int32)), .val (.ref a287), .val (.ref a299), .val (.ref a311), .val (.ref a323), .val (.ref a335), .val (.ref a347), .val (.ref b360), .unset, .unset, .unset] [(.ref b388)])
          refine W.o_astore X (pc' := 209) at_207 rfl (L' := #[.val (.int p0), .val (.int p1), .val (.int p2), .val (.int p3), .val (.int c0), .val (.int c1), .val (.int c2), .val (.int d0), .val (.int d1), .val (.int d2), .val (.int (0 : Int32)), .val (.ref a287), .val (.ref a299), .val (.ref a311), .val (.ref a323), .val (.ref a335), .val (.ref a347), .val (.ref b360), .val (.ref b388), .unset, .unset]) rfl rfl ?_
          refine W.o_iloadN X (pc' := 210) at_209 rfl rfl ?_
          refine W.o_iconst X (3 : Int32) (pc' := 211) at_210 rfl rfl ?_
          refine W.o_iushr X (pc' := 212) at_211 rfl ?_
          refine W.o_iconst X (3 : Int32) (pc' := 213) at_212 rfl rfl ?_
          refine W.o_iand X (pc' := 214) at_213 rfl ?_
          generalize hu : (((p2.toUInt32 >>> ((3 : Int32) &&& 31).toUInt32).toInt32) &&& (3 : Int32)) = u
          refine W.o_istore X (pc' := 216) at_214 rfl (L' := #[.val (.int p0), .val (.int p1), .val (.int p2), .val (.int p3), .val (.int c0), .val (.int c1), .val (.int c2), .val (.int d0), .val (.int d1), .val (.int d2), .val (.int (0 : Int32)), .val (.ref a287), .val (.ref a299), .val (.ref a311), .val (.ref a323), .val (.ref a335), .val (.ref a347), .val (.ref b360), .val (.ref b388), .val (.int u), .unset]) rfl ?_
          refine W.o_iload X (pc' := 218) at_216 rfl rfl ?_
          refine W.o_iconst X (1 : Int32) (pc' := 219) at_218 rfl rfl ?_
          refine W.o_if_icmpne X (pt := 237) (pf := 222) at_219 ⟨by decide, by decide⟩ rfl (fun hu1 => ?_) (fun hu1 => ?_)
          · refine W.o_iload X (pc' := 239) at_237 rfl rfl ?_
            refine W.o_iconst X (2 : Int32) (pc' := 240) at_239 rfl rfl ?_
            refine W.o_if_icmpne X (pt := 259) (pf := 243) at_240 ⟨by decide, by decide⟩ rfl (fun hu2 => ?_) (fun hu2 => ?_)
            · refine W.o_iload X (pc' := 261) at_259 rfl rfl ?_
              refine W.o_iconst X (3 : Int32) (pc' := 262) at_261 rfl rfl ?_
              refine W.o_if_icmpne X (pt := 273) (pf := 265) at_262 ⟨by decide, by decide⟩ rfl (fun hu3 => ?_) (fun hu3 => ?_)
              · refine W.o_iload X (pc' := 275) at_273 rfl rfl ?_
                refine W.o_ifne X (pt := 303) (pf := 278) at_275 ⟨by decide, by decide⟩ rfl (fun hc => absurd rfl hc) (fun _ => ?_)
                refine W.o_iload X (pc' := 280) at_278 rfl rfl ?_
                refine W.o_iload X (pc' := 282) at_280 rfl rfl ?_
                refine W.o_if_icmpne X (pt := 303) (pf := 285) at_282 ⟨by decide, by decide⟩ rfl (fun g1 => ?_) (fun g1 => ?_)
                · refine W.o_iconst X (0 : Int32) (pc' := 304) at_303 rfl rfl ?_
                  refine W.o_istore X (pc' := 306) at_304 rfl (L' := #[.val (.int p0), .val (.int p1), .val (.int p2), .val (.int p3), .val (.int c0), .val (.int c1), .val (.int c2), .val (.int d0), .val (.int d1), .val (.int d2), .val (.int (0 : Int32)), .val (.ref a287), .val (.ref a299), .val (.ref a311), .val (.ref a323), .val (.ref a335), .val (.ref a347), .val (.ref b360), .val (.ref b388), .val (.int u), .val (.int (0 : Int32))]) rfl ?_
                  refine W.o_aload X (pc' := 308) at_306 rfl rfl rfl ?_
                  refine W.o_aload X (pc' := 310) at_308 rfl rfl rfl ?_
                  have f440 := ((E372.ext e391).keep K399)
                  have f441 := ((F373.ext e391).keep K399 (ninS (Nat.ne_of_lt (Nat.lt_of_lt_of_le E372.lt (Nat.le_of_eq g389.symm))) (ninS (Ne.symm (Nat.ne_of_lt (Nat.lt_of_lt_of_le ((G329.keep K337 nin0 nin0).keep K349 nin0 nin0).lt (Nat.le_of_eq g361.symm)))) (ninS (Ne.symm (Nat.ne_of_lt (Nat.lt_of_lt_of_le (G341.keep K349 nin0 nin0).lt (Nat.le_of_eq g361.symm)))) (ninS (Ne.symm (Nat.ne_of_lt (Nat.lt_of_lt_of_le G353.lt (Nat.le_of_eq g361.symm)))) nin0)))))
                  have f442 := ((F374.ext e391).keep K399 (ninS (Nat.ne_of_lt (Nat.lt_of_lt_of_le E372.lt (Nat.le_of_eq g389.symm))) (ninS (Ne.symm (Nat.ne_of_lt (Nat.lt_of_lt_of_le ((G329.keep K337 nin0 nin0).keep K349 nin0 nin0).lt (Nat.le_of_eq g361.symm)))) (ninS (Ne.symm (Nat.ne_of_lt (Nat.lt_of_lt_of_le (G341.keep K349 nin0 nin0).lt (Nat.le_of_eq g361.symm)))) (ninS (Ne.symm (Nat.ne_of_lt (Nat.lt_of_lt_of_le G353.lt (Nat.le_of_eq g361.symm)))) nin0)))))
                  have f443 := ((F375.ext e391).keep K399 (ninS (Nat.ne_of_lt (Nat.lt_of_lt_of_le E372.lt (Nat.le_of_eq g389.symm))) (ninS (Ne.symm (Nat.ne_of_lt (Nat.lt_of_lt_of_le ((G329.keep K337 nin0 nin0).keep K349 nin0 nin0).lt (Nat.le_of_eq g361.symm)))) (ninS (Ne.symm (Nat.ne_of_lt (Nat.lt_of_lt_of_le (G341.keep K349 nin0 nin0).lt (Nat.le_of_eq g361.symm)))) (ninS (Ne.symm (Nat.ne_of_lt (Nat.lt_of_lt_of_le G353.lt (Nat.le_of_eq g361.symm)))) nin0)))))
                  have f444 := ((G376.ext e391).keep K399 (ninS (Nat.ne_of_lt (Nat.lt_of_lt_of_le G376.lt (Nat.le_of_eq g389.symm))) (ninS (Nat.ne_of_lt (Nat.lt_of_lt_of_le ((G293.keep K301 nin0 nin0).keep K313 nin0 nin0).lt g326)) (ninS (Nat.ne_of_lt (Nat.lt_of_lt_of_le (((G293.keep K301 nin0 nin0).keep K313 nin0 nin0).keep K325 nin0 nin0).lt g338)) (ninS (Nat.ne_of_lt (Nat.lt_of_lt_of_le ((((G293.keep K301 nin0 nin0).keep K313 nin0 nin0).keep K325 nin0 nin0).keep K337 nin0 nin0).lt g350)) nin0)))) (ninS (Nat.ne_of_lt (Nat.lt_of_lt_of_le G376.lt' (Nat.le_of_eq g389.symm))) (ninS (Nat.ne_of_lt (Nat.lt_of_lt_of_le ((G293.keep K301 nin0 nin0).keep K313 nin0 nin0).lt' g326)) (ninS (Nat.ne_of_lt (Nat.lt_of_lt_of_le (((G293.keep K301 nin0 nin0).keep K313 nin0 nin0).keep K325 nin0 nin0).lt' g338)) (ninS (Nat.ne_of_lt (Nat.lt_of_lt_of_le ((((G293.keep K301 nin0 nin0).keep K313 nin0 nin0).keep K325 nin0 nin0).keep K337 nin0 nin0).lt' g350)) nin0)))))
                  have f445 := ((G377.ext e391).keep K399 (ninS (Nat.ne_of_lt (Nat.lt_of_lt_of_le G377.lt (Nat.le_of_eq g389.symm))) (ninS (Nat.ne_of_lt (Nat.lt_of_lt_of_le (G305.keep K313 nin0 nin0).lt g326)) (ninS (Nat.ne_of_lt (Nat.lt_of_lt_of_le ((G305.keep K313 nin0 nin0).keep K325 nin0 nin0).lt g338)) (ninS (Nat.ne_of_lt (Nat.lt_of_lt_of_le (((G305.keep K313 nin0 nin0).keep K325 nin0 nin0).keep K337 nin0 nin0).lt g350)) nin0)))) (ninS (Nat.ne_of_lt (Nat.lt_of_lt_of_le G377.lt' (Nat.le_of_eq g389.symm))) (ninS (Nat.ne_of_lt (Nat.lt_of_lt_of_le (G305.keep K313 nin0 nin0).lt' g326)) (ninS (Nat.ne_of_lt (Nat.lt_of_lt_of_le ((G305.keep K313 nin0 nin0).keep K325 nin0 nin0).lt' g338)) (ninS (Nat.ne_of_lt (Nat.lt_of_lt_of_le (((G305.keep K313 nin0 nin0).keep K325 nin0 nin0).keep K337 nin0 nin0).lt' g350)) nin0)))))
                  have f446 := ((G378.ext e391).keep K399 (ninS (Nat.ne_of_lt (Nat.lt_of_lt_of_le G378.lt (Nat.le_of_eq g389.symm))) (ninS (Nat.ne_of_lt (Nat.lt_of_lt_of_le G317.lt g326)) (ninS (Nat.ne_of_lt (Nat.lt_of_lt_of_le (G317.keep K325 nin0 nin0).lt g338)) (ninS (Nat.ne_of_lt (Nat.lt_of_lt_of_le ((G317.keep K325 nin0 nin0).keep K337 nin0 nin0).lt g350)) nin0)))) (ninS (Nat.ne_of_lt (Nat.lt_of_lt_of_le G378.lt' (Nat.le_of_eq g389.symm))) (ninS (Nat.ne_of_lt (Nat.lt_of_lt_of_le G317.lt' g326)) (ninS (Nat.ne_of_lt (Nat.lt_of_lt_of_le (G317.keep K325 nin0 nin0).lt' g338)) (ninS (Nat.ne_of_lt (Nat.lt_of_lt_of_le ((G317.keep K325 nin0 nin0).keep K337 nin0 nin0).lt' g350)) nin0)))))
                  refine W.o_virtual X (pc' := 313) at_310 rfl (u := (⟨"com/example/holdfast/holdfast/redis/LockKeys", "equals", "(Ljava/lang/Object;)Z"⟩ : MethodName)) (z := (⟨"com/example/holdfast/holdfast/redis/LockKeys", "equals", "(Ljava/lang/Object;)Z"⟩ : MethodName)) (hw _ (List.mem_of_getElem? (i := 81) rfl)) (hw _ (List.mem_of_getElem? (i := 82) rfl)) (fun s' hZ => notFace_of_selects (args := #[]) (mvT hZ (hw _ (List.mem_of_getElem? (i := 84) rfl)))) (hw _ (List.mem_of_getElem? (i := 84) rfl)) (hw _ (List.mem_of_getElem? (i := 83) rfl)) (hw _ (List.mem_of_getElem? (i := 28) rfl)) (hw _ (List.mem_of_getElem? (i := 85) rfl)) (by decide) f440 (ctEqL l Z a0 hw b360 b388 a287 a299 a311 a323 a335 a347 t288 t300 t312 t324 t336 t348 [c0] [c1] [c2] [d0] [d1] [d2] cz h414 C0 hcz f440 E400 f441 f442 f443 F401 F402 F403 (fun q => absurd q (Nat.ne_of_lt (Nat.lt_of_lt_of_le ((G293.keep K301 nin0 nin0).keep K313 nin0 nin0).lt g326))) f444 G404 (fun q => absurd q (Nat.ne_of_lt (Nat.lt_of_lt_of_le ((G305.keep K313 nin0 nin0).keep K325 nin0 nin0).lt g338))) f445 G405 (fun q => absurd q (Nat.ne_of_lt (Nat.lt_of_lt_of_le ((G317.keep K325 nin0 nin0).keep K337 nin0 nin0).lt g350))) f446 G406) (fun _ q => nomatch q) [(.ref b388)] rfl (rest := []) rfl pd__Ljava_lang_Object__Z rfl rfl (by decide) (by exact Nat.le_of_ble_eq_true rfl) (by decide) (by decide) (fun v447 T q448 => ?_)
                  obtain ⟨h451, S449, ⟨rfl, eh⟩, X450⟩ := q448
                  have eh := eh.symm
                  subst eh
                  have X := X450 [] all0
                  show W.Go _ _ _ _ _ _ _ _ _ _ _ (mkF m 313 #[.val (.int p0), .val (.int p1), .val (.int p2), .val (.int p3), .val (.int c0), .val (.int c1), .val (.int c2), .val (.int d0), .val (.int d1), .val (.int d2), .val (.int (0 : Int32)), .val (.ref a287), .val (.ref a299), .val (.ref a311), .val (.ref a323), .val (.ref a335), .val (.ref a347), .val (.ref b360), .val (.ref b388), .val (.int u), .val (.int (0 : Int32))] [(.int (b2i (decide ([c0] = [d0]) && (decide ([c1] = [d1]) && decide ([c2] = [d2])))))])
                  refine W.o_iload X (pc' := 315) at_313 rfl rfl ?_
                  have hv1 : (b2i (decide ([c0] = [d0]) && (decide ([c1] = [d1]) && decide ([c2] = [d2])))) = 0 := by simp [b2i, g1]
                  refine W.o_if_icmpne X (pt := 334) (pf := 318) at_315 ⟨by decide, by decide⟩ rfl (fun hc => absurd hv1 hc) (fun _ => ?_)
                  refine W.o_aload X (pc' := 320) at_318 rfl rfl rfl ?_
                  refine W.o_aload X (pc' := 322) at_320 rfl rfl rfl ?_
                  refine W.o_virtual X (pc' := 325) at_322 rfl (u := (⟨"com/example/holdfast/holdfast/redis/LockKeys", "equals", "(Ljava/lang/Object;)Z"⟩ : MethodName)) (z := (⟨"com/example/holdfast/holdfast/redis/LockKeys", "equals", "(Ljava/lang/Object;)Z"⟩ : MethodName)) (hw _ (List.mem_of_getElem? (i := 81) rfl)) (hw _ (List.mem_of_getElem? (i := 82) rfl)) (fun s' hZ => notFace_of_selects (args := #[]) (mvT hZ (hw _ (List.mem_of_getElem? (i := 84) rfl)))) (hw _ (List.mem_of_getElem? (i := 84) rfl)) (hw _ (List.mem_of_getElem? (i := 83) rfl)) (hw _ (List.mem_of_getElem? (i := 28) rfl)) (hw _ (List.mem_of_getElem? (i := 85) rfl)) (by decide) E400 (ctEqL l Z a0 hw b388 b360 a323 a335 a347 a287 a299 a311 t324 t336 t348 t288 t300 t312 [d0] [d1] [d2] [c0] [c1] [c2] cz h414 C0 hcz E400 f440 F401 F402 F403 f441 f442 f443 (fun q => absurd q (Ne.symm (Nat.ne_of_lt (Nat.lt_of_lt_of_le ((G293.keep K301 nin0 nin0).keep K313 nin0 nin0).lt g326)))) G404 f444 (fun q => absurd q (Ne.symm (Nat.ne_of_lt (Nat.lt_of_lt_of_le ((G305.keep K313 nin0 nin0).keep K325 nin0 nin0).lt g338)))) G405 f445 (fun q => absurd q (Ne.symm (Nat.ne_of_lt (Nat.lt_of_lt_of_le ((G317.keep K325 nin0 nin0).keep K337 nin0 nin0).lt g350)))) G406 f446) (fun _ q => nomatch q) [(.ref b360)] rfl (rest := []) rfl pd__Ljava_lang_Object__Z rfl rfl (by decide) (by exact Nat.le_of_ble_eq_true rfl) (by decide) (by decide) (fun v452 T q453 => ?_)
                  obtain ⟨h456, S454, ⟨rfl, eh⟩, X455⟩ := q453
                  have eh := eh.symm
                  subst eh
                  have X := X455 [] all0
                  show W.Go _ _ _ _ _ _ _ _ _ _ _ (mkF m 325 #[.val (.int p0), .val (.int p1), .val (.int p2), .val (.int p3), .val (.int c0), .val (.int c1), .val (.int c2), .val (.int d0), .val (.int d1), .val (.int d2), .val (.int (0 : Int32)), .val (.ref a287), .val (.ref a299), .val (.ref a311), .val (.ref a323), .val (.ref a335), .val (.ref a347), .val (.ref b360), .val (.ref b388), .val (.int u), .val (.int (0 : Int32))] [(.int (b2i (decide ([d0] = [c0]) && (decide ([d1] = [c1]) && decide ([d2] = [c2])))))])
                  refine W.o_iload X (pc' := 327) at_325 rfl rfl ?_
                  have hv2 : (b2i (decide ([d0] = [c0]) && (decide ([d1] = [c1]) && decide ([d2] = [c2])))) = 0 := by simp [b2i, Ne.symm (a := c0) g1]
                  refine W.o_if_icmpne X (pt := 334) (pf := 330) at_327 ⟨by decide, by decide⟩ rfl (fun hc => absurd hv2 hc) (fun _ => ?_)
                  refine W.o_iconst X (1 : Int32) (pc' := 331) at_330 rfl rfl ?_
                  refine W.o_goto X (pc' := 335) at_331 ⟨by decide, by decide⟩ ?_
                  exact W.o_ireturn X at_335 rfl (Or.inl rfl) (v := 1) rfl (by decide) (by decide) fun P hP => rfl
                · refine W.o_iload X (pc' := 287) at_285 rfl rfl ?_
                  refine W.o_iload X (pc' := 289) at_287 rfl rfl ?_
                  refine W.o_if_icmpne X (pt := 303) (pf := 292) at_289 ⟨by decide, by decide⟩ rfl (fun g2 => ?_) (fun g2 => ?_)
                  · refine W.o_iconst X (0 : Int32) (pc' := 304) at_303 rfl rfl ?_
                    refine W.o_istore X (pc' := 306) at_304 rfl (L' := #[.val (.int p0), .val (.int p1), .val (.int p2), .val (.int p3), .val (.int c0), .val (.int c1), .val (.int c2), .val (.int d0), .val (.int d1), .val (.int d2), .val (.int (0 : Int32)), .val (.ref a287), .val (.ref a299), .val (.ref a311), .val (.ref a323), .val (.ref a335), .val (.ref a347), .val (.ref b360), .val (.ref b388), .val (.int u), .val (.int (0 : Int32))]) rfl ?_
                    refine W.o_aload X (pc' := 308) at_306 rfl rfl rfl ?_
                    refine W.o_aload X (pc' := 310) at_308 rfl rfl rfl ?_
                    have f457 := ((E372.ext e391).keep K399)
                    have f458 := ((F373.ext e391).keep K399 (ninS (Nat.ne_of_lt (Nat.lt_of_lt_of_le E372.lt (Nat.le_of_eq g389.symm))) (ninS (Ne.symm (Nat.ne_of_lt (Nat.lt_of_lt_of_le ((G329.keep K337 nin0 nin0).keep K349 nin0 nin0).lt (Nat.le_of_eq g361.symm)))) (ninS (Ne.symm (Nat.ne_of_lt (Nat.lt_of_lt_of_le (G341.keep K349 nin0 nin0).lt (Nat.le_of_eq g361.symm)))) (ninS (Ne.symm (Nat.ne_of_lt (Nat.lt_of_lt_of_le G353.lt (Nat.le_of_eq g361.symm)))) nin0)))))
                    have f459 := ((F374.ext e391).keep K399 (ninS (Nat.ne_of_lt (Nat.lt_of_lt_of_le E372.lt (Nat.le_of_eq g389.symm))) (ninS (Ne.symm (Nat.ne_of_lt (Nat.lt_of_lt_of_le ((G329.keep K337 nin0 nin0).keep K349 nin0 nin0).lt (Nat.le_of_eq g361.symm)))) (ninS (Ne.symm (Nat.ne_of_lt (Nat.lt_of_lt_of_le (G341.keep K349 nin0 nin0).lt (Nat.le_of_eq g361.symm)))) (ninS (Ne.symm (Nat.ne_of_lt (Nat.lt_of_lt_of_le G353.lt (Nat.le_of_eq g361.symm)))) nin0)))))
                    have f460 := ((F375.ext e391).keep K399 (ninS (Nat.ne_of_lt (Nat.lt_of_lt_of_le E372.lt (Nat.le_of_eq g389.symm))) (ninS (Ne.symm (Nat.ne_of_lt (Nat.lt_of_lt_of_le ((G329.keep K337 nin0 nin0).keep K349 nin0 nin0).lt (Nat.le_of_eq g361.symm)))) (ninS (Ne.symm (Nat.ne_of_lt (Nat.lt_of_lt_of_le (G341.keep K349 nin0 nin0).lt (Nat.le_of_eq g361.symm)))) (ninS (Ne.symm (Nat.ne_of_lt (Nat.lt_of_lt_of_le G353.lt (Nat.le_of_eq g361.symm)))) nin0)))))
                    have f461 := ((G376.ext e391).keep K399 (ninS (Nat.ne_of_lt (Nat.lt_of_lt_of_le G376.lt (Nat.le_of_eq g389.symm))) (ninS (Nat.ne_of_lt (Nat.lt_of_lt_of_le ((G293.keep K301 nin0 nin0).keep K313 nin0 nin0).lt g326)) (ninS (Nat.ne_of_lt (Nat.lt_of_lt_of_le (((G293.keep K301 nin0 nin0).keep K313 nin0 nin0).keep K325 nin0 nin0).lt g338)) (ninS (Nat.ne_of_lt (Nat.lt_of_lt_of_le ((((G293.keep K301 nin0 nin0).keep K313 nin0 nin0).keep K325 nin0 nin0).keep K337 nin0 nin0).lt g350)) nin0)))) (ninS (Nat.ne_of_lt (Nat.lt_of_lt_of_le G376.lt' (Nat.le_of_eq g389.symm))) (ninS (Nat.ne_of_lt (Nat.lt_of_lt_of_le ((G293.keep K301 nin0 nin0).keep K313 nin0 nin0).lt' g326)) (ninS (Nat.ne_of_lt (Nat.lt_of_lt_of_le (((G293.keep K301 nin0 nin0).keep K313 nin0 nin0).keep K325 nin0 nin0).lt' g338)) (ninS (Nat.ne_of_lt (Nat.lt_of_lt_of_le ((((G293.keep K301 nin0 nin0).keep K313 nin0 nin0).keep K325 nin0 nin0).keep K337 nin0 nin0).lt' g350)) nin0)))))
                    have f462 := ((G377.ext e391).keep K399 (ninS (Nat.ne_of_lt (Nat.lt_of_lt_of_le G377.lt (Nat.le_of_eq g389.symm))) (ninS (Nat.ne_of_lt (Nat.lt_of_lt_of_le (G305.keep K313 nin0 nin0).lt g326)) (ninS (Nat.ne_of_lt (Nat.lt_of_lt_of_le ((G305.keep K313 nin0 nin0).keep K325 nin0 nin0).lt g338)) (ninS (Nat.ne_of_lt (Nat.lt_of_lt_of_le (((G305.keep K313 nin0 nin0).keep K325 nin0 nin0).keep K337 nin0 nin0).lt g350)) nin0)))) (ninS (Nat.ne_of_lt (Nat.lt_of_lt_of_le G377.lt' (Nat.le_of_eq g389.symm))) (ninS (Nat.ne_of_lt (Nat.lt_of_lt_of_le (G305.keep K313 nin0 nin0).lt' g326)) (ninS (Nat.ne_of_lt (Nat.lt_of_lt_of_le ((G305.keep K313 nin0 nin0).keep K325 nin0 nin0).lt' g338)) (ninS (Nat.ne_of_lt (Nat.lt_of_lt_of_le (((G305.keep K313 nin0 nin0).keep K325 nin0 nin0).keep K337 nin0 nin0).lt' g350)) nin0)))))
                    have f463 := ((G378.ext e391).keep K399 (ninS (Nat.ne_of_lt (Nat.lt_of_lt_of_le G378.lt (Nat.le_of_eq g389.symm))) (ninS (Nat.ne_of_lt (Nat.lt_of_lt_of_le G317.lt g326)) (ninS (Nat.ne_of_lt (Nat.lt_of_lt_of_le (G317.keep K325 nin0 nin0).lt g338)) (ninS (Nat.ne_of_lt (Nat.lt_of_lt_of_le ((G317.keep K325 nin0 nin0).keep K337 nin0 nin0).lt g350)) nin0)))) (ninS (Nat.ne_of_lt (Nat.lt_of_lt_of_le G378.lt' (Nat.le_of_eq g389.symm))) (ninS (Nat.ne_of_lt (Nat.lt_of_lt_of_le G317.lt' g326)) (ninS (Nat.ne_of_lt (Nat.lt_of_lt_of_le (G317.keep K325 nin0 nin0).lt' g338)) (ninS (Nat.ne_of_lt (Nat.lt_of_lt_of_le ((G317.keep K325 nin0 nin0).keep K337 nin0 nin0).lt' g350)) nin0)))))
                    refine W.o_virtual X (pc' := 313) at_310 rfl (u := (⟨"com/example/holdfast/holdfast/redis/LockKeys", "equals", "(Ljava/lang/Object;)Z"⟩ : MethodName)) (z := (⟨"com/example/holdfast/holdfast/redis/LockKeys", "equals", "(Ljava/lang/Object;)Z"⟩ : MethodName)) (hw _ (List.mem_of_getElem? (i := 81) rfl)) (hw _ (List.mem_of_getElem? (i := 82) rfl)) (fun s' hZ => notFace_of_selects (args := #[]) (mvT hZ (hw _ (List.mem_of_getElem? (i := 84) rfl)))) (hw _ (List.mem_of_getElem? (i := 84) rfl)) (hw _ (List.mem_of_getElem? (i := 83) rfl)) (hw _ (List.mem_of_getElem? (i := 28) rfl)) (hw _ (List.mem_of_getElem? (i := 85) rfl)) (by decide) f457 (ctEqL l Z a0 hw b360 b388 a287 a299 a311 a323 a335 a347 t288 t300 t312 t324 t336 t348 [c0] [c1] [c2] [d0] [d1] [d2] cz h414 C0 hcz f457 E400 f458 f459 f460 F401 F402 F403 (fun q => absurd q (Nat.ne_of_lt (Nat.lt_of_lt_of_le ((G293.keep K301 nin0 nin0).keep K313 nin0 nin0).lt g326))) f461 G404 (fun q => absurd q (Nat.ne_of_lt (Nat.lt_of_lt_of_le ((G305.keep K313 nin0 nin0).keep K325 nin0 nin0).lt g338))) f462 G405 (fun q => absurd q (Nat.ne_of_lt (Nat.lt_of_lt_of_le ((G317.keep K325 nin0 nin0).keep K337 nin0 nin0).lt g350))) f463 G406) (fun _ q => nomatch q) [(.ref b388)] rfl (rest := []) rfl pd__Ljava_lang_Object__Z rfl rfl (by decide) (by exact Nat.le_of_ble_eq_true rfl) (by decide) (by decide) (fun v464 T q465 => ?_)
                    obtain ⟨h468, S466, ⟨rfl, eh⟩, X467⟩ := q465
                    have eh := eh.symm
                    subst eh
                    have X := X467 [] all0
                    show W.Go _ _ _ _ _ _ _ _ _ _ _ (mkF m 313 #[.val (.int p0), .val (.int p1), .val (.int p2), .val (.int p3), .val (.int c0), .val (.int c1), .val (.int c2), .val (.int d0), .val (.int d1), .val (.int d2), .val (.int (0 : Int32)), .val (.ref a287), .val (.ref a299), .val (.ref a311), .val (.ref a323), .val (.ref a335), .val (.ref a347), .val (.ref b360), .val (.ref b388), .val (.int u), .val (.int (0 : Int32))] [(.int (b2i (decide ([c0] = [d0]) && (decide ([c1] = [d1]) && decide ([c2] = [d2])))))])
                    refine W.o_iload X (pc' := 315) at_313 rfl rfl ?_
                    have hv1 : (b2i (decide ([c0] = [d0]) && (decide ([c1] = [d1]) && decide ([c2] = [d2])))) = 0 := by simp [b2i, g2]
                    refine W.o_if_icmpne X (pt := 334) (pf := 318) at_315 ⟨by decide, by decide⟩ rfl (fun hc => absurd hv1 hc) (fun _ => ?_)
                    refine W.o_aload X (pc' := 320) at_318 rfl rfl rfl ?_
                    refine W.o_aload X (pc' := 322) at_320 rfl rfl rfl ?_
                    refine W.o_virtual X (pc' := 325) at_322 rfl (u := (⟨"com/example/holdfast/holdfast/redis/LockKeys", "equals", "(Ljava/lang/Object;)Z"⟩ : MethodName)) (z := (⟨"com/example/holdfast/holdfast/redis/LockKeys", "equals", "(Ljava/lang/Object;)Z"⟩ : MethodName)) (hw _ (List.mem_of_getElem? (i := 81) rfl)) (hw _ (List.mem_of_getElem? (i := 82) rfl)) (fun s' hZ => notFace_of_selects (args := #[]) (mvT hZ (hw _ (List.mem_of_getElem? (i := 84) rfl)))) (hw _ (List.mem_of_getElem? (i := 84) rfl)) (hw _ (List.mem_of_getElem? (i := 83) rfl)) (hw _ (List.mem_of_getElem? (i := 28) rfl)) (hw _ (List.mem_of_getElem? (i := 85) rfl)) (by decide) E400 (ctEqL l Z a0 hw b388 b360 a323 a335 a347 a287 a299 a311 t324 t336 t348 t288 t300 t312 [d0] [d1] [d2] [c0] [c1] [c2] cz h414 C0 hcz E400 f457 F401 F402 F403 f458 f459 f460 (fun q => absurd q (Ne.symm (Nat.ne_of_lt (Nat.lt_of_lt_of_le ((G293.keep K301 nin0 nin0).keep K313 nin0 nin0).lt g326)))) G404 f461 (fun q => absurd q (Ne.symm (Nat.ne_of_lt (Nat.lt_of_lt_of_le ((G305.keep K313 nin0 nin0).keep K325 nin0 nin0).lt g338)))) G405 f462 (fun q => absurd q (Ne.symm (Nat.ne_of_lt (Nat.lt_of_lt_of_le ((G317.keep K325 nin0 nin0).keep K337 nin0 nin0).lt g350)))) G406 f463) (fun _ q => nomatch q) [(.ref b360)] rfl (rest := []) rfl pd__Ljava_lang_Object__Z rfl rfl (by decide) (by exact Nat.le_of_ble_eq_true rfl) (by decide) (by decide) (fun v469 T q470 => ?_)
                    obtain ⟨h473, S471, ⟨rfl, eh⟩, X472⟩ := q470
                    have eh := eh.symm
                    subst eh
                    have X := X472 [] all0
                    show W.Go _ _ _ _ _ _ _ _ _ _ _ (mkF m 325 #[.val (.int p0), .val (.int p1), .val (.int p2), .val (.int p3), .val (.int c0), .val (.int c1), .val (.int c2), .val (.int d0), .val (.int d1), .val (.int d2), .val (.int (0 : Int32)), .val (.ref a287), .val (.ref a299), .val (.ref a311), .val (.ref a323), .val (.ref a335), .val (.ref a347), .val (.ref b360), .val (.ref b388), .val (.int u), .val (.int (0 : Int32))] [(.int (b2i (decide ([d0] = [c0]) && (decide ([d1] = [c1]) && decide ([d2] = [c2])))))])
                    refine W.o_iload X (pc' := 327) at_325 rfl rfl ?_
                    have hv2 : (b2i (decide ([d0] = [c0]) && (decide ([d1] = [c1]) && decide ([d2] = [c2])))) = 0 := by simp [b2i, Ne.symm (a := c1) g2]
                    refine W.o_if_icmpne X (pt := 334) (pf := 330) at_327 ⟨by decide, by decide⟩ rfl (fun hc => absurd hv2 hc) (fun _ => ?_)
                    refine W.o_iconst X (1 : Int32) (pc' := 331) at_330 rfl rfl ?_
                    refine W.o_goto X (pc' := 335) at_331 ⟨by decide, by decide⟩ ?_
                    exact W.o_ireturn X at_335 rfl (Or.inl rfl) (v := 1) rfl (by decide) (by decide) fun P hP => rfl
                  · refine W.o_iload X (pc' := 294) at_292 rfl rfl ?_
                    refine W.o_iload X (pc' := 296) at_294 rfl rfl ?_
                    refine W.o_if_icmpne X (pt := 303) (pf := 299) at_296 ⟨by decide, by decide⟩ rfl (fun g3 => ?_) (fun g3 => ?_)
                    · refine W.o_iconst X (0 : Int32) (pc' := 304) at_303 rfl rfl ?_
                      refine W.o_istore X (pc' := 306) at_304 rfl (L' := #[.val (.int p0), .val (.int p1), .val (.int p2), .val (.int p3), .val (.int c0), .val (.int c1), .val (.int c2), .val (.int d0), .val (.int d1), .val (.int d2), .val (.int (0 : Int32)), .val (.ref a287), .val (.ref a299), .val (.ref a311), .val (.ref a323), .val (.ref a335), .val (.ref a347), .val (.ref b360), .val (.ref b388), .val (.int u), .val (.int (0 : Int32))]) rfl ?_
                      refine W.o_aload X (pc' := 308) at_306 rfl rfl rfl ?_
                      refine W.o_aload X (pc' := 310) at_308 rfl rfl rfl ?_
                      have f474 := ((E372.ext e391).keep K399)
                      have f475 := ((F373.ext e391).keep K399 (ninS (Nat.ne_of_lt (Nat.lt_of_lt_of_le E372.lt (Nat.le_of_eq g389.symm))) (ninS (Ne.symm (Nat.ne_of_lt (Nat.lt_of_lt_of_le ((G329.keep K337 nin0 nin0).keep K349 nin0 nin0).lt (Nat.le_of_eq g361.symm)))) (ninS (Ne.symm (Nat.ne_of_lt (Nat.lt_of_lt_of_le (G341.keep K349 nin0 nin0).lt (Nat.le_of_eq g361.symm)))) (ninS (Ne.symm (Nat.ne_of_lt (Nat.lt_of_lt_of_le G353.lt (Nat.le_of_eq g361.symm)))) nin0)))))
                      have f476 := ((F374.ext e391).keep K399 (ninS (Nat.ne_of_lt (Nat.lt_of_lt_of_le E372.lt (Nat.le_of_eq g389.symm))) (ninS (Ne.symm (Nat.ne_of_lt (Nat.lt_of_lt_of_le ((G329.keep K337 nin0 nin0).keep K349 nin0 nin0).lt (Nat.le_of_eq g361.symm)))) (ninS (Ne.symm (Nat.ne_of_lt (Nat.lt_of_lt_of_le (G341.keep K349 nin0 nin0).lt (Nat.le_of_eq g361.symm)))) (ninS (Ne.symm (Nat.ne_of_lt (Nat.lt_of_lt_of_le G353.lt (Nat.le_of_eq g361.symm)))) nin0)))))
                      have f477 := ((F375.ext e391).keep K399 (ninS (Nat.ne_of_lt (Nat.lt_of_lt_of_le E372.lt (Nat.le_of_eq g389.symm))) (ninS (Ne.symm (Nat.ne_of_lt (Nat.lt_of_lt_of_le ((G329.keep K337 nin0 nin0).keep K349 nin0 nin0).lt (Nat.le_of_eq g361.symm)))) (ninS (Ne.symm (Nat.ne_of_lt (Nat.lt_of_lt_of_le (G341.keep K349 nin0 nin0).lt (Nat.le_of_eq g361.symm)))) (ninS (Ne.symm (Nat.ne_of_lt (Nat.lt_of_lt_of_le G353.lt (Nat.le_of_eq g361.symm)))) nin0)))))
                      have f478 := ((G376.ext e391).keep K399 (ninS (Nat.ne_of_lt (Nat.lt_of_lt_of_le G376.lt (Nat.le_of_eq g389.symm))) (ninS (Nat.ne_of_lt (Nat.lt_of_lt_of_le ((G293.keep K301 nin0 nin0).keep K313 nin0 nin0).lt g326)) (ninS (Nat.ne_of_lt (Nat.lt_of_lt_of_le (((G293.keep K301 nin0 nin0).keep K313 nin0 nin0).keep K325 nin0 nin0).lt g338)) (ninS (Nat.ne_of_lt (Nat.lt_of_lt_of_le ((((G293.keep K301 nin0 nin0).keep K313 nin0 nin0).keep K325 nin0 nin0).keep K337 nin0 nin0).lt g350)) nin0)))) (ninS (Nat.ne_of_lt (Nat.lt_of_lt_of_le G376.lt' (Nat.le_of_eq g389.symm))) (ninS (Nat.ne_of_lt (Nat.lt_of_lt_of_le ((G293.keep K301 nin0 nin0).keep K313 nin0 nin0).lt' g326)) (ninS (Nat.ne_of_lt (Nat.lt_of_lt_of_le (((G293.keep K301 nin0 nin0).keep K313 nin0 nin0).keep K325 nin0 nin0).lt' g338)) (ninS (Nat.ne_of_lt (Nat.lt_of_lt_of_le ((((G293.keep K301 nin0 nin0).keep K313 nin0 nin0).keep K325 nin0 nin0).keep K337 nin0 nin0).lt' g350)) nin0)))))
                      have f479 := ((G377.ext e391).keep K399 (ninS (Nat.ne_of_lt (Nat.lt_of_lt_of_le G377.lt (Nat.le_of_eq g389.symm))) (ninS (Nat.ne_of_lt (Nat.lt_of_lt_of_le (G305.keep K313 nin0 nin0).lt g326)) (ninS (Nat.ne_of_lt (Nat.lt_of_lt_of_le ((G305.keep K313 nin0 nin0).keep K325 nin0 nin0).lt g338)) (ninS (Nat.ne_of_lt (Nat.lt_of_lt_of_le (((G305.keep K313 nin0 nin0).keep K325 nin0 nin0).keep K337 nin0 nin0).lt g350)) nin0)))) (ninS (Nat.ne_of_lt (Nat.lt_of_lt_of_le G377.lt' (Nat.le_of_eq g389.symm))) (ninS (Nat.ne_of_lt (Nat.lt_of_lt_of_le (G305.keep K313 nin0 nin0).lt' g326)) (ninS (Nat.ne_of_lt (Nat.lt_of_lt_of_le ((G305.keep K313 nin0 nin0).keep K325 nin0 nin0).lt' g338)) (ninS (Nat.ne_of_lt (Nat.lt_of_lt_of_le (((G305.keep K313 nin0 nin0).keep K325 nin0 nin0).keep K337 nin0 nin0).lt' g350)) nin0)))))
                      have f480 := ((G378.ext e391).keep K399 (ninS (Nat.ne_of_lt (Nat.lt_of_lt_of_le G378.lt (Nat.le_of_eq g389.symm))) (ninS (Nat.ne_of_lt (Nat.lt_of_lt_of_le G317.lt g326)) (ninS (Nat.ne_of_lt (Nat.lt_of_lt_of_le (G317.keep K325 nin0 nin0).lt g338)) (ninS (Nat.ne_of_lt (Nat.lt_of_lt_of_le ((G317.keep K325 nin0 nin0).keep K337 nin0 nin0).lt g350)) nin0)))) (ninS (Nat.ne_of_lt (Nat.lt_of_lt_of_le G378.lt' (Nat.le_of_eq g389.symm))) (ninS (Nat.ne_of_lt (Nat.lt_of_lt_of_le G317.lt' g326)) (ninS (Nat.ne_of_lt (Nat.lt_of_lt_of_le (G317.keep K325 nin0 nin0).lt' g338)) (ninS (Nat.ne_of_lt (Nat.lt_of_lt_of_le ((G317.keep K325 nin0 nin0).keep K337 nin0 nin0).lt' g350)) nin0)))))
                      refine W.o_virtual X (pc' := 313) at_310 rfl (u := (⟨"com/example/holdfast/holdfast/redis/LockKeys", "equals", "(Ljava/lang/Object;)Z"⟩ : MethodName)) (z := (⟨"com/example/holdfast/holdfast/redis/LockKeys", "equals", "(Ljava/lang/Object;)Z"⟩ : MethodName)) (hw _ (List.mem_of_getElem? (i := 81) rfl)) (hw _ (List.mem_of_getElem? (i := 82) rfl)) (fun s' hZ => notFace_of_selects (args := #[]) (mvT hZ (hw _ (List.mem_of_getElem? (i := 84) rfl)))) (hw _ (List.mem_of_getElem? (i := 84) rfl)) (hw _ (List.mem_of_getElem? (i := 83) rfl)) (hw _ (List.mem_of_getElem? (i := 28) rfl)) (hw _ (List.mem_of_getElem? (i := 85) rfl)) (by decide) f474 (ctEqL l Z a0 hw b360 b388 a287 a299 a311 a323 a335 a347 t288 t300 t312 t324 t336 t348 [c0] [c1] [c2] [d0] [d1] [d2] cz h414 C0 hcz f474 E400 f475 f476 f477 F401 F402 F403 (fun q => absurd q (Nat.ne_of_lt (Nat.lt_of_lt_of_le ((G293.keep K301 nin0 nin0).keep K313 nin0 nin0).lt g326))) f478 G404 (fun q => absurd q (Nat.ne_of_lt (Nat.lt_of_lt_of_le ((G305.keep K313 nin0 nin0).keep K325 nin0 nin0).lt g338))) f479 G405 (fun q => absurd q (Nat.ne_of_lt (Nat.lt_of_lt_of_le ((G317.keep K325 nin0 nin0).keep K337 nin0 nin0).lt g350))) f480 G406) (fun _ q => nomatch q) [(.ref b388)] rfl (rest := []) rfl pd__Ljava_lang_Object__Z rfl rfl (by decide) (by exact Nat.le_of_ble_eq_true rfl) (by decide) (by decide) (fun v481 T q482 => ?_)
                      obtain ⟨h485, S483, ⟨rfl, eh⟩, X484⟩ := q482
                      have eh := eh.symm
                      subst eh
                      have X := X484 [] all0
                      show W.Go _ _ _ _ _ _ _ _ _ _ _ (mkF m 313 #[.val (.int p0), .val (.int p1), .val (.int p2), .val (.int p3), .val (.int c0), .val (.int c1), .val (.int c2), .val (.int d0), .val (.int d1), .val (.int d2), .val (.int (0 : Int32)), .val (.ref a287), .val (.ref a299), .val (.ref a311), .val (.ref a323), .val (.ref a335), .val (.ref a347), .val (.ref b360), .val (.ref b388), .val (.int u), .val (.int (0 : Int32))] [(.int (b2i (decide ([c0] = [d0]) && (decide ([c1] = [d1]) && decide ([c2] = [d2])))))])
                      refine W.o_iload X (pc' := 315) at_313 rfl rfl ?_
                      have hv1 : (b2i (decide ([c0] = [d0]) && (decide ([c1] = [d1]) && decide ([c2] = [d2])))) = 0 := by simp [b2i, g3]
                      refine W.o_if_icmpne X (pt := 334) (pf := 318) at_315 ⟨by decide, by decide⟩ rfl (fun hc => absurd hv1 hc) (fun _ => ?_)
                      refine W.o_aload X (pc' := 320) at_318 rfl rfl rfl ?_
                      refine W.o_aload X (pc' := 322) at_320 rfl rfl rfl ?_
                      refine W.o_virtual X (pc' := 325) at_322 rfl (u := (⟨"com/example/holdfast/holdfast/redis/LockKeys", "equals", "(Ljava/lang/Object;)Z"⟩ : MethodName)) (z := (⟨"com/example/holdfast/holdfast/redis/LockKeys", "equals", "(Ljava/lang/Object;)Z"⟩ : MethodName)) (hw _ (List.mem_of_getElem? (i := 81) rfl)) (hw _ (List.mem_of_getElem? (i := 82) rfl)) (fun s' hZ => notFace_of_selects (args := #[]) (mvT hZ (hw _ (List.mem_of_getElem? (i := 84) rfl)))) (hw _ (List.mem_of_getElem? (i := 84) rfl)) (hw _ (List.mem_of_getElem? (i := 83) rfl)) (hw _ (List.mem_of_getElem? (i := 28) rfl)) (hw _ (List.mem_of_getElem? (i := 85) rfl)) (by decide) E400 (ctEqL l Z a0 hw b388 b360 a323 a335 a347 a287 a299 a311 t324 t336 t348 t288 t300 t312 [d0] [d1] [d2] [c0] [c1] [c2] cz h414 C0 hcz E400 f474 F401 F402 F403 f475 f476 f477 (fun q => absurd q (Ne.symm (Nat.ne_of_lt (Nat.lt_of_lt_of_le ((G293.keep K301 nin0 nin0).keep K313 nin0 nin0).lt g326)))) G404 f478 (fun q => absurd q (Ne.symm (Nat.ne_of_lt (Nat.lt_of_lt_of_le ((G305.keep K313 nin0 nin0).keep K325 nin0 nin0).lt g338)))) G405 f479 (fun q => absurd q (Ne.symm (Nat.ne_of_lt (Nat.lt_of_lt_of_le ((G317.keep K325 nin0 nin0).keep K337 nin0 nin0).lt g350)))) G406 f480) (fun _ q => nomatch q) [(.ref b360)] rfl (rest := []) rfl pd__Ljava_lang_Object__Z rfl rfl (by decide) (by exact Nat.le_of_ble_eq_true rfl) (by decide) (by decide) (fun v486 T q487 => ?_)
                      obtain ⟨h490, S488, ⟨rfl, eh⟩, X489⟩ := q487
                      have eh := eh.symm
                      subst eh
                      have X := X489 [] all0
                      show W.Go _ _ _ _ _ _ _ _ _ _ _ (mkF m 325 #[.val (.int p0), .val (.int p1), .val (.int p2), .val (.int p3), .val (.int c0), .val (.int c1), .val (.int c2), .val (.int d0), .val (.int d1), .val (.int d2), .val (.int (0 : Int32)), .val (.ref a287), .val (.ref a299), .val (.ref a311), .val (.ref a323), .val (.ref a335), .val (.ref a347), .val (.ref b360), .val (.ref b388), .val (.int u), .val (.int (0 : Int32))] [(.int (b2i (decide ([d0] = [c0]) && (decide ([d1] = [c1]) && decide ([d2] = [c2])))))])
                      refine W.o_iload X (pc' := 327) at_325 rfl rfl ?_
                      have hv2 : (b2i (decide ([d0] = [c0]) && (decide ([d1] = [c1]) && decide ([d2] = [c2])))) = 0 := by simp [b2i, Ne.symm (a := c2) g3]
                      refine W.o_if_icmpne X (pt := 334) (pf := 330) at_327 ⟨by decide, by decide⟩ rfl (fun hc => absurd hv2 hc) (fun _ => ?_)
                      refine W.o_iconst X (1 : Int32) (pc' := 331) at_330 rfl rfl ?_
                      refine W.o_goto X (pc' := 335) at_331 ⟨by decide, by decide⟩ ?_
                      exact W.o_ireturn X at_335 rfl (Or.inl rfl) (v := 1) rfl (by decide) (by decide) fun P hP => rfl
                    · refine W.o_iconst X (1 : Int32) (pc' := 300) at_299 rfl rfl ?_
                      refine W.o_goto X (pc' := 304) at_300 ⟨by decide, by decide⟩ ?_
                      refine W.o_istore X (pc' := 306) at_304 rfl (L' := #[.val (.int p0), .val (.int p1), .val (.int p2), .val (.int p3), .val (.int c0), .val (.int c1), .val (.int c2), .val (.int d0), .val (.int d1), .val (.int d2), .val (.int (0 : Int32)), .val (.ref a287), .val (.ref a299), .val (.ref a311), .val (.ref a323), .val (.ref a335), .val (.ref a347), .val (.ref b360), .val (.ref b388), .val (.int u), .val (.int (1 : Int32))]) rfl ?_
                      refine W.o_aload X (pc' := 308) at_306 rfl rfl rfl ?_
                      refine W.o_aload X (pc' := 310) at_308 rfl rfl rfl ?_
                      have f491 := ((E372.ext e391).keep K399)
                      have f492 := ((F373.ext e391).keep K399 (ninS (Nat.ne_of_lt (Nat.lt_of_lt_of_le E372.lt (Nat.le_of_eq g389.symm))) (ninS (Ne.symm (Nat.ne_of_lt (Nat.lt_of_lt_of_le ((G329.keep K337 nin0 nin0).keep K349 nin0 nin0).lt (Nat.le_of_eq g361.symm)))) (ninS (Ne.symm (Nat.ne_of_lt (Nat.lt_of_lt_of_le (G341.keep K349 nin0 nin0).lt (Nat.le_of_eq g361.symm)))) (ninS (Ne.symm (Nat.ne_of_lt (Nat.lt_of_lt_of_le G353.lt (Nat.le_of_eq g361.symm)))) nin0)))))
                      have f493 := ((F374.ext e391).keep K399 (ninS (Nat.ne_of_lt (Nat.lt_of_lt_of_le E372.lt (Nat.le_of_eq g389.symm))) (ninS (Ne.symm (Nat.ne_of_lt (Nat.lt_of_lt_of_le ((G329.keep K337 nin0 nin0).keep K349 nin0 nin0).lt (Nat.le_of_eq g361.symm)))) (ninS (Ne.symm (Nat.ne_of_lt (Nat.lt_of_lt_of_le (G341.keep K349 nin0 nin0).lt (Nat.le_of_eq g361.symm)))) (ninS (Ne.symm (Nat.ne_of_lt (Nat.lt_of_lt_of_le G353.lt (Nat.le_of_eq g361.symm)))) nin0)))))
                      have f494 := ((F375.ext e391).keep K399 (ninS (Nat.ne_of_lt (Nat.lt_of_lt_of_le E372.lt (Nat.le_of_eq g389.symm))) (ninS (Ne.symm (Nat.ne_of_lt (Nat.lt_of_lt_of_le ((G329.keep K337 nin0 nin0).keep K349 nin0 nin0).lt (Nat.le_of_eq g361.symm)))) (ninS (Ne.symm (Nat.ne_of_lt (Nat.lt_of_lt_of_le (G341.keep K349 nin0 nin0).lt (Nat.le_of_eq g361.symm)))) (ninS (Ne.symm (Nat.ne_of_lt (Nat.lt_of_lt_of_le G353.lt (Nat.le_of_eq g361.symm)))) nin0)))))
                      have f495 := ((G376.ext e391).keep K399 (ninS (Nat.ne_of_lt (Nat.lt_of_lt_of_le G376.lt (Nat.le_of_eq g389.symm))) (ninS (Nat.ne_of_lt (Nat.lt_of_lt_of_le ((G293.keep K301 nin0 nin0).keep K313 nin0 nin0).lt g326)) (ninS (Nat.ne_of_lt (Nat.lt_of_lt_of_le (((G293.keep K301 nin0 nin0).keep K313 nin0 nin0).keep K325 nin0 nin0).lt g338)) (ninS (Nat.ne_of_lt (Nat.lt_of_lt_of_le ((((G293.keep K301 nin0 nin0).keep K313 nin0 nin0).keep K325 nin0 nin0).keep K337 nin0 nin0).lt g350)) nin0)))) (ninS (Nat.ne_of_lt (Nat.lt_of_lt_of_le G376.lt' (Nat.le_of_eq g389.symm))) (ninS (Nat.ne_of_lt (Nat.lt_of_lt_of_le ((G293.keep K301 nin0 nin0).keep K313 nin0 nin0).lt' g326)) (ninS (Nat.ne_of_lt (Nat.lt_of_lt_of_le (((G293.keep K301 nin0 nin0).keep K313 nin0 nin0).keep K325 nin0 nin0).lt' g338)) (ninS (Nat.ne_of_lt (Nat.lt_of_lt_of_le ((((G293.keep K301 nin0 nin0).keep K313 nin0 nin0).keep K325 nin0 nin0).keep K337 nin0 nin0).lt' g350)) nin0)))))
                      have f496 := ((G377.ext e391).keep K399 (ninS (Nat.ne_of_lt (Nat.lt_of_lt_of_le G377.lt (Nat.le_of_eq g389.symm))) (ninS (Nat.ne_of_lt (Nat.lt_of_lt_of_le (G305.keep K313 nin0 nin0).lt g326)) (ninS (Nat.ne_of_lt (Nat.lt_of_lt_of_le ((G305.keep K313 nin0 nin0).keep K325 nin0 nin0).lt g338)) (ninS (Nat.ne_of_lt (Nat.lt_of_lt_of_le (((G305.keep K313 nin0 nin0).keep K325 nin0 nin0).keep K337 nin0 nin0).lt g350)) nin0)))) (ninS (Nat.ne_of_lt (Nat.lt_of_lt_of_le G377.lt' (Nat.le_of_eq g389.symm))) (ninS (Nat.ne_of_lt (Nat.lt_of_lt_of_le (G305.keep K313 nin0 nin0).lt' g326)) (ninS (Nat.ne_of_lt (Nat.lt_of_lt_of_le ((G305.keep K313 nin0 nin0).keep K325 nin0 nin0).lt' g338)) (ninS (Nat.ne_of_lt (Nat.lt_of_lt_of_le (((G305.keep K313 nin0 nin0).keep K325 nin0 nin0).keep K337 nin0 nin0).lt' g350)) nin0)))))
                      have f497 := ((G378.ext e391).keep K399 (ninS (Nat.ne_of_lt (Nat.lt_of_lt_of_le G378.lt (Nat.le_of_eq g389.symm))) (ninS (Nat.ne_of_lt (Nat.lt_of_lt_of_le G317.lt g326)) (ninS (Nat.ne_of_lt (Nat.lt_of_lt_of_le (G317.keep K325 nin0 nin0).lt g338)) (ninS (Nat.ne_of_lt (Nat.lt_of_lt_of_le ((G317.keep K325 nin0 nin0).keep K337 nin0 nin0).lt g350)) nin0)))) (ninS (Nat.ne_of_lt (Nat.lt_of_lt_of_le G378.lt' (Nat.le_of_eq g389.symm))) (ninS (Nat.ne_of_lt (Nat.lt_of_lt_of_le G317.lt' g326)) (ninS (Nat.ne_of_lt (Nat.lt_of_lt_of_le (G317.keep K325 nin0 nin0).lt' g338)) (ninS (Nat.ne_of_lt (Nat.lt_of_lt_of_le ((G317.keep K325 nin0 nin0).keep K337 nin0 nin0).lt' g350)) nin0)))))
                      refine W.o_virtual X (pc' := 313) at_310 rfl (u := (⟨"com/example/holdfast/holdfast/redis/LockKeys", "equals", "(Ljava/lang/Object;)Z"⟩ : MethodName)) (z := (⟨"com/example/holdfast/holdfast/redis/LockKeys", "equals", "(Ljava/lang/Object;)Z"⟩ : MethodName)) (hw _ (List.mem_of_getElem? (i := 81) rfl)) (hw _ (List.mem_of_getElem? (i := 82) rfl)) (fun s' hZ => notFace_of_selects (args := #[]) (mvT hZ (hw _ (List.mem_of_getElem? (i := 84) rfl)))) (hw _ (List.mem_of_getElem? (i := 84) rfl)) (hw _ (List.mem_of_getElem? (i := 83) rfl)) (hw _ (List.mem_of_getElem? (i := 28) rfl)) (hw _ (List.mem_of_getElem? (i := 85) rfl)) (by decide) f491 (ctEqL l Z a0 hw b360 b388 a287 a299 a311 a323 a335 a347 t288 t300 t312 t324 t336 t348 [c0] [c1] [c2] [d0] [d1] [d2] cz h414 C0 hcz f491 E400 f492 f493 f494 F401 F402 F403 (fun q => absurd q (Nat.ne_of_lt (Nat.lt_of_lt_of_le ((G293.keep K301 nin0 nin0).keep K313 nin0 nin0).lt g326))) f495 G404 (fun q => absurd q (Nat.ne_of_lt (Nat.lt_of_lt_of_le ((G305.keep K313 nin0 nin0).keep K325 nin0 nin0).lt g338))) f496 G405 (fun q => absurd q (Nat.ne_of_lt (Nat.lt_of_lt_of_le ((G317.keep K325 nin0 nin0).keep K337 nin0 nin0).lt g350))) f497 G406) (fun _ q => nomatch q) [(.ref b388)] rfl (rest := []) rfl pd__Ljava_lang_Object__Z rfl rfl (by decide) (by exact Nat.le_of_ble_eq_true rfl) (by decide) (by decide) (fun v498 T q499 => ?_)
                      obtain ⟨h502, S500, ⟨rfl, eh⟩, X501⟩ := q499
                      have eh := eh.symm
                      subst eh
                      have X := X501 [] all0
                      show W.Go _ _ _ _ _ _ _ _ _ _ _ (mkF m 313 #[.val (.int p0), .val (.int p1), .val (.int p2), .val (.int p3), .val (.int c0), .val (.int c1), .val (.int c2), .val (.int d0), .val (.int d1), .val (.int d2), .val (.int (0 : Int32)), .val (.ref a287), .val (.ref a299), .val (.ref a311), .val (.ref a323), .val (.ref a335), .val (.ref a347), .val (.ref b360), .val (.ref b388), .val (.int u), .val (.int (1 : Int32))] [(.int (b2i (decide ([c0] = [d0]) && (decide ([c1] = [d1]) && decide ([c2] = [d2])))))])
                      refine W.o_iload X (pc' := 315) at_313 rfl rfl ?_
                      have hv1 : (b2i (decide ([c0] = [d0]) && (decide ([c1] = [d1]) && decide ([c2] = [d2])))) = 1 := by simp [b2i, g1, g2, g3]
                      refine W.o_if_icmpne X (pt := 334) (pf := 318) at_315 ⟨by decide, by decide⟩ rfl (fun hc => absurd hv1 hc) (fun _ => ?_)
                      refine W.o_aload X (pc' := 320) at_318 rfl rfl rfl ?_
                      refine W.o_aload X (pc' := 322) at_320 rfl rfl rfl ?_
                      refine W.o_virtual X (pc' := 325) at_322 rfl (u := (⟨"com/example/holdfast/holdfast/redis/LockKeys", "equals", "(Ljava/lang/Object;)Z"⟩ : MethodName)) (z := (⟨"com/example/holdfast/holdfast/redis/LockKeys", "equals", "(Ljava/lang/Object;)Z"⟩ : MethodName)) (hw _ (List.mem_of_getElem? (i := 81) rfl)) (hw _ (List.mem_of_getElem? (i := 82) rfl)) (fun s' hZ => notFace_of_selects (args := #[]) (mvT hZ (hw _ (List.mem_of_getElem? (i := 84) rfl)))) (hw _ (List.mem_of_getElem? (i := 84) rfl)) (hw _ (List.mem_of_getElem? (i := 83) rfl)) (hw _ (List.mem_of_getElem? (i := 28) rfl)) (hw _ (List.mem_of_getElem? (i := 85) rfl)) (by decide) E400 (ctEqL l Z a0 hw b388 b360 a323 a335 a347 a287 a299 a311 t324 t336 t348 t288 t300 t312 [d0] [d1] [d2] [c0] [c1] [c2] cz h414 C0 hcz E400 f491 F401 F402 F403 f492 f493 f494 (fun q => absurd q (Ne.symm (Nat.ne_of_lt (Nat.lt_of_lt_of_le ((G293.keep K301 nin0 nin0).keep K313 nin0 nin0).lt g326)))) G404 f495 (fun q => absurd q (Ne.symm (Nat.ne_of_lt (Nat.lt_of_lt_of_le ((G305.keep K313 nin0 nin0).keep K325 nin0 nin0).lt g338)))) G405 f496 (fun q => absurd q (Ne.symm (Nat.ne_of_lt (Nat.lt_of_lt_of_le ((G317.keep K325 nin0 nin0).keep K337 nin0 nin0).lt g350)))) G406 f497) (fun _ q => nomatch q) [(.ref b360)] rfl (rest := []) rfl pd__Ljava_lang_Object__Z rfl rfl (by decide) (by exact Nat.le_of_ble_eq_true rfl) (by decide) (by decide) (fun v503 T q504 => ?_)
                      obtain ⟨h507, S505, ⟨rfl, eh⟩, X506⟩ := q504
                      have eh := eh.symm
                      subst eh
                      have X := X506 [] all0
                      show W.Go _ _ _ _ _ _ _ _ _ _ _ (mkF m 325 #[.val (.int p0), .val (.int p1), .val (.int p2), .val (.int p3), .val (.int c0), .val (.int c1), .val (.int c2), .val (.int d0), .val (.int d1), .val (.int d2), .val (.int (0 : Int32)), .val (.ref a287), .val (.ref a299), .val (.ref a311), .val (.ref a323), .val (.ref a335), .val (.ref a347), .val (.ref b360), .val (.ref b388), .val (.int u), .val (.int (1 : Int32))] [(.int (b2i (decide ([d0] = [c0]) && (decide ([d1] = [c1]) && decide ([d2] = [c2])))))])
                      refine W.o_iload X (pc' := 327) at_325 rfl rfl ?_
                      have hv2 : (b2i (decide ([d0] = [c0]) && (decide ([d1] = [c1]) && decide ([d2] = [c2])))) = 1 := by simp [b2i, g1, g2, g3]
                      refine W.o_if_icmpne X (pt := 334) (pf := 330) at_327 ⟨by decide, by decide⟩ rfl (fun hc => absurd hv2 hc) (fun _ => ?_)
                      refine W.o_iconst X (1 : Int32) (pc' := 331) at_330 rfl rfl ?_
                      refine W.o_goto X (pc' := 335) at_331 ⟨by decide, by decide⟩ ?_
                      exact W.o_ireturn X at_335 rfl (Or.inl rfl) (v := 1) rfl (by decide) (by decide) fun P hP => rfl
              · refine W.o_aload X (pc' := 267) at_265 rfl rfl rfl ?_
                refine W.o_aload X (pc' := 269) at_267 rfl rfl rfl ?_
                have f428 := ((E372.ext e391).keep K399)
                have f429 := ((F373.ext e391).keep K399 (ninS (Nat.ne_of_lt (Nat.lt_of_lt_of_le E372.lt (Nat.le_of_eq g389.symm))) (ninS (Ne.symm (Nat.ne_of_lt (Nat.lt_of_lt_of_le ((G329.keep K337 nin0 nin0).keep K349 nin0 nin0).lt (Nat.le_of_eq g361.symm)))) (ninS (Ne.symm (Nat.ne_of_lt (Nat.lt_of_lt_of_le (G341.keep K349 nin0 nin0).lt (Nat.le_of_eq g361.symm)))) (ninS (Ne.symm (Nat.ne_of_lt (Nat.lt_of_lt_of_le G353.lt (Nat.le_of_eq g361.symm)))) nin0)))))
                have f430 := ((F374.ext e391).keep K399 (ninS (Nat.ne_of_lt (Nat.lt_of_lt_of_le E372.lt (Nat.le_of_eq g389.symm))) (ninS (Ne.symm (Nat.ne_of_lt (Nat.lt_of_lt_of_le ((G329.keep K337 nin0 nin0).keep K349 nin0 nin0).lt (Nat.le_of_eq g361.symm)))) (ninS (Ne.symm (Nat.ne_of_lt (Nat.lt_of_lt_of_le (G341.keep K349 nin0 nin0).lt (Nat.le_of_eq g361.symm)))) (ninS (Ne.symm (Nat.ne_of_lt (Nat.lt_of_lt_of_le G353.lt (Nat.le_of_eq g361.symm)))) nin0)))))
                have f431 := ((F375.ext e391).keep K399 (ninS (Nat.ne_of_lt (Nat.lt_of_lt_of_le E372.lt (Nat.le_of_eq g389.symm))) (ninS (Ne.symm (Nat.ne_of_lt (Nat.lt_of_lt_of_le ((G329.keep K337 nin0 nin0).keep K349 nin0 nin0).lt (Nat.le_of_eq g361.symm)))) (ninS (Ne.symm (Nat.ne_of_lt (Nat.lt_of_lt_of_le (G341.keep K349 nin0 nin0).lt (Nat.le_of_eq g361.symm)))) (ninS (Ne.symm (Nat.ne_of_lt (Nat.lt_of_lt_of_le G353.lt (Nat.le_of_eq g361.symm)))) nin0)))))
                have f432 := ((G376.ext e391).keep K399 (ninS (Nat.ne_of_lt (Nat.lt_of_lt_of_le G376.lt (Nat.le_of_eq g389.symm))) (ninS (Nat.ne_of_lt (Nat.lt_of_lt_of_le ((G293.keep K301 nin0 nin0).keep K313 nin0 nin0).lt g326)) (ninS (Nat.ne_of_lt (Nat.lt_of_lt_of_le (((G293.keep K301 nin0 nin0).keep K313 nin0 nin0).keep K325 nin0 nin0).lt g338)) (ninS (Nat.ne_of_lt (Nat.lt_of_lt_of_le ((((G293.keep K301 nin0 nin0).keep K313 nin0 nin0).keep K325 nin0 nin0).keep K337 nin0 nin0).lt g350)) nin0)))) (ninS (Nat.ne_of_lt (Nat.lt_of_lt_of_le G376.lt' (Nat.le_of_eq g389.symm))) (ninS (Nat.ne_of_lt (Nat.lt_of_lt_of_le ((G293.keep K301 nin0 nin0).keep K313 nin0 nin0).lt' g326)) (ninS (Nat.ne_of_lt (Nat.lt_of_lt_of_le (((G293.keep K301 nin0 nin0).keep K313 nin0 nin0).keep K325 nin0 nin0).lt' g338)) (ninS (Nat.ne_of_lt (Nat.lt_of_lt_of_le ((((G293.keep K301 nin0 nin0).keep K313 nin0 nin0).keep K325 nin0 nin0).keep K337 nin0 nin0).lt' g350)) nin0)))))
                have f433 := ((G377.ext e391).keep K399 (ninS (Nat.ne_of_lt (Nat.lt_of_lt_of_le G377.lt (Nat.le_of_eq g389.symm))) (ninS (Nat.ne_of_lt (Nat.lt_of_lt_of_le (G305.keep K313 nin0 nin0).lt g326)) (ninS (Nat.ne_of_lt (Nat.lt_of_lt_of_le ((G305.keep K313 nin0 nin0).keep K325 nin0 nin0).lt g338)) (ninS (Nat.ne_of_lt (Nat.lt_of_lt_of_le (((G305.keep K313 nin0 nin0).keep K325 nin0 nin0).keep K337 nin0 nin0).lt g350)) nin0)))) (ninS (Nat.ne_of_lt (Nat.lt_of_lt_of_le G377.lt' (Nat.le_of_eq g389.symm))) (ninS (Nat.ne_of_lt (Nat.lt_of_lt_of_le (G305.keep K313 nin0 nin0).lt' g326)) (ninS (Nat.ne_of_lt (Nat.lt_of_lt_of_le ((G305.keep K313 nin0 nin0).keep K325 nin0 nin0).lt' g338)) (ninS (Nat.ne_of_lt (Nat.lt_of_lt_of_le (((G305.keep K313 nin0 nin0).keep K325 nin0 nin0).keep K337 nin0 nin0).lt' g350)) nin0)))))
                have f434 := ((G378.ext e391).keep K399 (ninS (Nat.ne_of_lt (Nat.lt_of_lt_of_le G378.lt (Nat.le_of_eq g389.symm))) (ninS (Nat.ne_of_lt (Nat.lt_of_lt_of_le G317.lt g326)) (ninS (Nat.ne_of_lt (Nat.lt_of_lt_of_le (G317.keep K325 nin0 nin0).lt g338)) (ninS (Nat.ne_of_lt (Nat.lt_of_lt_of_le ((G317.keep K325 nin0 nin0).keep K337 nin0 nin0).lt g350)) nin0)))) (ninS (Nat.ne_of_lt (Nat.lt_of_lt_of_le G378.lt' (Nat.le_of_eq g389.symm))) (ninS (Nat.ne_of_lt (Nat.lt_of_lt_of_le G317.lt' g326)) (ninS (Nat.ne_of_lt (Nat.lt_of_lt_of_le (G317.keep K325 nin0 nin0).lt' g338)) (ninS (Nat.ne_of_lt (Nat.lt_of_lt_of_le ((G317.keep K325 nin0 nin0).keep K337 nin0 nin0).lt' g350)) nin0)))))
                refine W.o_virtual X (pc' := 272) at_269 rfl (u := (⟨"com/example/holdfast/holdfast/redis/LockKeys", "equals", "(Ljava/lang/Object;)Z"⟩ : MethodName)) (z := (⟨"com/example/holdfast/holdfast/redis/LockKeys", "equals", "(Ljava/lang/Object;)Z"⟩ : MethodName)) (hw _ (List.mem_of_getElem? (i := 81) rfl)) (hw _ (List.mem_of_getElem? (i := 82) rfl)) (fun s' hZ => notFace_of_selects (args := #[]) (mvT hZ (hw _ (List.mem_of_getElem? (i := 84) rfl)))) (hw _ (List.mem_of_getElem? (i := 84) rfl)) (hw _ (List.mem_of_getElem? (i := 83) rfl)) (hw _ (List.mem_of_getElem? (i := 28) rfl)) (hw _ (List.mem_of_getElem? (i := 85) rfl)) (by decide) f428 (ctEqL l Z a0 hw b360 b360 a287 a299 a311 a287 a299 a311 t288 t300 t312 t288 t300 t312 [c0] [c1] [c2] [c0] [c1] [c2] cz h414 C0 hcz f428 f428 f429 f430 f431 f429 f430 f431 (fun _ => rfl) f432 f432 (fun _ => rfl) f433 f433 (fun _ => rfl) f434 f434) (fun _ q => nomatch q) [(.ref b360)] rfl (rest := []) rfl pd__Ljava_lang_Object__Z rfl rfl (by decide) (by exact Nat.le_of_ble_eq_true rfl) (by decide) (by decide) (fun v435 T q436 => ?_)
                obtain ⟨h439, S437, ⟨rfl, eh⟩, X438⟩ := q436
                have eh := eh.symm
                subst eh
                have X := X438 [] all0
                show W.Go _ _ _ _ _ _ _ _ _ _ _ (mkF m 272 #[.val (.int p0), .val (.int p1), .val (.int p2), .val (.int p3), .val (.int c0), .val (.int c1), .val (.int c2), .val (.int d0), .val (.int d1), .val (.int d2), .val (.int (0 : Int32)), .val (.ref a287), .val (.ref a299), .val (.ref a311), .val (.ref a323), .val (.ref a335), .val (.ref a347), .val (.ref b360), .val (.ref b388), .val (.int u), .unset] [(.int (b2i (decide ([c0] = [c0]) && (decide ([c1] = [c1]) && decide ([c2] = [c2])))))])
                exact W.o_ireturn X at_272 rfl (Or.inl rfl) (v := 1) (by simp [b2i, nar]) (by decide) (by decide) fun P hP => rfl
            · refine W.o_aload X (pc' := 245) at_243 rfl rfl rfl ?_
              refine W.o_aload X (pc' := 247) at_245 rfl rfl rfl ?_
              have f421 := (((((((((G293.1.1.keep K301).keep K313).keep K325).keep K337).keep K349).ext e363).keep K371).ext e391).keep K399)
              have f424 := ((E372.ext e391).keep K399)
              refine W.o_virtual X (pc' := 250) at_247 rfl (u := (⟨"com/example/holdfast/holdfast/redis/LockKeys", "equals", "(Ljava/lang/Object;)Z"⟩ : MethodName)) (z := (⟨"com/example/holdfast/holdfast/redis/LockKeys", "equals", "(Ljava/lang/Object;)Z"⟩ : MethodName)) (hw _ (List.mem_of_getElem? (i := 81) rfl)) (hw _ (List.mem_of_getElem? (i := 82) rfl)) (fun s' hZ => notFace_of_selects (args := #[]) (mvT hZ (hw _ (List.mem_of_getElem? (i := 84) rfl)))) (hw _ (List.mem_of_getElem? (i := 84) rfl)) (hw _ (List.mem_of_getElem? (i := 83) rfl)) (hw _ (List.mem_of_getElem? (i := 28) rfl)) (hw _ (List.mem_of_getElem? (i := 85) rfl)) (by decide) f424 (ctEqS l Z a0 hw b360 a287 h414 f421 hno) (fun _ q => nomatch q) [(.ref a287)] rfl (rest := []) rfl pd__Ljava_lang_Object__Z rfl rfl (by decide) (by exact Nat.le_of_ble_eq_true rfl) (by decide) (by decide) (fun v422 T q423 => ?_)
              obtain ⟨h427, S425, ⟨rfl, eh⟩, X426⟩ := q423
              have eh := eh.symm
              subst eh
              have X := X426 [] all0
              show W.Go _ _ _ _ _ _ _ _ _ _ _ (mkF m 250 #[.val (.int p0), .val (.int p1), .val (.int p2), .val (.int p3), .val (.int c0), .val (.int c1), .val (.int c2), .val (.int d0), .val (.int d1), .val (.int d2), .val (.int (0 : Int32)), .val (.ref a287), .val (.ref a299), .val (.ref a311), .val (.ref a323), .val (.ref a335), .val (.ref a347), .val (.ref b360), .val (.ref b388), .val (.int u), .unset] [(.int (0 : Int32))])
              refine W.o_ifne X (pt := 257) (pf := 253) at_250 ⟨by decide, by decide⟩ rfl (fun hc => absurd rfl hc) (fun _ => ?_)
              refine W.o_iconst X (1 : Int32) (pc' := 254) at_253 rfl rfl ?_
              refine W.o_goto X (pc' := 258) at_254 ⟨by decide, by decide⟩ ?_
              exact W.o_ireturn X at_258 rfl (Or.inl rfl) (v := 1) rfl (by decide) (by decide) fun P hP => rfl
          · refine W.o_aload X (pc' := 224) at_222 rfl rfl rfl ?_
            refine W.o_aconst_null X (pc' := 225) at_224 rfl ?_
            have f417 := ((E372.ext e391).keep K399)
            refine W.o_virtual X (pc' := 228) at_225 rfl (u := (⟨"com/example/holdfast/holdfast/redis/LockKeys", "equals", "(Ljava/lang/Object;)Z"⟩ : MethodName)) (z := (⟨"com/example/holdfast/holdfast/redis/LockKeys", "equals", "(Ljava/lang/Object;)Z"⟩ : MethodName)) (hw _ (List.mem_of_getElem? (i := 81) rfl)) (hw _ (List.mem_of_getElem? (i := 82) rfl)) (fun s' hZ => notFace_of_selects (args := #[]) (mvT hZ (hw _ (List.mem_of_getElem? (i := 84) rfl)))) (hw _ (List.mem_of_getElem? (i := 84) rfl)) (hw _ (List.mem_of_getElem? (i := 83) rfl)) (hw _ (List.mem_of_getElem? (i := 28) rfl)) (hw _ (List.mem_of_getElem? (i := 85) rfl)) (by decide) f417 (ctEqN l Z a0 hw b360 h414) (fun _ q => nomatch q) [.null] rfl (rest := []) rfl pd__Ljava_lang_Object__Z rfl rfl (by decide) (by exact Nat.le_of_ble_eq_true rfl) (by decide) (by decide) (fun v415 T q416 => ?_)
            obtain ⟨h420, S418, ⟨rfl, eh⟩, X419⟩ := q416
            have eh := eh.symm
            subst eh
            have X := X419 [] all0
            show W.Go _ _ _ _ _ _ _ _ _ _ _ (mkF m 228 #[.val (.int p0), .val (.int p1), .val (.int p2), .val (.int p3), .val (.int c0), .val (.int c1), .val (.int c2), .val (.int d0), .val (.int d1), .val (.int d2), .val (.int (0 : Int32)), .val (.ref a287), .val (.ref a299), .val (.ref a311), .val (.ref a323), .val (.ref a335), .val (.ref a347), .val (.ref b360), .val (.ref b388), .val (.int u), .unset] [(.int (0 : Int32))])
            refine W.o_ifne X (pt := 235) (pf := 231) at_228 ⟨by decide, by decide⟩ rfl (fun hc => absurd rfl hc) (fun _ => ?_)
            refine W.o_iconst X (1 : Int32) (pc' := 232) at_231 rfl rfl ?_
            refine W.o_goto X (pc' := 236) at_232 ⟨by decide, by decide⟩ ?_
            exact W.o_ireturn X at_236 rfl (Or.inl rfl) (v := 1) rfl (by decide) (by decide) fun P hP => rfl
        · refine W.o_iconst X (1 : Int32) (pc' := 101) at_100 rfl rfl ?_
          refine W.o_goto X (pc' := 105) at_101 ⟨by decide, by decide⟩ ?_
          refine W.o_istore X (pc' := 107) at_105 rfl (L' := #[.val (.int p0), .val (.int p1), .val (.int p2), .val (.int p3), .val (.int c0), .val (.int c1), .val (.int c2), .val (.int d0), .val (.int d1), .val (.int d2), .val (.int (1 : Int32)), .unset, .unset, .unset, .unset, .unset, .unset, .unset, .unset, .unset, .unset]) rfl ?_
          refine W.o_iload X (pc' := 109) at_107 rfl rfl ?_
          refine W.o_static X (pc' := 112) at_109 rfl (z := (⟨"java/lang/String", "valueOf", "(C)Ljava/lang/String;"⟩ : MethodName)) (hw _ (List.mem_of_getElem? (i := 0) rfl)) (hw _ (List.mem_of_getElem? (i := 1) rfl)) (hw _ (List.mem_of_getElem? (i := 2) rfl)) (hw _ (List.mem_of_getElem? (i := 3) rfl)) (by decide) (ctVO l Z a0 hw c0 cz h0 C0 hcz qc0) (fun _ q => nomatch q) [(.int c0)] rfl (rest := []) rfl pd__C_Ljava_lang_String_ rfl rfl (by decide) (by exact Nat.le_of_ble_eq_true rfl) (by decide) (by decide) (fun v515 T q516 => ?_)
          obtain ⟨h519, S517, ⟨a508, t509, rfl, K510, g511, z512, y513, G514⟩, X518⟩ := q516
          have X := X518 [] all0
          show W.Go _ _ _ _ _ _ _ _ _ _ _ (mkF m 112 #[.val (.int p0), .val (.int p1), .val (.int p2), .val (.int p3), .val (.int c0), .val (.int c1), .val (.int c2), .val (.int d0), .val (.int d1), .val (.int d2), .val (.int (1 : Int32)), .unset, .unset, .unset, .unset, .unset, .unset, .unset, .unset, .unset, .unset] [(.ref a508)])
          refine W.o_astore X (pc' := 114) at_112 rfl (L' := #[.val (.int p0), .val (.int p1), .val (.int p2), .val (.int p3), .val (.int c0), .val (.int c1), .val (.int c2), .val (.int d0), .val (.int d1), .val (.int d2), .val (.int (1 : Int32)), .val (.ref a508), .unset, .unset, .unset, .unset, .unset, .unset, .unset, .unset, .unset]) rfl rfl ?_
          refine W.o_iload X (pc' := 116) at_114 rfl rfl ?_
          refine W.o_static X (pc' := 119) at_116 rfl (z := (⟨"java/lang/String", "valueOf", "(C)Ljava/lang/String;"⟩ : MethodName)) (hw _ (List.mem_of_getElem? (i := 0) rfl)) (hw _ (List.mem_of_getElem? (i := 1) rfl)) (hw _ (List.mem_of_getElem? (i := 2) rfl)) (hw _ (List.mem_of_getElem? (i := 3) rfl)) (by decide) (ctVO l Z a0 hw c1 cz h519 C0 hcz qc1) (fun _ q => nomatch q) [(.int c1)] rfl (rest := []) rfl pd__C_Ljava_lang_String_ rfl rfl (by decide) (by exact Nat.le_of_ble_eq_true rfl) (by decide) (by decide) (fun v527 T q528 => ?_)
          obtain ⟨h531, S529, ⟨a520, t521, rfl, K522, g523, z524, y525, G526⟩, X530⟩ := q528
          have X := X530 [] all0
          show W.Go _ _ _ _ _ _ _ _ _ _ _ (mkF m 119 #[.val (.int p0), .val (.int p1), .val (.int p2), .val (.int p3), .val (.int c0), .val (.int c1), .val (.int c2), .val (.int d0), .val (.int d1), .val (.int d2), .val (.int (1 : Int32)), .val (.ref a508), .unset, .unset, .unset, .unset, .unset, .unset, .unset, .unset, .unset] [(.ref a520)])
          refine W.o_astore X (pc' := 121) at_119 rfl (L' := #[.val (.int p0), .val (.int p1), .val (.int p2), .val (.int p3), .val (.int c0), .val (.int c1), .val (.int c2), .val (.int d0), .val (.int d1), .val (.int d2), .val (.int (1 : Int32)), .val (.ref a508), .val (.ref a520), .unset, .unset, .unset, .unset, .unset, .unset, .unset, .unset]) rfl rfl ?_
          refine W.o_iload X (pc' := 123) at_121 rfl rfl ?_
          refine W.o_static X (pc' := 126) at_123 rfl (z := (⟨"java/lang/String", "valueOf", "(C)Ljava/lang/String;"⟩ : MethodName)) (hw _ (List.mem_of_getElem? (i := 0) rfl)) (hw _ (List.mem_of_getElem? (i := 1) rfl)) (hw _ (List.mem_of_getElem? (i := 2) rfl)) (hw _ (List.mem_of_getElem? (i := 3) rfl)) (by decide) (ctVO l Z a0 hw c2 cz h531 C0 hcz qc2) (fun _ q => nomatch q) [(.int c2)] rfl (rest := []) rfl pd__C_Ljava_lang_String_ rfl rfl (by decide) (by exact Nat.le_of_ble_eq_true rfl) (by decide) (by decide) (fun v539 T q540 => ?_)
          obtain ⟨h543, S541, ⟨a532, t533, rfl, K534, g535, z536, y537, G538⟩, X542⟩ := q540
          have X := X542 [] all0
          show W.Go _ _ _ _ _ _ _ _ _ _ _ (mkF m 126 #[.val (.int p0), .val (.int p1), .val (.int p2), .val (.int p3), .val (.int c0), .val (.int c1), .val (.int c2), .val (.int d0), .val (.int d1), .val (.int d2), .val (.int (1 : Int32)), .val (.ref a508), .val (.ref a520), .unset, .unset, .unset, .unset, .unset, .unset, .unset, .unset] [(.ref a532)])
          refine W.o_astore X (pc' := 128) at_126 rfl (L' := #[.val (.int p0), .val (.int p1), .val (.int p2), .val (.int p3), .val (.int c0), .val (.int c1), .val (.int c2), .val (.int d0), .val (.int d1), .val (.int d2), .val (.int (1 : Int32)), .val (.ref a508), .val (.ref a520), .val (.ref a532), .unset, .unset, .unset, .unset, .unset, .unset, .unset]) rfl rfl ?_
          refine W.o_iload X (pc' := 130) at_128 rfl rfl ?_
          refine W.o_ifeq X (pt := 156) (pf := 133) at_130 ⟨by decide, by decide⟩ rfl (fun hc => absurd hc (by decide)) (fun _ => ?_)
          refine W.o_new X (pc' := 136) at_133 rfl (hw _ (List.mem_of_getElem? (i := 98) rfl)) (hw _ (List.mem_of_getElem? (i := 10) rfl)) (hw _ (List.mem_of_getElem? (i := 2) rfl)) (by decide) (by decide) (fun T h544 b545 g546 z547 e548 a549 D550 X => ?_)
          have f551 : Fld Z h544 b545 "java/lang/String" "value" "[B" .null := D550 (Or.inr (hw _ (List.mem_of_getElem? (i := 23) rfl))) (ty := (.array .byte)) (by decide)
          have f552 : Fld Z h544 b545 "java/lang/String" "coder" "B" (.int (0 : Int32)) := D550 (Or.inr (hw _ (List.mem_of_getElem? (i := 25) rfl))) (ty := .byte) (by decide)
          have f553 : Fld Z h544 b545 "java/lang/String" "hash" "I" (.int (0 : Int32)) := D550 (Or.inl (hw _ (List.mem_of_getElem? (i := 68) rfl))) (ty := .int) (by decide)
          have f554 : Fld Z h544 b545 "java/lang/String" "hashIsZero" "Z" (.int (0 : Int32)) := D550 (Or.inl (hw _ (List.mem_of_getElem? (i := 70) rfl))) (ty := .boolean) (by decide)
          refine W.o_dup X (pc' := 137) at_136 rfl rfl ?_
          refine W.o_iconst X (2 : Int32) (pc' := 138) at_137 rfl rfl ?_
          refine W.o_newarray X (pc' := 140) at_138 rfl (hw _ (List.mem_of_getElem? (i := 99) rfl)) (by decide) (cap := 2) (by decide) (by decide) (by decide) (by decide) (fun T h555 b556 k557 g558 z559 e560 a561 X => ?_)
          have f563 : Arv Z h555 b556 k557 .char (2 : Int32) [(.int (0 : Int32)), (.int (0 : Int32))] (.int (0 : Int32)) := a561.pad (pad_rep [] (.int (0 : Int32)) 2)
          refine W.o_dup X (pc' := 141) at_140 rfl rfl ?_
          refine W.o_iconst X (0 : Int32) (pc' := 142) at_141 rfl rfl ?_
          refine W.o_iload X (pc' := 144) at_142 rfl rfl ?_
          refine W.o_castore X (pc' := 145) at_144 rfl f563 0 rfl ⟨by decide, by decide⟩ (by exact Nat.le_of_ble_eq_true rfl) z559 (Or.inl rfl) (fun T h564 w565 a566 X => ?_)
          rw [nar_ch qd0.1 (no_big qd0.2)] at a566
          have f567 : Arv Z h564 b556 k557 .char (2 : Int32) [(.int d0), (.int (0 : Int32))] (.int (0 : Int32)) := a566
          refine W.o_dup X (pc' := 146) at_145 rfl rfl ?_
          refine W.o_iconst X (1 : Int32) (pc' := 147) at_146 rfl rfl ?_
          refine W.o_iload X (pc' := 149) at_147 rfl rfl ?_
          refine W.o_castore X (pc' := 150) at_149 rfl f567 1 rfl ⟨by decide, by decide⟩ (by exact Nat.le_of_ble_eq_true rfl) z559 (Or.inl rfl) (fun T h568 w569 a570 X => ?_)
          rw [nar_ch qd0.1 (no_big qd0.2)] at a570
          have f571 : Arv Z h568 b556 k557 .char (2 : Int32) [(.int d0), (.int d0)] (.int (0 : Int32)) := a570
          have f576 := (((a549.ext e560).wr w565).wr w569)
          have f577 := (((f551.ext e560).other w565 (Or.inl (Nat.ne_of_lt (Nat.lt_of_lt_of_le a549.lt (Nat.le_of_eq g558.symm))))).other w569 (Or.inl (Nat.ne_of_lt (Nat.lt_of_lt_of_le a549.lt (Nat.le_of_eq g558.symm)))))
          have f578 := (((f552.ext e560).other w565 (Or.inl (Nat.ne_of_lt (Nat.lt_of_lt_of_le a549.lt (Nat.le_of_eq g558.symm))))).other w569 (Or.inl (Nat.ne_of_lt (Nat.lt_of_lt_of_le a549.lt (Nat.le_of_eq g558.symm)))))
          have f579 := (((f553.ext e560).other w565 (Or.inl (Nat.ne_of_lt (Nat.lt_of_lt_of_le a549.lt (Nat.le_of_eq g558.symm))))).other w569 (Or.inl (Nat.ne_of_lt (Nat.lt_of_lt_of_le a549.lt (Nat.le_of_eq g558.symm)))))
          have f580 := (((f554.ext e560).other w565 (Or.inl (Nat.ne_of_lt (Nat.lt_of_lt_of_le a549.lt (Nat.le_of_eq g558.symm))))).other w569 (Or.inl (Nat.ne_of_lt (Nat.lt_of_lt_of_le a549.lt (Nat.le_of_eq g558.symm)))))
          refine W.o_special X (pc' := 153) at_150 rfl (z := (⟨"java/lang/String", "<init>", "([C)V"⟩ : MethodName)) rfl (hw _ (List.mem_of_getElem? (i := 100) rfl)) (hw _ (List.mem_of_getElem? (i := 101) rfl)) (hw _ (List.mem_of_getElem? (i := 2) rfl)) (hw _ (List.mem_of_getElem? (i := 102) rfl)) (by decide) (ctNew1 l Z a0 hw b545 b556 k557 [d0, d0] cz h568 (by exact Nat.le_of_ble_eq_true rfl) (by exact Nat.succ_ne_zero _) (allI qd0 (allI qd0 (fun _ q => nomatch q))) C0 hcz z547 f576 f577 f578 f571 f579 f580) (allS ⟨(((a549.ext e560).wr w565).wr w569).lt, (Or.inl rfl)⟩ all0) [(.ref b556)] rfl (rest := [(.ref b545)]) rfl pd___C_V rfl rfl (by decide) (by exact Nat.le_of_ble_eq_true rfl) (by decide) (by decide) (fun v581 T q582 => ?_)
          obtain ⟨h585, S583, ⟨rfl, K572, t573, g574, G575⟩, X584⟩ := q582
          have X := X584 [] all0
          show W.Go _ _ _ _ _ _ _ _ _ _ _ (mkF m 153 #[.val (.int p0), .val (.int p1), .val (.int p2), .val (.int p3), .val (.int c0), .val (.int c1), .val (.int c2), .val (.int d0), .val (.int d1), .val (.int d2), .val (.int (1 : Int32)), .val (.ref a508), .val (.ref a520), .val (.ref a532), .unset, .unset, .unset, .unset, .unset, .unset, .unset] [(.ref b545)])
          refine W.o_goto X (pc' := 161) at_153 ⟨by decide, by decide⟩ ?_
          refine W.o_astore X (pc' := 163) at_161 rfl (L' := #[.val (.int p0), .val (.int p1), .val (.int p2), .val (.int p3), .val (.int c0), .val (.int c1), .val (.int c2), .val (.int d0), .val (.int d1), .val (.int d2), .val (.int (1 : Int32)), .val (.ref a508), .val (.ref a520), .val (.ref a532), .val (.ref b545), .unset, .unset, .unset, .unset, .unset, .unset]) rfl rfl ?_
          refine W.o_iload X (pc' := 165) at_163 rfl rfl ?_
          refine W.o_static X (pc' := 168) at_165 rfl (z := (⟨"java/lang/String", "valueOf", "(C)Ljava/lang/String;"⟩ : MethodName)) (hw _ (List.mem_of_getElem? (i := 0) rfl)) (hw _ (List.mem_of_getElem? (i := 1) rfl)) (hw _ (List.mem_of_getElem? (i := 2) rfl)) (hw _ (List.mem_of_getElem? (i := 3) rfl)) (by decide) (ctVO l Z a0 hw d1 cz h585 C0 hcz qd1) (fun _ q => nomatch q) [(.int d1)] rfl (rest := []) rfl pd__C_Ljava_lang_String_ rfl rfl (by decide) (by exact Nat.le_of_ble_eq_true rfl) (by decide) (by decide) (fun v593 T q594 => ?_)
          obtain ⟨h597, S595, ⟨a586, t587, rfl, K588, g589, z590, y591, G592⟩, X596⟩ := q594
          have X := X596 [] all0
          show W.Go _ _ _ _ _ _ _ _ _ _ _ (mkF m 168 #[.val (.int p0), .val (.int p1), .val (.int p2), .val (.int p3), .val (.int c0), .val (.int c1), .val (.int c2), .val (.int d0), .val (.int d1), .val (.int d2), .val (.int (1 : Int32)), .val (.ref a508), .val (.ref a520), .val (.ref a532), .val (.ref b545), .unset, .unset, .unset, .unset, .unset, .unset] [(.ref a586)])
          refine W.o_astore X (pc' := 170) at_168 rfl (L' := #[.val (.int p0), .val (.int p1), .val (.int p2), .val (.int p3), .val (.int c0), .val (.int c1), .val (.int c2), .val (.int d0), .val (.int d1), .val (.int d2), .val (.int (1 : Int32)), .val (.ref a508), .val (.ref a520), .val (.ref a532), .val (.ref b545), .val (.ref a586), .unset, .unset, .unset, .unset, .unset]) rfl rfl ?_
          refine W.o_iload X (pc' := 172) at_170 rfl rfl ?_
          refine W.o_static X (pc' := 175) at_172 rfl (z := (⟨"java/lang/String", "valueOf", "(C)Ljava/lang/String;"⟩ : MethodName)) (hw _ (List.mem_of_getElem? (i := 0) rfl)) (hw _ (List.mem_of_getElem? (i := 1) rfl)) (hw _ (List.mem_of_getElem? (i := 2) rfl)) (hw _ (List.mem_of_getElem? (i := 3) rfl)) (by decide) (ctVO l Z a0 hw d2 cz h597 C0 hcz qd2) (fun _ q => nomatch q) [(.int d2)] rfl (rest := []) rfl pd__C_Ljava_lang_String_ rfl rfl (by decide) (by exact Nat.le_of_ble_eq_true rfl) (by decide) (by decide) (fun v605 T q606 => ?_)
          obtain ⟨h609, S607, ⟨a598, t599, rfl, K600, g601, z602, y603, G604⟩, X608⟩ := q606
          have X := X608 [] all0
          show W.Go _ _ _ _ _ _ _ _ _ _ _ (mkF m 175 #[.val (.int p0), .val (.int p1), .val (.int p2), .val (.int p3), .val (.int c0), .val (.int c1), .val (.int c2), .val (.int d0), .val (.int d1), .val (.int d2), .val (.int (1 : Int32)), .val (.ref a508), .val (.ref a520), .val (.ref a532), .val (.ref b545), .val (.ref a586), .unset, .unset, .unset, .unset, .unset] [(.ref a598)])
          refine W.o_astore X (pc' := 177) at_175 rfl (L' := #[.val (.int p0), .val (.int p1), .val (.int p2), .val (.int p3), .val (.int c0), .val (.int c1), .val (.int c2), .val (.int d0), .val (.int d1), .val (.int d2), .val (.int (1 : Int32)), .val (.ref a508), .val (.ref a520), .val (.ref a532), .val (.ref b545), .val (.ref a586), .val (.ref a598), .unset, .unset, .unset, .unset]) rfl rfl ?_
          refine W.o_new X (pc' := 180) at_177 rfl (hw _ (List.mem_of_getElem? (i := 26) rfl)) (hw _ (List.mem_of_getElem? (i := 27) rfl)) (hw _ (List.mem_of_getElem? (i := 28) rfl)) (by decide) (by decide) (fun T h610 b611 g612 z613 e614 a615 D616 X => ?_)
          have f617 : Fld Z h610 b611 "com/example/holdfast/holdfast/redis/LockKeys" "key" "Ljava/lang/String;" .null := D616 (Or.inr (hw _ (List.mem_of_getElem? (i := 42) rfl))) (ty := (.object "java/lang/String")) (by decide)
          have f618 : Fld Z h610 b611 "com/example/holdfast/holdfast/redis/LockKeys" "fenceKey" "Ljava/lang/String;" .null := D616 (Or.inr (hw _ (List.mem_of_getElem? (i := 45) rfl))) (ty := (.object "java/lang/String")) (by decide)
          have f619 : Fld Z h610 b611 "com/example/holdfast/holdfast/redis/LockKeys" "waitersKey" "Ljava/lang/String;" .null := D616 (Or.inr (hw _ (List.mem_of_getElem? (i := 48) rfl))) (ty := (.object "java/lang/String")) (by decide)
          have f620 : Fld Z h610 b611 "com/example/holdfast/holdfast/redis/LockKeys" "slot" "I" (.int (0 : Int32)) := D616 (Or.inr (hw _ (List.mem_of_getElem? (i := 50) rfl))) (ty := .int) (by decide)
          have f621 : Fld Z h610 b611 "com/example/holdfast/holdfast/redis/LockKeys" "hash" "I" (.int (0 : Int32)) := D616 (Or.inr (hw _ (List.mem_of_getElem? (i := 80) rfl))) (ty := .int) (by decide)
          refine W.o_dup X (pc' := 181) at_180 rfl rfl ?_
          refine W.o_aload X (pc' := 183) at_181 rfl rfl rfl ?_
          refine W.o_aload X (pc' := 185) at_183 rfl rfl rfl ?_
          refine W.o_aload X (pc' := 187) at_185 rfl rfl rfl ?_
          refine W.o_iloadN X (pc' := 188) at_187 rfl rfl ?_
          have f630 := ((((((((((G514.keep K522 nin0 nin0).keep K534 nin0 nin0).ext e548).ext e560).other w565 (Nat.ne_of_lt (Nat.lt_of_lt_of_le (((G514.keep K522 nin0 nin0).keep K534 nin0 nin0).ext e548).lt (Nat.le_of_eq g558.symm))) (Nat.ne_of_lt (Nat.lt_of_lt_of_le (((G514.keep K522 nin0 nin0).keep K534 nin0 nin0).ext e548).lt' (Nat.le_of_eq g558.symm)))).other w569 (Nat.ne_of_lt (Nat.lt_of_lt_of_le (((G514.keep K522 nin0 nin0).keep K534 nin0 nin0).ext e548).lt (Nat.le_of_eq g558.symm))) (Nat.ne_of_lt (Nat.lt_of_lt_of_le (((G514.keep K522 nin0 nin0).keep K534 nin0 nin0).ext e548).lt' (Nat.le_of_eq g558.symm)))).keep K572 (ninS (Nat.ne_of_lt (Nat.lt_of_lt_of_le ((G514.keep K522 nin0 nin0).keep K534 nin0 nin0).lt (Nat.le_of_eq g546.symm))) nin0) (ninS (Nat.ne_of_lt (Nat.lt_of_lt_of_le ((G514.keep K522 nin0 nin0).keep K534 nin0 nin0).lt' (Nat.le_of_eq g546.symm))) nin0)).keep K588 nin0 nin0).keep K600 nin0 nin0).ext e614)
          have f631 := (((((((((G526.keep K534 nin0 nin0).ext e548).ext e560).other w565 (Nat.ne_of_lt (Nat.lt_of_lt_of_le ((G526.keep K534 nin0 nin0).ext e548).lt (Nat.le_of_eq g558.symm))) (Nat.ne_of_lt (Nat.lt_of_lt_of_le ((G526.keep K534 nin0 nin0).ext e548).lt' (Nat.le_of_eq g558.symm)))).other w569 (Nat.ne_of_lt (Nat.lt_of_lt_of_le ((G526.keep K534 nin0 nin0).ext e548).lt (Nat.le_of_eq g558.symm))) (Nat.ne_of_lt (Nat.lt_of_lt_of_le ((G526.keep K534 nin0 nin0).ext e548).lt' (Nat.le_of_eq g558.symm)))).keep K572 (ninS (Nat.ne_of_lt (Nat.lt_of_lt_of_le (G526.keep K534 nin0 nin0).lt (Nat.le_of_eq g546.symm))) nin0) (ninS (Nat.ne_of_lt (Nat.lt_of_lt_of_le (G526.keep K534 nin0 nin0).lt' (Nat.le_of_eq g546.symm))) nin0)).keep K588 nin0 nin0).keep K600 nin0 nin0).ext e614)
          have f632 := ((((((((G538.ext e548).ext e560).other w565 (Nat.ne_of_lt (Nat.lt_of_lt_of_le (G538.ext e548).lt (Nat.le_of_eq g558.symm))) (Nat.ne_of_lt (Nat.lt_of_lt_of_le (G538.ext e548).lt' (Nat.le_of_eq g558.symm)))).other w569 (Nat.ne_of_lt (Nat.lt_of_lt_of_le (G538.ext e548).lt (Nat.le_of_eq g558.symm))) (Nat.ne_of_lt (Nat.lt_of_lt_of_le (G538.ext e548).lt' (Nat.le_of_eq g558.symm)))).keep K572 (ninS (Nat.ne_of_lt (Nat.lt_of_lt_of_le G538.lt (Nat.le_of_eq g546.symm))) nin0) (ninS (Nat.ne_of_lt (Nat.lt_of_lt_of_le G538.lt' (Nat.le_of_eq g546.symm))) nin0)).keep K588 nin0 nin0).keep K600 nin0 nin0).ext e614)
          refine W.o_special X (pc' := 191) at_188 rfl (z := (⟨"com/example/holdfast/holdfast/redis/LockKeys", "<init>", "(Ljava/lang/String;Ljava/lang/String;Ljava/lang/String;I)V"⟩ : MethodName)) rfl (hw _ (List.mem_of_getElem? (i := 29) rfl)) (hw _ (List.mem_of_getElem? (i := 30) rfl)) (hw _ (List.mem_of_getElem? (i := 28) rfl)) (hw _ (List.mem_of_getElem? (i := 31) rfl)) (by decide) (ctLI l Z a0 hw b611 a508 a520 a532 t509 t521 t533 p3 [c0] [c1] [c2] cz h610 C0 hcz z613 a615 f617 f618 f619 f620 f621 (by exact Nat.succ_ne_zero _) z512 f630 (by exact Nat.succ_ne_zero _) z524 f631 (by exact Nat.succ_ne_zero _) z536 f632 (Nat.ne_of_lt (Nat.lt_of_lt_of_le G514.lt g523)) (Nat.ne_of_lt (Nat.lt_of_lt_of_le (G514.keep K522 nin0 nin0).lt g535)) (Nat.ne_of_lt (Nat.lt_of_lt_of_le G526.lt g535))) (allS ⟨((((((((((G514.keep K522 nin0 nin0).keep K534 nin0 nin0).ext e548).ext e560).other w565 (Nat.ne_of_lt (Nat.lt_of_lt_of_le (((G514.keep K522 nin0 nin0).keep K534 nin0 nin0).ext e548).lt (Nat.le_of_eq g558.symm))) (Nat.ne_of_lt (Nat.lt_of_lt_of_le (((G514.keep K522 nin0 nin0).keep K534 nin0 nin0).ext e548).lt' (Nat.le_of_eq g558.symm)))).other w569 (Nat.ne_of_lt (Nat.lt_of_lt_of_le (((G514.keep K522 nin0 nin0).keep K534 nin0 nin0).ext e548).lt (Nat.le_of_eq g558.symm))) (Nat.ne_of_lt (Nat.lt_of_lt_of_le (((G514.keep K522 nin0 nin0).keep K534 nin0 nin0).ext e548).lt' (Nat.le_of_eq g558.symm)))).keep K572 (ninS (Nat.ne_of_lt (Nat.lt_of_lt_of_le ((G514.keep K522 nin0 nin0).keep K534 nin0 nin0).lt (Nat.le_of_eq g546.symm))) nin0) (ninS (Nat.ne_of_lt (Nat.lt_of_lt_of_le ((G514.keep K522 nin0 nin0).keep K534 nin0 nin0).lt' (Nat.le_of_eq g546.symm))) nin0)).keep K588 nin0 nin0).keep K600 nin0 nin0).ext e614).lt, (Or.inl rfl)⟩ (allS ⟨(((((((((G526.keep K534 nin0 nin0).ext e548).ext e560).other w565 (Nat.ne_of_lt (Nat.lt_of_lt_of_le ((G526.keep K534 nin0 nin0).ext e548).lt (Nat.le_of_eq g558.symm))) (Nat.ne_of_lt (Nat.lt_of_lt_of_le ((G526.keep K534 nin0 nin0).ext e548).lt' (Nat.le_of_eq g558.symm)))).other w569 (Nat.ne_of_lt (Nat.lt_of_lt_of_le ((G526.keep K534 nin0 nin0).ext e548).lt (Nat.le_of_eq g558.symm))) (Nat.ne_of_lt (Nat.lt_of_lt_of_le ((G526.keep K534 nin0 nin0).ext e548).lt' (Nat.le_of_eq g558.symm)))).keep K572 (ninS (Nat.ne_of_lt (Nat.lt_of_lt_of_le (G526.keep K534 nin0 nin0).lt (Nat.le_of_eq g546.symm))) nin0) (ninS (Nat.ne_of_lt (Nat.lt_of_lt_of_le (G526.keep K534 nin0 nin0).lt' (Nat.le_of_eq g546.symm))) nin0)).keep K588 nin0 nin0).keep K600 nin0 nin0).ext e614).lt, (Or.inl rfl)⟩ (allS ⟨((((((((G538.ext e548).ext e560).other w565 (Nat.ne_of_lt (Nat.lt_of_lt_of_le (G538.ext e548).lt (Nat.le_of_eq g558.symm))) (Nat.ne_of_lt (Nat.lt_of_lt_of_le (G538.ext e548).lt' (Nat.le_of_eq g558.symm)))).other w569 (Nat.ne_of_lt (Nat.lt_of_lt_of_le (G538.ext e548).lt (Nat.le_of_eq g558.symm))) (Nat.ne_of_lt (Nat.lt_of_lt_of_le (G538.ext e548).lt' (Nat.le_of_eq g558.symm)))).keep K572 (ninS (Nat.ne_of_lt (Nat.lt_of_lt_of_le G538.lt (Nat.le_of_eq g546.symm))) nin0) (ninS (Nat.ne_of_lt (Nat.lt_of_lt_of_le G538.lt' (Nat.le_of_eq g546.symm))) nin0)).keep K588 nin0 nin0).keep K600 nin0 nin0).ext e614).lt, (Or.inl rfl)⟩ all0))) [(.ref a508), (.ref a520), (.ref a532), (.int p3)] rfl (rest := [(.ref b611)]) rfl pd__Ljava_lang_String_Ljava_lang_String_Ljava_lang_String_I_V rfl rfl (by decide) (by exact Nat.le_of_ble_eq_true rfl) (by decide) (by decide) (fun v633 T q634 => ?_)
          obtain ⟨h637, S635, ⟨rfl, K622, E623, F624, F625, F626, G627, G628, G629⟩, X636⟩ := q634
          have X := X636 [] all0
          show W.Go _ _ _ _ _ _ _ _ _ _ _ (mkF m 191 #[.val (.int p0), .val (.int p1), .val (.int p2), .val (.int p3), .val (.int c0), .val (.int c1), .val (.int c2), .val (.int d0), .val (.int d1), .val (.int d2), .val (.int (1 : Int32)), .val (.ref a508), .val (.ref a520), .val (.ref a532), .val (.ref b545), .val (.ref a586), .val (.ref a598), .unset, .unset, .unset, .unset] [(.ref b611)])
          refine W.o_astore X (pc' := 193) at_191 rfl (L' := #[.val (.int p0), .val (.int p1), .val (.int p2), .val (.int p3), .val (.int c0), .val (.int c1), .val (.int c2), .val (.int d0), .val (.int d1), .val (.int d2), .val (.int (1 : Int32)), .val (.ref a508), .val (.ref a520), .val (.ref a532), .val (.ref b545), .val (.ref a586), .val (.ref a598), .val (.ref b611), .unset, .unset, .unset]) rfl rfl ?_
          refine W.o_new X (pc' := 196) at_193 rfl (hw _ (List.mem_of_getElem? (i := 26) rfl)) (hw _ (List.mem_of_getElem? (i := 27) rfl)) (hw _ (List.mem_of_getElem? (i := 28) rfl)) (by decide) (by decide) (fun T h638 b639 g640 z641 e642 a643 D644 X => ?_)
          have f645 : Fld Z h638 b639 "com/example/holdfast/holdfast/redis/LockKeys" "key" "Ljava/lang/String;" .null := D644 (Or.inr (hw _ (List.mem_of_getElem? (i := 42) rfl))) (ty := (.object "java/lang/String")) (by decide)
          have f646 : Fld Z h638 b639 "com/example/holdfast/holdfast/redis/LockKeys" "fenceKey" "Ljava/lang/String;" .null := D644 (Or.inr (hw _ (List.mem_of_getElem? (i := 45) rfl))) (ty := (.object "java/lang/String")) (by decide)
          have f647 : Fld Z h638 b639 "com/example/holdfast/holdfast/redis/LockKeys" "waitersKey" "Ljava/lang/String;" .null := D644 (Or.inr (hw _ (List.mem_of_getElem? (i := 48) rfl))) (ty := (.object "java/lang/String")) (by decide)
          have f648 : Fld Z h638 b639 "com/example/holdfast/holdfast/redis/LockKeys" "slot" "I" (.int (0 : Int32)) := D644 (Or.inr (hw _ (List.mem_of_getElem? (i := 50) rfl))) (ty := .int) (by decide)
          have f649 : Fld Z h638 b639 "com/example/holdfast/holdfast/redis/LockKeys" "hash" "I" (.int (0 : Int32)) := D644 (Or.inr (hw _ (List.mem_of_getElem? (i := 80) rfl))) (ty := .int) (by decide)
          refine W.o_dup X (pc' := 197) at_196 rfl rfl ?_
          refine W.o_aload X (pc' := 199) at_197 rfl rfl rfl ?_
          refine W.o_aload X (pc' := 201) at_199 rfl rfl rfl ?_
          refine W.o_aload X (pc' := 203) at_201 rfl rfl rfl ?_
          refine W.o_iloadN X (pc' := 204) at_203 rfl rfl ?_
          have f658 := (((((G575.keep K588 nin0 nin0).keep K600 nin0 nin0).ext e614).keep K622 (ninS (Nat.ne_of_lt (Nat.lt_of_lt_of_le ((G575.keep K588 nin0 nin0).keep K600 nin0 nin0).lt (Nat.le_of_eq g612.symm))) (ninS (Ne.symm (Nat.ne_of_lt (Nat.lt_of_lt_of_le ((G514.keep K522 nin0 nin0).keep K534 nin0 nin0).lt (Nat.le_of_eq g546.symm)))) (ninS (Ne.symm (Nat.ne_of_lt (Nat.lt_of_lt_of_le (G526.keep K534 nin0 nin0).lt (Nat.le_of_eq g546.symm)))) (ninS (Ne.symm (Nat.ne_of_lt (Nat.lt_of_lt_of_le G538.lt (Nat.le_of_eq g546.symm)))) nin0)))) (ninS (Nat.ne_of_lt (Nat.lt_of_lt_of_le ((G575.keep K588 nin0 nin0).keep K600 nin0 nin0).lt' (Nat.le_of_eq g612.symm))) (ninS (Ne.symm (Nat.ne_of_lt (Nat.lt_of_lt_of_le ((((((G514.keep K522 nin0 nin0).keep K534 nin0 nin0).ext e548).ext e560).other w565 (Nat.ne_of_lt (Nat.lt_of_lt_of_le (((G514.keep K522 nin0 nin0).keep K534 nin0 nin0).ext e548).lt (Nat.le_of_eq g558.symm))) (Nat.ne_of_lt (Nat.lt_of_lt_of_le (((G514.keep K522 nin0 nin0).keep K534 nin0 nin0).ext e548).lt' (Nat.le_of_eq g558.symm)))).other w569 (Nat.ne_of_lt (Nat.lt_of_lt_of_le (((G514.keep K522 nin0 nin0).keep K534 nin0 nin0).ext e548).lt (Nat.le_of_eq g558.symm))) (Nat.ne_of_lt (Nat.lt_of_lt_of_le (((G514.keep K522 nin0 nin0).keep K534 nin0 nin0).ext e548).lt' (Nat.le_of_eq g558.symm)))).lt g574))) (ninS (Ne.symm (Nat.ne_of_lt (Nat.lt_of_lt_of_le (((((G526.keep K534 nin0 nin0).ext e548).ext e560).other w565 (Nat.ne_of_lt (Nat.lt_of_lt_of_le ((G526.keep K534 nin0 nin0).ext e548).lt (Nat.le_of_eq g558.symm))) (Nat.ne_of_lt (Nat.lt_of_lt_of_le ((G526.keep K534 nin0 nin0).ext e548).lt' (Nat.le_of_eq g558.symm)))).other w569 (Nat.ne_of_lt (Nat.lt_of_lt_of_le ((G526.keep K534 nin0 nin0).ext e548).lt (Nat.le_of_eq g558.symm))) (Nat.ne_of_lt (Nat.lt_of_lt_of_le ((G526.keep K534 nin0 nin0).ext e548).lt' (Nat.le_of_eq g558.symm)))).lt g574))) (ninS (Ne.symm (Nat.ne_of_lt (Nat.lt_of_lt_of_le ((((G538.ext e548).ext e560).other w565 (Nat.ne_of_lt (Nat.lt_of_lt_of_le (G538.ext e548).lt (Nat.le_of_eq g558.symm))) (Nat.ne_of_lt (Nat.lt_of_lt_of_le (G538.ext e548).lt' (Nat.le_of_eq g558.symm)))).other w569 (Nat.ne_of_lt (Nat.lt_of_lt_of_le (G538.ext e548).lt (Nat.le_of_eq g558.symm))) (Nat.ne_of_lt (Nat.lt_of_lt_of_le (G538.ext e548).lt' (Nat.le_of_eq g558.symm)))).lt g574))) nin0))))).ext e642)
          have f659 := ((((G592.keep K600 nin0 nin0).ext e614).keep K622 (ninS (Nat.ne_of_lt (Nat.lt_of_lt_of_le (G592.keep K600 nin0 nin0).lt (Nat.le_of_eq g612.symm))) (ninS (Ne.symm (Nat.ne_of_lt (Nat.lt_of_lt_of_le (((((((G514.keep K522 nin0 nin0).keep K534 nin0 nin0).ext e548).ext e560).other w565 (Nat.ne_of_lt (Nat.lt_of_lt_of_le (((G514.keep K522 nin0 nin0).keep K534 nin0 nin0).ext e548).lt (Nat.le_of_eq g558.symm))) (Nat.ne_of_lt (Nat.lt_of_lt_of_le (((G514.keep K522 nin0 nin0).keep K534 nin0 nin0).ext e548).lt' (Nat.le_of_eq g558.symm)))).other w569 (Nat.ne_of_lt (Nat.lt_of_lt_of_le (((G514.keep K522 nin0 nin0).keep K534 nin0 nin0).ext e548).lt (Nat.le_of_eq g558.symm))) (Nat.ne_of_lt (Nat.lt_of_lt_of_le (((G514.keep K522 nin0 nin0).keep K534 nin0 nin0).ext e548).lt' (Nat.le_of_eq g558.symm)))).keep K572 (ninS (Nat.ne_of_lt (Nat.lt_of_lt_of_le ((G514.keep K522 nin0 nin0).keep K534 nin0 nin0).lt (Nat.le_of_eq g546.symm))) nin0) (ninS (Nat.ne_of_lt (Nat.lt_of_lt_of_le ((G514.keep K522 nin0 nin0).keep K534 nin0 nin0).lt' (Nat.le_of_eq g546.symm))) nin0)).lt g589))) (ninS (Ne.symm (Nat.ne_of_lt (Nat.lt_of_lt_of_le ((((((G526.keep K534 nin0 nin0).ext e548).ext e560).other w565 (Nat.ne_of_lt (Nat.lt_of_lt_of_le ((G526.keep K534 nin0 nin0).ext e548).lt (Nat.le_of_eq g558.symm))) (Nat.ne_of_lt (Nat.lt_of_lt_of_le ((G526.keep K534 nin0 nin0).ext e548).lt' (Nat.le_of_eq g558.symm)))).other w569 (Nat.ne_of_lt (Nat.lt_of_lt_of_le ((G526.keep K534 nin0 nin0).ext e548).lt (Nat.le_of_eq g558.symm))) (Nat.ne_of_lt (Nat.lt_of_lt_of_le ((G526.keep K534 nin0 nin0).ext e548).lt' (Nat.le_of_eq g558.symm)))).keep K572 (ninS (Nat.ne_of_lt (Nat.lt_of_lt_of_le (G526.keep K534 nin0 nin0).lt (Nat.le_of_eq g546.symm))) nin0) (ninS (Nat.ne_of_lt (Nat.lt_of_lt_of_le (G526.keep K534 nin0 nin0).lt' (Nat.le_of_eq g546.symm))) nin0)).lt g589))) (ninS (Ne.symm (Nat.ne_of_lt (Nat.lt_of_lt_of_le (((((G538.ext e548).ext e560).other w565 (Nat.ne_of_lt (Nat.lt_of_lt_of_le (G538.ext e548).lt (Nat.le_of_eq g558.symm))) (Nat.ne_of_lt (Nat.lt_of_lt_of_le (G538.ext e548).lt' (Nat.le_of_eq g558.symm)))).other w569 (Nat.ne_of_lt (Nat.lt_of_lt_of_le (G538.ext e548).lt (Nat.le_of_eq g558.symm))) (Nat.ne_of_lt (Nat.lt_of_lt_of_le (G538.ext e548).lt' (Nat.le_of_eq g558.symm)))).keep K572 (ninS (Nat.ne_of_lt (Nat.lt_of_lt_of_le G538.lt (Nat.le_of_eq g546.symm))) nin0) (ninS (Nat.ne_of_lt (Nat.lt_of_lt_of_le G538.lt' (Nat.le_of_eq g546.symm))) nin0)).lt g589))) nin0)))) (ninS (Nat.ne_of_lt (Nat.lt_of_lt_of_le (G592.keep K600 nin0 nin0).lt' (Nat.le_of_eq g612.symm))) (ninS (Ne.symm (Nat.ne_of_lt (Nat.lt_of_lt_of_le (((((((G514.keep K522 nin0 nin0).keep K534 nin0 nin0).ext e548).ext e560).other w565 (Nat.ne_of_lt (Nat.lt_of_lt_of_le (((G514.keep K522 nin0 nin0).keep K534 nin0 nin0).ext e548).lt (Nat.le_of_eq g558.symm))) (Nat.ne_of_lt (Nat.lt_of_lt_of_le (((G514.keep K522 nin0 nin0).keep K534 nin0 nin0).ext e548).lt' (Nat.le_of_eq g558.symm)))).other w569 (Nat.ne_of_lt (Nat.lt_of_lt_of_le (((G514.keep K522 nin0 nin0).keep K534 nin0 nin0).ext e548).lt (Nat.le_of_eq g558.symm))) (Nat.ne_of_lt (Nat.lt_of_lt_of_le (((G514.keep K522 nin0 nin0).keep K534 nin0 nin0).ext e548).lt' (Nat.le_of_eq g558.symm)))).keep K572 (ninS (Nat.ne_of_lt (Nat.lt_of_lt_of_le ((G514.keep K522 nin0 nin0).keep K534 nin0 nin0).lt (Nat.le_of_eq g546.symm))) nin0) (ninS (Nat.ne_of_lt (Nat.lt_of_lt_of_le ((G514.keep K522 nin0 nin0).keep K534 nin0 nin0).lt' (Nat.le_of_eq g546.symm))) nin0)).lt y591))) (ninS (Ne.symm (Nat.ne_of_lt (Nat.lt_of_lt_of_le ((((((G526.keep K534 nin0 nin0).ext e548).ext e560).other w565 (Nat.ne_of_lt (Nat.lt_of_lt_of_le ((G526.keep K534 nin0 nin0).ext e548).lt (Nat.le_of_eq g558.symm))) (Nat.ne_of_lt (Nat.lt_of_lt_of_le ((G526.keep K534 nin0 nin0).ext e548).lt' (Nat.le_of_eq g558.symm)))).other w569 (Nat.ne_of_lt (Nat.lt_of_lt_of_le ((G526.keep K534 nin0 nin0).ext e548).lt (Nat.le_of_eq g558.symm))) (Nat.ne_of_lt (Nat.lt_of_lt_of_le ((G526.keep K534 nin0 nin0).ext e548).lt' (Nat.le_of_eq g558.symm)))).keep K572 (ninS (Nat.ne_of_lt (Nat.lt_of_lt_of_le (G526.keep K534 nin0 nin0).lt (Nat.le_of_eq g546.symm))) nin0) (ninS (Nat.ne_of_lt (Nat.lt_of_lt_of_le (G526.keep K534 nin0 nin0).lt' (Nat.le_of_eq g546.symm))) nin0)).lt y591))) (ninS (Ne.symm (Nat.ne_of_lt (Nat.lt_of_lt_of_le (((((G538.ext e548).ext e560).other w565 (Nat.ne_of_lt (Nat.lt_of_lt_of_le (G538.ext e548).lt (Nat.le_of_eq g558.symm))) (Nat.ne_of_lt (Nat.lt_of_lt_of_le (G538.ext e548).lt' (Nat.le_of_eq g558.symm)))).other w569 (Nat.ne_of_lt (Nat.lt_of_lt_of_le (G538.ext e548).lt (Nat.le_of_eq g558.symm))) (Nat.ne_of_lt (Nat.lt_of_lt_of_le (G538.ext e548).lt' (Nat.le_of_eq g558.symm)))).keep K572 (ninS (Nat.ne_of_lt (Nat.lt_of_lt_of_le G538.lt (Nat.le_of_eq g546.symm))) nin0) (ninS (Nat.ne_of_lt (Nat.lt_of_lt_of_le G538.lt' (Nat.le_of_eq g546.symm))) nin0)).lt y591))) nin0))))).ext e642)
          have f660 := (((G604.ext e614).keep K622 (ninS (Nat.ne_of_lt (Nat.lt_of_lt_of_le G604.lt (Nat.le_of_eq g612.symm))) (ninS (Ne.symm (Nat.ne_of_lt (Nat.lt_of_lt_of_le ((((((((G514.keep K522 nin0 nin0).keep K534 nin0 nin0).ext e548).ext e560).other w565 (Nat.ne_of_lt (Nat.lt_of_lt_of_le (((G514.keep K522 nin0 nin0).keep K534 nin0 nin0).ext e548).lt (Nat.le_of_eq g558.symm))) (Nat.ne_of_lt (Nat.lt_of_lt_of_le (((G514.keep K522 nin0 nin0).keep K534 nin0 nin0).ext e548).lt' (Nat.le_of_eq g558.symm)))).other w569 (Nat.ne_of_lt (Nat.lt_of_lt_of_le (((G514.keep K522 nin0 nin0).keep K534 nin0 nin0).ext e548).lt (Nat.le_of_eq g558.symm))) (Nat.ne_of_lt (Nat.lt_of_lt_of_le (((G514.keep K522 nin0 nin0).keep K534 nin0 nin0).ext e548).lt' (Nat.le_of_eq g558.symm)))).keep K572 (ninS (Nat.ne_of_lt (Nat.lt_of_lt_of_le ((G514.keep K522 nin0 nin0).keep K534 nin0 nin0).lt (Nat.le_of_eq g546.symm))) nin0) (ninS (Nat.ne_of_lt (Nat.lt_of_lt_of_le ((G514.keep K522 nin0 nin0).keep K534 nin0 nin0).lt' (Nat.le_of_eq g546.symm))) nin0)).keep K588 nin0 nin0).lt g601))) (ninS (Ne.symm (Nat.ne_of_lt (Nat.lt_of_lt_of_le (((((((G526.keep K534 nin0 nin0).ext e548).ext e560).other w565 (Nat.ne_of_lt (Nat.lt_of_lt_of_le ((G526.keep K534 nin0 nin0).ext e548).lt (Nat.le_of_eq g558.symm))) (Nat.ne_of_lt (Nat.lt_of_lt_of_le ((G526.keep K534 nin0 nin0).ext e548).lt' (Nat.le_of_eq g558.symm)))).other w569 (Nat.ne_of_lt (Nat.lt_of_lt_of_le ((G526.keep K534 nin0 nin0).ext e548).lt (Nat.le_of_eq g558.symm))) (Nat.ne_of_lt (Nat.lt_of_lt_of_le ((G526.keep K534 nin0 nin0).ext e548).lt' (Nat.le_of_eq g558.symm)))).keep K572 (ninS (Nat.ne_of_lt (Nat.lt_of_lt_of_le (G526.keep K534 nin0 nin0).lt (Nat.le_of_eq g546.symm))) nin0) (ninS (Nat.ne_of_lt (Nat.lt_of_lt_of_le (G526.keep K534 nin0 nin0).lt' (Nat.le_of_eq g546.symm))) nin0)).keep K588 nin0 nin0).lt g601))) (ninS (Ne.symm (Nat.ne_of_lt (Nat.lt_of_lt_of_le ((((((G538.ext e548).ext e560).other w565 (Nat.ne_of_lt (Nat.lt_of_lt_of_le (G538.ext e548).lt (Nat.le_of_eq g558.symm))) (Nat.ne_of_lt (Nat.lt_of_lt_of_le (G538.ext e548).lt' (Nat.le_of_eq g558.symm)))).other w569 (Nat.ne_of_lt (Nat.lt_of_lt_of_le (G538.ext e548).lt (Nat.le_of_eq g558.symm))) (Nat.ne_of_lt (Nat.lt_of_lt_of_le (G538.ext e548).lt' (Nat.le_of_eq g558.symm)))).keep K572 (ninS (Nat.ne_of_lt (Nat.lt_of_lt_of_le G538.lt (Nat.le_of_eq g546.symm))) nin0) (ninS (Nat.ne_of_lt (Nat.lt_of_lt_of_le G538.lt' (Nat.le_of_eq g546.symm))) nin0)).keep K588 nin0 nin0).lt g601))) nin0)))) (ninS (Nat.ne_of_lt (Nat.lt_of_lt_of_le G604.lt' (Nat.le_of_eq g612.symm))) (ninS (Ne.symm (Nat.ne_of_lt (Nat.lt_of_lt_of_le ((((((((G514.keep K522 nin0 nin0).keep K534 nin0 nin0).ext e548).ext e560).other w565 (Nat.ne_of_lt (Nat.lt_of_lt_of_le (((G514.keep K522 nin0 nin0).keep K534 nin0 nin0).ext e548).lt (Nat.le_of_eq g558.symm))) (Nat.ne_of_lt (Nat.lt_of_lt_of_le (((G514.keep K522 nin0 nin0).keep K534 nin0 nin0).ext e548).lt' (Nat.le_of_eq g558.symm)))).other w569 (Nat.ne_of_lt (Nat.lt_of_lt_of_le (((G514.keep K522 nin0 nin0).keep K534 nin0 nin0).ext e548).lt (Nat.le_of_eq g558.symm))) (Nat.ne_of_lt (Nat.lt_of_lt_of_le (((G514.keep K522 nin0 nin0).keep K534 nin0 nin0).ext e548).lt' (Nat.le_of_eq g558.symm)))).keep K572 (ninS (Nat.ne_of_lt (Nat.lt_of_lt_of_le ((G514.keep K522 nin0 nin0).keep K534 nin0 nin0).lt (Nat.le_of_eq g546.symm))) nin0) (ninS (Nat.ne_of_lt (Nat.lt_of_lt_of_le ((G514.keep K522 nin0 nin0).keep K534 nin0 nin0).lt' (Nat.le_of_eq g546.symm))) nin0)).keep K588 nin0 nin0).lt y603))) (ninS (Ne.symm (Nat.ne_of_lt (Nat.lt_of_lt_of_le (((((((G526.keep K534 nin0 nin0).ext e548).ext e560).other w565 (Nat.ne_of_lt (Nat.lt_of_lt_of_le ((G526.keep K534 nin0 nin0).ext e548).lt (Nat.le_of_eq g558.symm))) (Nat.ne_of_lt (Nat.lt_of_lt_of_le ((G526.keep K534 nin0 nin0).ext e548).lt' (Nat.le_of_eq g558.symm)))).other w569 (Nat.ne_of_lt (Nat.lt_of_lt_of_le ((G526.keep K534 nin0 nin0).ext e548).lt (Nat.le_of_eq g558.symm))) (Nat.ne_of_lt (Nat.lt_of_lt_of_le ((G526.keep K534 nin0 nin0).ext e548).lt' (Nat.le_of_eq g558.symm)))).keep K572 (ninS (Nat.ne_of_lt (Nat.lt_of_lt_of_le (G526.keep K534 nin0 nin0).lt (Nat.le_of_eq g546.symm))) nin0) (ninS (Nat.ne_of_lt (Nat.lt_of_lt_of_le (G526.keep K534 nin0 nin0).lt' (Nat.le_of_eq g546.symm))) nin0)).keep K588 nin0 nin0).lt y603))) (ninS (Ne.symm (Nat.ne_of_lt (Nat.lt_of_lt_of_le ((((((G538.ext e548).ext e560).other w565 (Nat.ne_of_lt (Nat.lt_of_lt_of_le (G538.ext e548).lt (Nat.le_of_eq g558.symm))) (Nat.ne_of_lt (Nat.lt_of_lt_of_le (G538.ext e548).lt' (Nat.le_of_eq g558.symm)))).other w569 (Nat.ne_of_lt (Nat.lt_of_lt_of_le (G538.ext e548).lt (Nat.le_of_eq g558.symm))) (Nat.ne_of_lt (Nat.lt_of_lt_of_le (G538.ext e548).lt' (Nat.le_of_eq g558.symm)))).keep K572 (ninS (Nat.ne_of_lt (Nat.lt_of_lt_of_le G538.lt (Nat.le_of_eq g546.symm))) nin0) (ninS (Nat.ne_of_lt (Nat.lt_of_lt_of_le G538.lt' (Nat.le_of_eq g546.symm))) nin0)).keep K588 nin0 nin0).lt y603))) nin0))))).ext e642)
          refine W.o_special X (pc' := 207) at_204 rfl (z := (⟨"com/example/holdfast/holdfast/redis/LockKeys", "<init>", "(Ljava/lang/String;Ljava/lang/String;Ljava/lang/String;I)V"⟩ : MethodName)) rfl (hw _ (List.mem_of_getElem? (i := 29) rfl)) (hw _ (List.mem_of_getElem? (i := 30) rfl)) (hw _ (List.mem_of_getElem? (i := 28) rfl)) (hw _ (List.mem_of_getElem? (i := 31) rfl)) (by decide) (ctLI l Z a0 hw b639 b545 a586 a598 t573 t587 t599 p3 [d0, d0] [d1] [d2] cz h638 C0 hcz z641 a643 f645 f646 f647 f648 f649 (by exact Nat.succ_ne_zero _) z547 f658 (by exact Nat.succ_ne_zero _) z590 f659 (by exact Nat.succ_ne_zero _) z602 f660 (Nat.ne_of_lt (Nat.lt_of_lt_of_le G575.lt g589)) (Nat.ne_of_lt (Nat.lt_of_lt_of_le (G575.keep K588 nin0 nin0).lt g601)) (Nat.ne_of_lt (Nat.lt_of_lt_of_le G592.lt g601))) (allS ⟨(((((G575.keep K588 nin0 nin0).keep K600 nin0 nin0).ext e614).keep K622 (ninS (Nat.ne_of_lt (Nat.lt_of_lt_of_le ((G575.keep K588 nin0 nin0).keep K600 nin0 nin0).lt (Nat.le_of_eq g612.symm))) (ninS (Ne.symm (Nat.ne_of_lt (Nat.lt_of_lt_of_le ((G514.keep K522 nin0 nin0).keep K534 nin0 nin0).lt (Nat.le_of_eq g546.symm)))) (ninS (Ne.symm (Nat.ne_of_lt (Nat.lt_of_lt_of_le (G526.keep K534 nin0 nin0).lt (Nat.le_of_eq g546.symm)))) (ninS (Ne.symm (Nat.ne_of_lt (Nat.lt_of_lt_of_le G538.lt (Nat.le_of_eq g546.symm)))) nin0)))) (ninS (Nat.ne_of_lt (Nat.lt_of_lt_of_le ((G575.keep K588 nin0 nin0).keep K600 nin0 nin0).lt' (Nat.le_of_eq g612.symm))) (ninS (Ne.symm (Nat.ne_of_lt (Nat.lt_of_lt_of_le ((((((G514.keep K522 nin0 nin0).keep K534 nin0 nin0).ext e548).ext e560).other w565 (Nat.ne_of_lt (Nat.lt_of_lt_of_le (((G514.keep K522 nin0 nin0).keep K534 nin0 nin0).ext e548).lt (Nat.le_of_eq g558.symm))) (Nat.ne_of_lt (Nat.lt_of_lt_of_le (((G514.keep K522 nin0 nin0).keep K534 nin0 nin0).ext e548).lt' (Nat.le_of_eq g558.symm)))).other w569 (Nat.ne_of_lt (Nat.lt_of_lt_of_le (((G514.keep K522 nin0 nin0).keep K534 nin0 nin0).ext e548).lt (Nat.le_of_eq g558.symm))) (Nat.ne_of_lt (Nat.lt_of_lt_of_le (((G514.keep K522 nin0 nin0).keep K534 nin0 nin0).ext e548).lt' (Nat.le_of_eq g558.symm)))).lt g574))) (ninS (Ne.symm (Nat.ne_of_lt (Nat.lt_of_lt_of_le (((((G526.keep K534 nin0 nin0).ext e548).ext e560).other w565 (Nat.ne_of_lt (Nat.lt_of_lt_of_le ((G526.keep K534 nin0 nin0).ext e548).lt (Nat.le_of_eq g558.symm))) (Nat.ne_of_lt (Nat.lt_of_lt_of_le ((G526.keep K534 nin0 nin0).ext e548).lt' (Nat.le_of_eq g558.symm)))).other w569 (Nat.ne_of_lt (Nat.lt_of_lt_of_le ((G526.keep K534 nin0 nin0).ext e548).lt (Nat.le_of_eq g558.symm))) (Nat.ne_of_lt (Nat.lt_of_lt_of_le ((G526.keep K534 nin0 nin0).ext e548).lt' (Nat.le_of_eq g558.symm)))).lt g574))) (ninS (Ne.symm (Nat.ne_of_lt (Nat.lt_of_lt_of_le ((((G538.ext e548).ext e560).other w565 (Nat.ne_of_lt (Nat.lt_of_lt_of_le (G538.ext e548).lt (Nat.le_of_eq g558.symm))) (Nat.ne_of_lt (Nat.lt_of_lt_of_le (G538.ext e548).lt' (Nat.le_of_eq g558.symm)))).other w569 (Nat.ne_of_lt (Nat.lt_of_lt_of_le (G538.ext e548).lt (Nat.le_of_eq g558.symm))) (Nat.ne_of_lt (Nat.lt_of_lt_of_le (G538.ext e548).lt' (Nat.le_of_eq g558.symm)))).lt g574))) nin0))))).ext e642).lt, (Or.inl rfl)⟩ (allS ⟨((((G592.keep K600 nin0 nin0).ext e614).keep K622 (ninS (Nat.ne_of_lt (Nat.lt_of_lt_of_le (G592.keep K600 nin0 nin0).lt (Nat.le_of_eq g612.symm))) (ninS (Ne.symm (Nat.ne_of_lt (Nat.lt_of_lt_of_le (((((((G514.keep K522 nin0 nin0).keep K534 nin0 nin0).ext e548).ext e560).other w565 (Nat.ne_of_lt (Nat.lt_of_lt_of_le (((G514.keep K522 nin0 nin0).keep K534 nin0 nin0).ext e548).lt (Nat.le_of_eq g558.symm))) (Nat.ne_of_lt (Nat.lt_of_lt_of_le (((G514.keep K522 nin0 nin0).keep K534 nin0 nin0).ext e548).lt' (Nat.le_of_eq g558.symm)))).other w569 (Nat.ne_of_lt (Nat.lt_of_lt_of_le (((G514.keep K522 nin0 nin0).keep K534 nin0 nin0).ext e548).lt (Nat.le_of_eq g558.symm))) (Nat.ne_of_lt (Nat.lt_of_lt_of_le (((G514.keep K522 nin0 nin0).keep K534 nin0 nin0).ext e548).lt' (Nat.le_of_eq g558.symm)))).keep K572 (ninS (Nat.ne_of_lt (Nat.lt_of_lt_of_le ((G514.keep K522 nin0 nin0).keep K534 nin0 nin0).lt (Nat.le_of_eq g546.symm))) nin0) (ninS (Nat.ne_of_lt (Nat.lt_of_lt_of_le ((G514.keep K522 nin0 nin0).keep K534 nin0 nin0).lt' (Nat.le_of_eq g546.symm))) nin0)).lt g589))) (ninS (Ne.symm (Nat.ne_of_lt (Nat.lt_of_lt_of_le ((((((G526.keep K534 nin0 nin0).ext e548).ext e560).other w565 (Nat.ne_of_lt (Nat.lt_of_lt_of_le ((G526.keep K534 nin0 nin0).ext e548).lt (Nat.le_of_eq g558.symm))) (Nat.ne_of_lt (Nat.lt_of_lt_of_le ((G526.keep K534 nin0 nin0).ext e548).lt' (Nat.le_of_eq g558.symm)))).other w569 (Nat.ne_of_lt (Nat.lt_of_lt_of_le ((G526.keep K534 nin0 nin0).ext e548).lt (Nat.le_of_eq g558.symm))) (Nat.ne_of_lt (Nat.lt_of_lt_of_le ((G526.keep K534 nin0 nin0).ext e548).lt' (Nat.le_of_eq g558.symm)))).keep K572 (ninS (Nat.ne_of_lt (Nat.lt_of_lt_of_le (G526.keep K534 nin0 nin0).lt (Nat.le_of_eq g546.symm))) nin0) (ninS (Nat.ne_of_lt (Nat.lt_of_lt_of_le (G526.keep K534 nin0 nin0).lt' (Nat.le_of_eq g546.symm))) nin0)).lt g589))) (ninS (Ne.symm (Nat.ne_of_lt (Nat.lt_of_lt_of_le (((((G538.ext e548).ext e560).other w565 (Nat.ne_of_lt (Nat.lt_of_lt_of_le (G538.ext e548).lt (Nat.le_of_eq g558.symm))) (Nat.ne_of_lt (Nat.lt_of_lt_of_le (G538.ext e548).lt' (Nat.le_of_eq g558.symm)))).other w569 (Nat.ne_of_lt (Nat.lt_of_lt_of_le (G538.ext e548).lt (Nat.le_of_eq g558.symm))) (Nat.ne_of_lt (Nat.lt_of_lt_of_le (G538.ext e548).lt' (Nat.le_of_eq g558.symm)))).keep K572 (ninS (Nat.ne_of_lt (Nat.lt_of_lt_of_le G538.lt (Nat.le_of_eq g546.symm))) nin0) (ninS (Nat.ne_of_lt (Nat.lt_of_lt_of_le G538.lt' (Nat.le_of_eq g546.symm))) nin0)).lt g589))) nin0)))) (ninS (Nat.ne_of_lt (Nat.lt_of_lt_of_le (G592.keep K600 nin0 nin0).lt' (Nat.le_of_eq g612.symm))) (ninS (Ne.symm (Nat.ne_of_lt (Nat.lt_of_lt_of_le (((((((G514.keep K522 nin0 nin0).keep K534 nin0 nin0).ext e548).ext e560).other w565 (Nat.ne_of_lt (Nat.lt_of_lt_of_le (((G514.keep K522 nin0 nin0).keep K534 nin0 nin0).ext e548).lt (Nat.le_of_eq g558.symm))) (Nat.ne_of_lt (Nat.lt_of_lt_of_le (((G514.keep K522 nin0 nin0).keep K534 nin0 nin0).ext e548).lt' (Nat.le_of_eq g558.symm)))).other w569 (Nat.ne_of_lt (Nat.lt_of_lt_of_le (((G514.keep K522 nin0 nin0).keep K534 nin0 nin0).ext e548).lt (Nat.le_of_eq g558.symm))) (Nat.ne_of_lt (Nat.lt_of_lt_of_le (((G514.keep K522 nin0 nin0).keep K534 nin0 nin0).ext e548).lt' (Nat.le_of_eq g558.symm)))).keep K572 (ninS (Nat.ne_of_lt (Nat.lt_of_lt_of_le ((G514.keep K522 nin0 nin0).keep K534 nin0 nin0).lt (Nat.le_of_eq g546.symm))) nin0) (ninS (Nat.ne_of_lt (Nat.lt_of_lt_of_le ((G514.keep K522 nin0 nin0).keep K534 nin0 nin0).lt' (Nat.le_of_eq g546.symm))) nin0)).lt y591))) (ninS (Ne.symm (Nat.ne_of_lt (Nat.lt_of_lt_of_le ((((((G526.keep K534 nin0 nin0).ext e548).ext e560).other w565 (Nat.ne_of_lt (Nat.lt_of_lt_of_le ((G526.keep K534 nin0 nin0).ext e548).lt (Nat.le_of_eq g558.symm))) (Nat.ne_of_lt (Nat.lt_of_lt_of_le ((G526.keep K534 nin0 nin0).ext e548).lt' (Nat.le_of_eq g558.symm)))).other w569 (Nat.ne_of_lt (Nat.lt_of_lt_of_le ((G526.keep K534 nin0 nin0).ext e548).lt (Nat.le_of_eq g558.symm))) (Nat.ne_of_lt (Nat.lt_of_lt_of_le ((G526.keep K534 nin0 nin0).ext e548).lt' (Nat.le_of_eq g558.symm)))).keep K572 (ninS (Nat.ne_of_lt (Nat.lt_of_lt_of_le (G526.keep K534 nin0 nin0).lt (Nat.le_of_eq g546.symm))) nin0) (ninS (Nat.ne_of_lt (Nat.lt_of_lt_of_le (G526.keep K534 nin0 nin0).lt' (Nat.le_of_eq g546.symm))) nin0)).lt y591))) (ninS (Ne.symm (Nat.ne_of_lt (Nat.lt_of_lt_of_le (((((G538.ext e548).ext e560).other w565 (Nat.ne_of_lt (Nat.lt_of_lt_of_le (G538.ext e548).lt (Nat.le_of_eq g558.symm))) (Nat.ne_of_lt (Nat.lt_of_lt_of_le (G538.ext e548).lt' (Nat.le_of_eq g558.symm)))).other w569 (Nat.ne_of_lt (Nat.lt_of_lt_of_le (G538.ext e548).lt (Nat.le_of_eq g558.symm))) (Nat.ne_of_lt (Nat.lt_of_lt_of_le (G538.ext e548).lt' (Nat.le_of_eq g558.symm)))).keep K572 (ninS (Nat.ne_of_lt (Nat.lt_of_lt_of_le G538.lt (Nat.le_of_eq g546.symm))) nin0) (ninS (Nat.ne_of_lt (Nat.lt_of_lt_of_le G538.lt' (Nat.le_of_eq g546.symm))) nin0)).lt y591))) nin0))))).ext e642).lt, (Or.inl rfl)⟩ (allS ⟨(((G604.ext e614).keep K622 (ninS (Nat.ne_of_lt (Nat.lt_of_lt_of_le G604.lt (Nat.le_of_eq g612.symm))) (ninS (Ne.symm (Nat.ne_of_lt (Nat.lt_of_lt_of_le ((((((((G514.keep K522 nin0 nin0).keep K534 nin0 nin0).ext e548).ext e560).other w565 (Nat.ne_of_lt (Nat.lt_of_lt_of_le (((G514.keep K522 nin0 nin0).keep K534 nin0 nin0).ext e548).lt (Nat.le_of_eq g558.symm))) (Nat.ne_of_lt (Nat.lt_of_lt_of_le (((G514.keep K522 nin0 nin0).keep K534 nin0 nin0).ext e548).lt' (Nat.le_of_eq g558.symm)))).other w569 (Nat.ne_of_lt (Nat.lt_of_lt_of_le (((G514.keep K522 nin0 nin0).keep K534 nin0 nin0).ext e548).lt (Nat.le_of_eq g558.symm))) (Nat.ne_of_lt (Nat.lt_of_lt_of_le (((G514.keep K522 nin0 nin0).keep K534 nin0 nin0).ext e548).lt' (Nat.le_of_eq g558.symm)))).keep K572 (ninS (Nat.ne_of_lt (Nat.lt_of_lt_of_le ((G514.keep K522 nin0 nin0).keep K534 nin0 nin0).lt (Nat.le_of_eq g546.symm))) nin0) (ninS (Nat.ne_of_lt (Nat.lt_of_lt_of_le ((G514.keep K522 nin0 nin0).keep K534 nin0 nin0).lt' (Nat.le_of_eq g546.symm))) nin0)).keep K588 nin0 nin0).lt g601))) (ninS (Ne.symm (Nat.ne_of_lt (Nat.lt_of_lt_of_le (((((((G526.keep K534 nin0 nin0).ext e548).ext e560).other w565 (Nat.ne_of_lt (Nat.lt_of_lt_of_le ((G526.keep K534 nin0 nin0).ext e548).lt (Nat.le_of_eq g558.symm))) (Nat.ne_of_lt (Nat.lt_of_lt_of_le ((G526.keep K534 nin0 nin0).ext e548).lt' (Nat.le_of_eq g558.symm)))).other w569 (Nat.ne_of_lt (Nat.lt_of_lt_of_le ((G526.keep K534 nin0 nin0).ext e548).lt (Nat.le_of_eq g558.symm))) (Nat.ne_of_lt (Nat.lt_of_lt_of_le ((G526.keep K534 nin0 nin0).ext e548).lt' (Nat.le_of_eq g558.symm)))).keep K572 (ninS (Nat.ne_of_lt (Nat.lt_of_lt_of_le (G526.keep K534 nin0 nin0).lt (Nat.le_of_eq g546.symm))) nin0) (ninS (Nat.ne_of_lt (Nat.lt_of_lt_of_le (G526.keep K534 nin0 nin0).lt' (Nat.le_of_eq g546.symm))) nin0)).keep K588 nin0 nin0).lt g601))) (ninS (Ne.symm (Nat.ne_of_lt (Nat.lt_of_lt_of_le ((((((G538.ext e548).ext e560).other w565 (Nat.ne_of_lt (Nat.lt_of_lt_of_le (G538.ext e548).lt (Nat.le_of_eq g558.symm))) (Nat.ne_of_lt (Nat.lt_of_lt_of_le (G538.ext e548).lt' (Nat.le_of_eq g558.symm)))).other w569 (Nat.ne_of_lt (Nat.lt_of_lt_of_le (G538.ext e548).lt (Nat.le_of_eq g558.symm))) (Nat.ne_of_lt (Nat.lt_of_lt_of_le (G538.ext e548).lt' (Nat.le_of_eq g558.symm)))).keep K572 (ninS (Nat.ne_of_lt (Nat.lt_of_lt_of_le G538.lt (Nat.le_of_eq g546.symm))) nin0) (ninS (Nat.ne_of_lt (Nat.lt_of_lt_of_le G538.lt' (Nat.le_of_eq g546.symm))) nin0)).keep K588 nin0 nin0).lt g601))) nin0)))) (ninS (Nat.ne_of_lt (Nat.lt_of_lt_of_le G604.lt' (Nat.le_of_eq g612.symm))) (ninS (Ne.symm (Nat.ne_of_lt (Nat.lt_of_lt_of_le ((((((((G514.keep K522 nin0 nin0).keep K534 nin0 nin0).ext e548).ext e560).other w565 (Nat.ne_of_lt (Nat.lt_of_lt_of_le (((G514.keep K522 nin0 nin0).keep K534 nin0 nin0).ext e548).lt (Nat.le_of_eq g558.symm))) (Nat.ne_of_lt (Nat.lt_of_lt_of_le (((G514.keep K522 nin0 nin0).keep K534 nin0 nin0).ext e548).lt' (Nat.le_of_eq g558.symm)))).other w569 (Nat.ne_of_lt (Nat.lt_of_lt_of_le (((G514.keep K522 nin0 nin0).keep K534 nin0 nin0).ext e548).lt (Nat.le_of_eq g558.symm))) (Nat.ne_of_lt (Nat.lt_of_lt_of_le (((G514.keep K522 nin0 nin0).keep K534 nin0 nin0).ext e548).lt' (Nat.le_of_eq g558.symm)))).keep K572 (ninS (Nat.ne_of_lt (Nat.lt_of_lt_of_le ((G514.keep K522 nin0 nin0).keep K534 nin0 nin0).lt (Nat.le_of_eq g546.symm))) nin0) (ninS (Nat.ne_of_lt (Nat.lt_of_lt_of_le ((G514.keep K522 nin0 nin0).keep K534 nin0 nin0).lt' (Nat.le_of_eq g546.symm))) nin0)).keep K588 nin0 nin0).lt y603))) (ninS (Ne.symm (Nat.ne_of_lt (Nat.lt_of_lt_of_le (((((((G526.keep K534 nin0 nin0).ext e548).ext e560).other w565 (Nat.ne_of_lt (Nat.lt_of_lt_of_le ((G526.keep K534 nin0 nin0).ext e548).lt (Nat.le_of_eq g558.symm))) (Nat.ne_of_lt (Nat.lt_of_lt_of_le ((G526.keep K534 nin0 nin0).ext e548).lt' (Nat.le_of_eq g558.symm)))).other w569 (Nat.ne_of_lt (Nat.lt_of_lt_of_le ((G526.keep K534 nin0 nin0).ext e548).lt (Nat.le_of_eq g558.symm))) (Nat.ne_of_lt (Nat.lt_of_lt_of_le ((G526.keep K534 nin0 nin0).ext e548).lt' (Nat.le_of_eq g558.symm)))).keep K572 (ninS (Nat.ne_of_lt (Nat.lt_of_lt_of_le (G526.keep K534 nin0 nin0).lt (Nat.le_of_eq g546.symm))) nin0) (ninS (Nat.ne_of_lt (Nat.lt_of_lt_of_le (G526.keep K534 nin0 nin0).lt' (Nat.le_of_eq g546.symm))) nin0)).keep K588 nin0 nin0).lt y603))) (ninS (Ne.symm (Nat.ne_of_lt (Nat.lt_of_lt_of_le ((((((G538.ext e548).ext e560).other w565 (Nat.ne_of_lt (Nat.lt_of_lt_of_le (G538.ext e548).lt (Nat.le_of_eq g558.symm))) (Nat.ne_of_lt (Nat.lt_of_lt_of_le (G538.ext e548).lt' (Nat.le_of_eq g558.symm)))).other w569 (Nat.ne_of_lt (Nat.lt_of_lt_of_le (G538.ext e548).lt (Nat.le_of_eq g558.symm))) (Nat.ne_of_lt (Nat.lt_of_lt_of_le (G538.ext e548).lt' (Nat.le_of_eq g558.symm)))).keep K572 (ninS (Nat.ne_of_lt (Nat.lt_of_lt_of_le G538.lt (Nat.le_of_eq g546.symm))) nin0) (ninS (Nat.ne_of_lt (Nat.lt_of_lt_of_le G538.lt' (Nat.le_of_eq g546.symm))) nin0)).keep K588 nin0 nin0).lt y603))) nin0))))).ext e642).lt, (Or.inl rfl)⟩ all0))) [(.ref b545), (.ref a586), (.ref a598), (.int p3)] rfl (rest := [(.ref b639)]) rfl pd__Ljava_lang_String_Ljava_lang_String_Ljava_lang_String_I_V rfl rfl (by decide) (by exact Nat.le_of_ble_eq_true rfl) (by decide) (by decide) (fun v661 T q662 => ?_)
          obtain ⟨h665, S663, ⟨rfl, K650, E651, F652, F653, F654, G655, G656, G657⟩, X664⟩ := q662
          have X := X664 [] all0
          show W.Go _ _ _ _ _ _ _ _ _ _ _ (mkF m 207 #[.val (.int p0), .val (.int p1), .val (.int p2), .val (.int p3), .val (.int c0), .val (.int c1), .val (.int c2), .val (.int d0), .val (.int d1), .val (.int d2), .val (.int (1 : Int32)), .val (.ref a508), .val (.ref a520), .val (.ref a532), .val (.ref b545), .val (.ref a586), .val (.ref a598), .val (.ref b611), .unset, .unset, .unset] [(.ref b639)])
          refine W.o_astore X (pc' := 209) at_207 rfl (L' := #[.val (.int p0), .val (.int p1), .val (.int p2), .val (.int p3), .val (.int c0), .val (.int c1), .val (.int c2), .val (.int d0), .val (.int d1), .val (.int d2), .val (.int (1 : Int32)), .val (.ref a508), .val (.ref a520), .val (.ref a532), .val (.ref b545), .val (.ref a586), .val (.ref a598), .val (.ref b611), .val (.ref b639), .unset, .unset]) rfl rfl ?_
          refine W.o_iloadN X (pc' := 210) at_209 rfl rfl ?_
          refine W.o_iconst X (3 : Int32) (pc' := 211) at_210 rfl rfl ?_
          refine W.o_iushr X (pc' := 212) at_211 rfl ?_
          refine W.o_iconst X (3 : Int32) (pc' := 213) at_212 rfl rfl ?_
          refine W.o_iand X (pc' := 214) at_213 rfl ?_
          generalize hu : (((p2.toUInt32 >>> ((3 : Int32) &&& 31).toUInt32).toInt32) &&& (3 : Int32)) = u
          refine W.o_istore X (pc' := 216) at_214 rfl (L' := #[.val (.int p0), .val (.int p1), .val (.int p2), .val (.int p3), .val (.int c0), .val (.int c1), .val (.int c2), .val (.int d0), .val (.int d1), .val (.int d2), .val (.int (1 : Int32)), .val (.ref a508), .val (.ref a520), .val (.ref a532), .val (.ref b545), .val (.ref a586), .val (.ref a598), .val (.ref b611), .val (.ref b639), .val (.int u), .unset]) rfl ?_
          refine W.o_iload X (pc' := 218) at_216 rfl rfl ?_
          refine W.o_iconst X (1 : Int32) (pc' := 219) at_218 rfl rfl ?_
          refine W.o_if_icmpne X (pt := 237) (pf := 222) at_219 ⟨by decide, by decide⟩ rfl (fun hu1 => ?_) (fun hu1 => ?_)
          · refine W.o_iload X (pc' := 239) at_237 rfl rfl ?_
            refine W.o_iconst X (2 : Int32) (pc' := 240) at_239 rfl rfl ?_
            refine W.o_if_icmpne X (pt := 259) (pf := 243) at_240 ⟨by decide, by decide⟩ rfl (fun hu2 => ?_) (fun hu2 => ?_)
            · refine W.o_iload X (pc' := 261) at_259 rfl rfl ?_
              refine W.o_iconst X (3 : Int32) (pc' := 262) at_261 rfl rfl ?_
              refine W.o_if_icmpne X (pt := 273) (pf := 265) at_262 ⟨by decide, by decide⟩ rfl (fun hu3 => ?_) (fun hu3 => ?_)
              · refine W.o_iload X (pc' := 275) at_273 rfl rfl ?_
                refine W.o_ifne X (pt := 303) (pf := 278) at_275 ⟨by decide, by decide⟩ rfl (fun _ => ?_) (fun hc => absurd hc (by decide))
                refine W.o_iconst X (0 : Int32) (pc' := 304) at_303 rfl rfl ?_
                refine W.o_istore X (pc' := 306) at_304 rfl (L' := #[.val (.int p0), .val (.int p1), .val (.int p2), .val (.int p3), .val (.int c0), .val (.int c1), .val (.int c2), .val (.int d0), .val (.int d1), .val (.int d2), .val (.int (1 : Int32)), .val (.ref a508), .val (.ref a520), .val (.ref a532), .val (.ref b545), .val (.ref a586), .val (.ref a598), .val (.ref b611), .val (.ref b639), .val (.int u), .val (.int (0 : Int32))]) rfl ?_
                refine W.o_aload X (pc' := 308) at_306 rfl rfl rfl ?_
                refine W.o_aload X (pc' := 310) at_308 rfl rfl rfl ?_
                have f691 := ((E623.ext e642).keep K650)
                have f692 := ((F624.ext e642).keep K650 (ninS (Nat.ne_of_lt (Nat.lt_of_lt_of_le E623.lt (Nat.le_of_eq g640.symm))) (ninS (Ne.symm (Nat.ne_of_lt (Nat.lt_of_lt_of_le ((G575.keep K588 nin0 nin0).keep K600 nin0 nin0).lt (Nat.le_of_eq g612.symm)))) (ninS (Ne.symm (Nat.ne_of_lt (Nat.lt_of_lt_of_le (G592.keep K600 nin0 nin0).lt (Nat.le_of_eq g612.symm)))) (ninS (Ne.symm (Nat.ne_of_lt (Nat.lt_of_lt_of_le G604.lt (Nat.le_of_eq g612.symm)))) nin0)))))
                have f693 := ((F625.ext e642).keep K650 (ninS (Nat.ne_of_lt (Nat.lt_of_lt_of_le E623.lt (Nat.le_of_eq g640.symm))) (ninS (Ne.symm (Nat.ne_of_lt (Nat.lt_of_lt_of_le ((G575.keep K588 nin0 nin0).keep K600 nin0 nin0).lt (Nat.le_of_eq g612.symm)))) (ninS (Ne.symm (Nat.ne_of_lt (Nat.lt_of_lt_of_le (G592.keep K600 nin0 nin0).lt (Nat.le_of_eq g612.symm)))) (ninS (Ne.symm (Nat.ne_of_lt (Nat.lt_of_lt_of_le G604.lt (Nat.le_of_eq g612.symm)))) nin0)))))
                have f694 := ((F626.ext e642).keep K650 (ninS (Nat.ne_of_lt (Nat.lt_of_lt_of_le E623.lt (Nat.le_of_eq g640.symm))) (ninS (Ne.symm (Nat.ne_of_lt (Nat.lt_of_lt_of_le ((G575.keep K588 nin0 nin0).keep K600 nin0 nin0).lt (Nat.le_of_eq g612.symm)))) (ninS (Ne.symm (Nat.ne_of_lt (Nat.lt_of_lt_of_le (G592.keep K600 nin0 nin0).lt (Nat.le_of_eq g612.symm)))) (ninS (Ne.symm (Nat.ne_of_lt (Nat.lt_of_lt_of_le G604.lt (Nat.le_of_eq g612.symm)))) nin0)))))
                have f695 := ((G627.ext e642).keep K650 (ninS (Nat.ne_of_lt (Nat.lt_of_lt_of_le G627.lt (Nat.le_of_eq g640.symm))) (ninS (Nat.ne_of_lt (Nat.lt_of_lt_of_le ((G514.keep K522 nin0 nin0).keep K534 nin0 nin0).lt (Nat.le_of_eq g546.symm))) (ninS (Nat.ne_of_lt (Nat.lt_of_lt_of_le (((((((G514.keep K522 nin0 nin0).keep K534 nin0 nin0).ext e548).ext e560).other w565 (Nat.ne_of_lt (Nat.lt_of_lt_of_le (((G514.keep K522 nin0 nin0).keep K534 nin0 nin0).ext e548).lt (Nat.le_of_eq g558.symm))) (Nat.ne_of_lt (Nat.lt_of_lt_of_le (((G514.keep K522 nin0 nin0).keep K534 nin0 nin0).ext e548).lt' (Nat.le_of_eq g558.symm)))).other w569 (Nat.ne_of_lt (Nat.lt_of_lt_of_le (((G514.keep K522 nin0 nin0).keep K534 nin0 nin0).ext e548).lt (Nat.le_of_eq g558.symm))) (Nat.ne_of_lt (Nat.lt_of_lt_of_le (((G514.keep K522 nin0 nin0).keep K534 nin0 nin0).ext e548).lt' (Nat.le_of_eq g558.symm)))).keep K572 (ninS (Nat.ne_of_lt (Nat.lt_of_lt_of_le ((G514.keep K522 nin0 nin0).keep K534 nin0 nin0).lt (Nat.le_of_eq g546.symm))) nin0) (ninS (Nat.ne_of_lt (Nat.lt_of_lt_of_le ((G514.keep K522 nin0 nin0).keep K534 nin0 nin0).lt' (Nat.le_of_eq g546.symm))) nin0)).lt g589)) (ninS (Nat.ne_of_lt (Nat.lt_of_lt_of_le ((((((((G514.keep K522 nin0 nin0).keep K534 nin0 nin0).ext e548).ext e560).other w565 (Nat.ne_of_lt (Nat.lt_of_lt_of_le (((G514.keep K522 nin0 nin0).keep K534 nin0 nin0).ext e548).lt (Nat.le_of_eq g558.symm))) (Nat.ne_of_lt (Nat.lt_of_lt_of_le (((G514.keep K522 nin0 nin0).keep K534 nin0 nin0).ext e548).lt' (Nat.le_of_eq g558.symm)))).other w569 (Nat.ne_of_lt (Nat.lt_of_lt_of_le (((G514.keep K522 nin0 nin0).keep K534 nin0 nin0).ext e548).lt (Nat.le_of_eq g558.symm))) (Nat.ne_of_lt (Nat.lt_of_lt_of_le (((G514.keep K522 nin0 nin0).keep K534 nin0 nin0).ext e548).lt' (Nat.le_of_eq g558.symm)))).keep K572 (ninS (Nat.ne_of_lt (Nat.lt_of_lt_of_le ((G514.keep K522 nin0 nin0).keep K534 nin0 nin0).lt (Nat.le_of_eq g546.symm))) nin0) (ninS (Nat.ne_of_lt (Nat.lt_of_lt_of_le ((G514.keep K522 nin0 nin0).keep K534 nin0 nin0).lt' (Nat.le_of_eq g546.symm))) nin0)).keep K588 nin0 nin0).lt g601)) nin0)))) (ninS (Nat.ne_of_lt (Nat.lt_of_lt_of_le G627.lt' (Nat.le_of_eq g640.symm))) (ninS (Nat.ne_of_lt (Nat.lt_of_lt_of_le ((G514.keep K522 nin0 nin0).keep K534 nin0 nin0).lt' (Nat.le_of_eq g546.symm))) (ninS (Nat.ne_of_lt (Nat.lt_of_lt_of_le (((((((G514.keep K522 nin0 nin0).keep K534 nin0 nin0).ext e548).ext e560).other w565 (Nat.ne_of_lt (Nat.lt_of_lt_of_le (((G514.keep K522 nin0 nin0).keep K534 nin0 nin0).ext e548).lt (Nat.le_of_eq g558.symm))) (Nat.ne_of_lt (Nat.lt_of_lt_of_le (((G514.keep K522 nin0 nin0).keep K534 nin0 nin0).ext e548).lt' (Nat.le_of_eq g558.symm)))).other w569 (Nat.ne_of_lt (Nat.lt_of_lt_of_le (((G514.keep K522 nin0 nin0).keep K534 nin0 nin0).ext e548).lt (Nat.le_of_eq g558.symm))) (Nat.ne_of_lt (Nat.lt_of_lt_of_le (((G514.keep K522 nin0 nin0).keep K534 nin0 nin0).ext e548).lt' (Nat.le_of_eq g558.symm)))).keep K572 (ninS (Nat.ne_of_lt (Nat.lt_of_lt_of_le ((G514.keep K522 nin0 nin0).keep K534 nin0 nin0).lt (Nat.le_of_eq g546.symm))) nin0) (ninS (Nat.ne_of_lt (Nat.lt_of_lt_of_le ((G514.keep K522 nin0 nin0).keep K534 nin0 nin0).lt' (Nat.le_of_eq g546.symm))) nin0)).lt' g589)) (ninS (Nat.ne_of_lt (Nat.lt_of_lt_of_le ((((((((G514.keep K522 nin0 nin0).keep K534 nin0 nin0).ext e548).ext e560).other w565 (Nat.ne_of_lt (Nat.lt_of_lt_of_le (((G514.keep K522 nin0 nin0).keep K534 nin0 nin0).ext e548).lt (Nat.le_of_eq g558.symm))) (Nat.ne_of_lt (Nat.lt_of_lt_of_le (((G514.keep K522 nin0 nin0).keep K534 nin0 nin0).ext e548).lt' (Nat.le_of_eq g558.symm)))).other w569 (Nat.ne_of_lt (Nat.lt_of_lt_of_le (((G514.keep K522 nin0 nin0).keep K534 nin0 nin0).ext e548).lt (Nat.le_of_eq g558.symm))) (Nat.ne_of_lt (Nat.lt_of_lt_of_le (((G514.keep K522 nin0 nin0).keep K534 nin0 nin0).ext e548).lt' (Nat.le_of_eq g558.symm)))).keep K572 (ninS (Nat.ne_of_lt (Nat.lt_of_lt_of_le ((G514.keep K522 nin0 nin0).keep K534 nin0 nin0).lt (Nat.le_of_eq g546.symm))) nin0) (ninS (Nat.ne_of_lt (Nat.lt_of_lt_of_le ((G514.keep K522 nin0 nin0).keep K534 nin0 nin0).lt' (Nat.le_of_eq g546.symm))) nin0)).keep K588 nin0 nin0).lt' g601)) nin0)))))
                have f696 := ((G628.ext e642).keep K650 (ninS (Nat.ne_of_lt (Nat.lt_of_lt_of_le G628.lt (Nat.le_of_eq g640.symm))) (ninS (Nat.ne_of_lt (Nat.lt_of_lt_of_le (G526.keep K534 nin0 nin0).lt (Nat.le_of_eq g546.symm))) (ninS (Nat.ne_of_lt (Nat.lt_of_lt_of_le ((((((G526.keep K534 nin0 nin0).ext e548).ext e560).other w565 (Nat.ne_of_lt (Nat.lt_of_lt_of_le ((G526.keep K534 nin0 nin0).ext e548).lt (Nat.le_of_eq g558.symm))) (Nat.ne_of_lt (Nat.lt_of_lt_of_le ((G526.keep K534 nin0 nin0).ext e548).lt' (Nat.le_of_eq g558.symm)))).other w569 (Nat.ne_of_lt (Nat.lt_of_lt_of_le ((G526.keep K534 nin0 nin0).ext e548).lt (Nat.le_of_eq g558.symm))) (Nat.ne_of_lt (Nat.lt_of_lt_of_le ((G526.keep K534 nin0 nin0).ext e548).lt' (Nat.le_of_eq g558.symm)))).keep K572 (ninS (Nat.ne_of_lt (Nat.lt_of_lt_of_le (G526.keep K534 nin0 nin0).lt (Nat.le_of_eq g546.symm))) nin0) (ninS (Nat.ne_of_lt (Nat.lt_of_lt_of_le (G526.keep K534 nin0 nin0).lt' (Nat.le_of_eq g546.symm))) nin0)).lt g589)) (ninS (Nat.ne_of_lt (Nat.lt_of_lt_of_le (((((((G526.keep K534 nin0 nin0).ext e548).ext e560).other w565 (Nat.ne_of_lt (Nat.lt_of_lt_of_le ((G526.keep K534 nin0 nin0).ext e548).lt (Nat.le_of_eq g558.symm))) (Nat.ne_of_lt (Nat.lt_of_lt_of_le ((G526.keep K534 nin0 nin0).ext e548).lt' (Nat.le_of_eq g558.symm)))).other w569 (Nat.ne_of_lt (Nat.lt_of_lt_of_le ((G526.keep K534 nin0 nin0).ext e548).lt (Nat.le_of_eq g558.symm))) (Nat.ne_of_lt (Nat.lt_of_lt_of_le ((G526.keep K534 nin0 nin0).ext e548).lt' (Nat.le_of_eq g558.symm)))).keep K572 (ninS (Nat.ne_of_lt (Nat.lt_of_lt_of_le (G526.keep K534 nin0 nin0).lt (Nat.le_of_eq g546.symm))) nin0) (ninS (Nat.ne_of_lt (Nat.lt_of_lt_of_le (G526.keep K534 nin0 nin0).lt' (Nat.le_of_eq g546.symm))) nin0)).keep K588 nin0 nin0).lt g601)) nin0)))) (ninS (Nat.ne_of_lt (Nat.lt_of_lt_of_le G628.lt' (Nat.le_of_eq g640.symm))) (ninS (Nat.ne_of_lt (Nat.lt_of_lt_of_le (G526.keep K534 nin0 nin0).lt' (Nat.le_of_eq g546.symm))) (ninS (Nat.ne_of_lt (Nat.lt_of_lt_of_le ((((((G526.keep K534 nin0 nin0).ext e548).ext e560).other w565 (Nat.ne_of_lt (Nat.lt_of_lt_of_le ((G526.keep K534 nin0 nin0).ext e548).lt (Nat.le_of_eq g558.symm))) (Nat.ne_of_lt (Nat.lt_of_lt_of_le ((G526.keep K534 nin0 nin0).ext e548).lt' (Nat.le_of_eq g558.symm)))).other w569 (Nat.ne_of_lt (Nat.lt_of_lt_of_le ((G526.keep K534 nin0 nin0).ext e548).lt (Nat.le_of_eq g558.symm))) (Nat.ne_of_lt (Nat.lt_of_lt_of_le ((G526.keep K534 nin0 nin0).ext e548).lt' (Nat.le_of_eq g558.symm)))).keep K572 (ninS (Nat.ne_of_lt (Nat.lt_of_lt_of_le (G526.keep K534 nin0 nin0).lt (Nat.le_of_eq g546.symm))) nin0) (ninS (Nat.ne_of_lt (Nat.lt_of_lt_of_le (G526.keep K534 nin0 nin0).lt' (Nat.le_of_eq g546.symm))) nin0)).lt' g589)) (ninS (Nat.ne_of_lt (Nat.lt_of_lt_of_le (((((((G526.keep K534 nin0 nin0).ext e548).ext e560).other w565 (Nat.ne_of_lt (Nat.lt_of_lt_of_le ((G526.keep K534 nin0 nin0).ext e548).lt (Nat.le_of_eq g558.symm))) (Nat.ne_of_lt (Nat.lt_of_lt_of_le ((G526.keep K534 nin0 nin0).ext e548).lt' (Nat.le_of_eq g558.symm)))).other w569 (Nat.ne_of_lt (Nat.lt_of_lt_of_le ((G526.keep K534 nin0 nin0).ext e548).lt (Nat.le_of_eq g558.symm))) (Nat.ne_of_lt (Nat.lt_of_lt_of_le ((G526.keep K534 nin0 nin0).ext e548).lt' (Nat.le_of_eq g558.symm)))).keep K572 (ninS (Nat.ne_of_lt (Nat.lt_of_lt_of_le (G526.keep K534 nin0 nin0).lt (Nat.le_of_eq g546.symm))) nin0) (ninS (Nat.ne_of_lt (Nat.lt_of_lt_of_le (G526.keep K534 nin0 nin0).lt' (Nat.le_of_eq g546.symm))) nin0)).keep K588 nin0 nin0).lt' g601)) nin0)))))
                have f697 := ((G629.ext e642).keep K650 (ninS (Nat.ne_of_lt (Nat.lt_of_lt_of_le G629.lt (Nat.le_of_eq g640.symm))) (ninS (Nat.ne_of_lt (Nat.lt_of_lt_of_le G538.lt (Nat.le_of_eq g546.symm))) (ninS (Nat.ne_of_lt (Nat.lt_of_lt_of_le (((((G538.ext e548).ext e560).other w565 (Nat.ne_of_lt (Nat.lt_of_lt_of_le (G538.ext e548).lt (Nat.le_of_eq g558.symm))) (Nat.ne_of_lt (Nat.lt_of_lt_of_le (G538.ext e548).lt' (Nat.le_of_eq g558.symm)))).other w569 (Nat.ne_of_lt (Nat.lt_of_lt_of_le (G538.ext e548).lt (Nat.le_of_eq g558.symm))) (Nat.ne_of_lt (Nat.lt_of_lt_of_le (G538.ext e548).lt' (Nat.le_of_eq g558.symm)))).keep K572 (ninS (Nat.ne_of_lt (Nat.lt_of_lt_of_le G538.lt (Nat.le_of_eq g546.symm))) nin0) (ninS (Nat.ne_of_lt (Nat.lt_of_lt_of_le G538.lt' (Nat.le_of_eq g546.symm))) nin0)).lt g589)) (ninS (Nat.ne_of_lt (Nat.lt_of_lt_of_le ((((((G538.ext e548).ext e560).other w565 (Nat.ne_of_lt (Nat.lt_of_lt_of_le (G538.ext e548).lt (Nat.le_of_eq g558.symm))) (Nat.ne_of_lt (Nat.lt_of_lt_of_le (G538.ext e548).lt' (Nat.le_of_eq g558.symm)))).other w569 (Nat.ne_of_lt (Nat.lt_of_lt_of_le (G538.ext e548).lt (Nat.le_of_eq g558.symm))) (Nat.ne_of_lt (Nat.lt_of_lt_of_le (G538.ext e548).lt' (Nat.le_of_eq g558.symm)))).keep K572 (ninS (Nat.ne_of_lt (Nat.lt_of_lt_of_le G538.lt (Nat.le_of_eq g546.symm))) nin0) (ninS (Nat.ne_of_lt (Nat.lt_of_lt_of_le G538.lt' (Nat.le_of_eq g546.symm))) nin0)).keep K588 nin0 nin0).lt g601)) nin0)))) (ninS (Nat.ne_of_lt (Nat.lt_of_lt_of_le G629.lt' (Nat.le_of_eq g640.symm))) (ninS (Nat.ne_of_lt (Nat.lt_of_lt_of_le G538.lt' (Nat.le_of_eq g546.symm))) (ninS (Nat.ne_of_lt (Nat.lt_of_lt_of_le (((((G538.ext e548).ext e560).other w565 (Nat.ne_of_lt (Nat.lt_of_lt_of_le (G538.ext e548).lt (Nat.le_of_eq g558.symm))) (Nat.ne_of_lt (Nat.lt_of_lt_of_le (G538.ext e548).lt' (Nat.le_of_eq g558.symm)))).other w569 (Nat.ne_of_lt (Nat.lt_of_lt_of_le (G538.ext e548).lt (Nat.le_of_eq g558.symm))) (Nat.ne_of_lt (Nat.lt_of_lt_of_le (G538.ext e548).lt' (Nat.le_of_eq g558.symm)))).keep K572 (ninS (Nat.ne_of_lt (Nat.lt_of_lt_of_le G538.lt (Nat.le_of_eq g546.symm))) nin0) (ninS (Nat.ne_of_lt (Nat.lt_of_lt_of_le G538.lt' (Nat.le_of_eq g546.symm))) nin0)).lt' g589)) (ninS (Nat.ne_of_lt (Nat.lt_of_lt_of_le ((((((G538.ext e548).ext e560).other w565 (Nat.ne_of_lt (Nat.lt_of_lt_of_le (G538.ext e548).lt (Nat.le_of_eq g558.symm))) (Nat.ne_of_lt (Nat.lt_of_lt_of_le (G538.ext e548).lt' (Nat.le_of_eq g558.symm)))).other w569 (Nat.ne_of_lt (Nat.lt_of_lt_of_le (G538.ext e548).lt (Nat.le_of_eq g558.symm))) (Nat.ne_of_lt (Nat.lt_of_lt_of_le (G538.ext e548).lt' (Nat.le_of_eq g558.symm)))).keep K572 (ninS (Nat.ne_of_lt (Nat.lt_of_lt_of_le G538.lt (Nat.le_of_eq g546.symm))) nin0) (ninS (Nat.ne_of_lt (Nat.lt_of_lt_of_le G538.lt' (Nat.le_of_eq g546.symm))) nin0)).keep K588 nin0 nin0).lt' g601)) nin0)))))
                refine W.o_virtual X (pc' := 313) at_310 rfl (u := (⟨"com/example/holdfast/holdfast/redis/LockKeys", "equals", "(Ljava/lang/Object;)Z"⟩ : MethodName)) (z := (⟨"com/example/holdfast/holdfast/redis/LockKeys", "equals", "(Ljava/lang/Object;)Z"⟩ : MethodName)) (hw _ (List.mem_of_getElem? (i := 81) rfl)) (hw _ (List.mem_of_getElem? (i := 82) rfl)) (fun s' hZ => notFace_of_selects (args := #[]) (mvT hZ (hw _ (List.mem_of_getElem? (i := 84) rfl)))) (hw _ (List.mem_of_getElem? (i := 84) rfl)) (hw _ (List.mem_of_getElem? (i := 83) rfl)) (hw _ (List.mem_of_getElem? (i := 28) rfl)) (hw _ (List.mem_of_getElem? (i := 85) rfl)) (by decide) f691 (ctEqL l Z a0 hw b611 b639 a508 a520 a532 b545 a586 a598 t509 t521 t533 t573 t587 t599 [c0] [c1] [c2] [d0, d0] [d1] [d2] cz h665 C0 hcz f691 E651 f692 f693 f694 F652 F653 F654 (fun q => absurd q (Nat.ne_of_lt (Nat.lt_of_lt_of_le ((G514.keep K522 nin0 nin0).keep K534 nin0 nin0).lt (Nat.le_of_eq g546.symm)))) f695 G655 (fun q => absurd q (Nat.ne_of_lt (Nat.lt_of_lt_of_le ((((((G526.keep K534 nin0 nin0).ext e548).ext e560).other w565 (Nat.ne_of_lt (Nat.lt_of_lt_of_le ((G526.keep K534 nin0 nin0).ext e548).lt (Nat.le_of_eq g558.symm))) (Nat.ne_of_lt (Nat.lt_of_lt_of_le ((G526.keep K534 nin0 nin0).ext e548).lt' (Nat.le_of_eq g558.symm)))).other w569 (Nat.ne_of_lt (Nat.lt_of_lt_of_le ((G526.keep K534 nin0 nin0).ext e548).lt (Nat.le_of_eq g558.symm))) (Nat.ne_of_lt (Nat.lt_of_lt_of_le ((G526.keep K534 nin0 nin0).ext e548).lt' (Nat.le_of_eq g558.symm)))).keep K572 (ninS (Nat.ne_of_lt (Nat.lt_of_lt_of_le (G526.keep K534 nin0 nin0).lt (Nat.le_of_eq g546.symm))) nin0) (ninS (Nat.ne_of_lt (Nat.lt_of_lt_of_le (G526.keep K534 nin0 nin0).lt' (Nat.le_of_eq g546.symm))) nin0)).lt g589))) f696 G656 (fun q => absurd q (Nat.ne_of_lt (Nat.lt_of_lt_of_le ((((((G538.ext e548).ext e560).other w565 (Nat.ne_of_lt (Nat.lt_of_lt_of_le (G538.ext e548).lt (Nat.le_of_eq g558.symm))) (Nat.ne_of_lt (Nat.lt_of_lt_of_le (G538.ext e548).lt' (Nat.le_of_eq g558.symm)))).other w569 (Nat.ne_of_lt (Nat.lt_of_lt_of_le (G538.ext e548).lt (Nat.le_of_eq g558.symm))) (Nat.ne_of_lt (Nat.lt_of_lt_of_le (G538.ext e548).lt' (Nat.le_of_eq g558.symm)))).keep K572 (ninS (Nat.ne_of_lt (Nat.lt_of_lt_of_le G538.lt (Nat.le_of_eq g546.symm))) nin0) (ninS (Nat.ne_of_lt (Nat.lt_of_lt_of_le G538.lt' (Nat.le_of_eq g546.symm))) nin0)).keep K588 nin0 nin0).lt g601))) f697 G657) (fun _ q => nomatch q) [(.ref b639)] rfl (rest := []) rfl pd__Ljava_lang_Object__Z rfl rfl (by decide) (by exact Nat.le_of_ble_eq_true rfl) (by decide) (by decide) (fun v698 T q699 => ?_)
                obtain ⟨h702, S700, ⟨rfl, eh⟩, X701⟩ := q699
                have eh := eh.symm
                subst eh
                have X := X701 [] all0
                show W.Go _ _ _ _ _ _ _ _ _ _ _ (mkF m 313 #[.val (.int p0), .val (.int p1), .val (.int p2), .val (.int p3), .val (.int c0), .val (.int c1), .val (.int c2), .val (.int d0), .val (.int d1), .val (.int d2), .val (.int (1 : Int32)), .val (.ref a508), .val (.ref a520), .val (.ref a532), .val (.ref b545), .val (.ref a586), .val (.ref a598), .val (.ref b611), .val (.ref b639), .val (.int u), .val (.int (0 : Int32))] [(.int (b2i (decide ([c0] = [d0, d0]) && (decide ([c1] = [d1]) && decide ([c2] = [d2])))))])
                refine W.o_iload X (pc' := 315) at_313 rfl rfl ?_
                have hv1 : (b2i (decide ([c0] = [d0, d0]) && (decide ([c1] = [d1]) && decide ([c2] = [d2])))) = 0 := by simp [b2i]
                refine W.o_if_icmpne X (pt := 334) (pf := 318) at_315 ⟨by decide, by decide⟩ rfl (fun hc => absurd hv1 hc) (fun _ => ?_)
                refine W.o_aload X (pc' := 320) at_318 rfl rfl rfl ?_
                refine W.o_aload X (pc' := 322) at_320 rfl rfl rfl ?_
                refine W.o_virtual X (pc' := 325) at_322 rfl (u := (⟨"com/example/holdfast/holdfast/redis/LockKeys", "equals", "(Ljava/lang/Object;)Z"⟩ : MethodName)) (z := (⟨"com/example/holdfast/holdfast/redis/LockKeys", "equals", "(Ljava/lang/Object;)Z"⟩ : MethodName)) (hw _ (List.mem_of_getElem? (i := 81) rfl)) (hw _ (List.mem_of_getElem? (i := 82) rfl)) (fun s' hZ => notFace_of_selects (args := #[]) (mvT hZ (hw _ (List.mem_of_getElem? (i := 84) rfl)))) (hw _ (List.mem_of_getElem? (i := 84) rfl)) (hw _ (List.mem_of_getElem? (i := 83) rfl)) (hw _ (List.mem_of_getElem? (i := 28) rfl)) (hw _ (List.mem_of_getElem? (i := 85) rfl)) (by decide) E651 (ctEqL l Z a0 hw b639 b611 b545 a586 a598 a508 a520 a532 t573 t587 t599 t509 t521 t533 [d0, d0] [d1] [d2] [c0] [c1] [c2] cz h665 C0 hcz E651 f691 F652 F653 F654 f692 f693 f694 (fun q => absurd q (Ne.symm (Nat.ne_of_lt (Nat.lt_of_lt_of_le ((G514.keep K522 nin0 nin0).keep K534 nin0 nin0).lt (Nat.le_of_eq g546.symm))))) G655 f695 (fun q => absurd q (Ne.symm (Nat.ne_of_lt (Nat.lt_of_lt_of_le ((((((G526.keep K534 nin0 nin0).ext e548).ext e560).other w565 (Nat.ne_of_lt (Nat.lt_of_lt_of_le ((G526.keep K534 nin0 nin0).ext e548).lt (Nat.le_of_eq g558.symm))) (Nat.ne_of_lt (Nat.lt_of_lt_of_le ((G526.keep K534 nin0 nin0).ext e548).lt' (Nat.le_of_eq g558.symm)))).other w569 (Nat.ne_of_lt (Nat.lt_of_lt_of_le ((G526.keep K534 nin0 nin0).ext e548).lt (Nat.le_of_eq g558.symm))) (Nat.ne_of_lt (Nat.lt_of_lt_of_le ((G526.keep K534 nin0 nin0).ext e548).lt' (Nat.le_of_eq g558.symm)))).keep K572 (ninS (Nat.ne_of_lt (Nat.lt_of_lt_of_le (G526.keep K534 nin0 nin0).lt (Nat.le_of_eq g546.symm))) nin0) (ninS (Nat.ne_of_lt (Nat.lt_of_lt_of_le (G526.keep K534 nin0 nin0).lt' (Nat.le_of_eq g546.symm))) nin0)).lt g589)))) G656 f696 (fun q => absurd q (Ne.symm (Nat.ne_of_lt (Nat.lt_of_lt_of_le ((((((G538.ext e548).ext e560).other w565 (Nat.ne_of_lt (Nat.lt_of_lt_of_le (G538.ext e548).lt (Nat.le_of_eq g558.symm))) (Nat.ne_of_lt (Nat.lt_of_lt_of_le (G538.ext e548).lt' (Nat.le_of_eq g558.symm)))).other w569 (Nat.ne_of_lt (Nat.lt_of_lt_of_le (G538.ext e548).lt (Nat.le_of_eq g558.symm))) (Nat.ne_of_lt (Nat.lt_of_lt_of_le (G538.ext e548).lt' (Nat.le_of_eq g558.symm)))).keep K572 (ninS (Nat.ne_of_lt (Nat.lt_of_lt_of_le G538.lt (Nat.le_of_eq g546.symm))) nin0) (ninS (Nat.ne_of_lt (Nat.lt_of_lt_of_le G538.lt' (Nat.le_of_eq g546.symm))) nin0)).keep K588 nin0 nin0).lt g601)))) G657 f697) (fun _ q => nomatch q) [(.ref b611)] rfl (rest := []) rfl pd__Ljava_lang_Object__Z rfl rfl (by decide) (by exact Nat.le_of_ble_eq_true rfl) (by decide) (by decide) (fun v703 T q704 => ?_)
                obtain ⟨h707, S705, ⟨rfl, eh⟩, X706⟩ := q704
                have eh := eh.symm
                subst eh
                have X := X706 [] all0
                show W.Go _ _ _ _ _ _ _ _ _ _ _ (mkF m 325 #[.val (.int p0), .val (.int p1), .val (.int p2), .val (.int p3), .val (.int c0), .val (.int c1), .val (.int c2), .val (.int d0), .val (.int d1), .val (.int d2), .val (.int (1 : Int32)), .val (.ref a508), .val (.ref a520), .val (.ref a532), .val (.ref b545), .val (.ref a586), .val (.ref a598), .val (.ref b611), .val (.ref b639), .val (.int u), .val (.int (0 : Int32))] [(.int (b2i (decide ([d0, d0] = [c0]) && (decide ([d1] = [c1]) && decide ([d2] = [c2])))))])
                refine W.o_iload X (pc' := 327) at_325 rfl rfl ?_
                have hv2 : (b2i (decide ([d0, d0] = [c0]) && (decide ([d1] = [c1]) && decide ([d2] = [c2])))) = 0 := by simp [b2i]
                refine W.o_if_icmpne X (pt := 334) (pf := 330) at_327 ⟨by decide, by decide⟩ rfl (fun hc => absurd hv2 hc) (fun _ => ?_)
                refine W.o_iconst X (1 : Int32) (pc' := 331) at_330 rfl rfl ?_
                refine W.o_goto X (pc' := 335) at_331 ⟨by decide, by decide⟩ ?_
                exact W.o_ireturn X at_335 rfl (Or.inl rfl) (v := 1) rfl (by decide) (by decide) fun P hP => rfl
              · refine W.o_aload X (pc' := 267) at_265 rfl rfl rfl ?_
                refine W.o_aload X (pc' := 269) at_267 rfl rfl rfl ?_
                have f679 := ((E623.ext e642).keep K650)
                have f680 := ((F624.ext e642).keep K650 (ninS (Nat.ne_of_lt (Nat.lt_of_lt_of_le E623.lt (Nat.le_of_eq g640.symm))) (ninS (Ne.symm (Nat.ne_of_lt (Nat.lt_of_lt_of_le ((G575.keep K588 nin0 nin0).keep K600 nin0 nin0).lt (Nat.le_of_eq g612.symm)))) (ninS (Ne.symm (Nat.ne_of_lt (Nat.lt_of_lt_of_le (G592.keep K600 nin0 nin0).lt (Nat.le_of_eq g612.symm)))) (ninS (Ne.symm (Nat.ne_of_lt (Nat.lt_of_lt_of_le G604.lt (Nat.le_of_eq g612.symm)))) nin0)))))
                have f681 := ((F625.ext e642).keep K650 (ninS (Nat.ne_of_lt (Nat.lt_of_lt_of_le E623.lt (Nat.le_of_eq g640.symm))) (ninS (Ne.symm (Nat.ne_of_lt (Nat.lt_of_lt_of_le ((G575.keep K588 nin0 nin0).keep K600 nin0 nin0).lt (Nat.le_of_eq g612.symm)))) (ninS (Ne.symm (Nat.ne_of_lt (Nat.lt_of_lt_of_le (G592.keep K600 nin0 nin0).lt (Nat.le_of_eq g612.symm)))) (ninS (Ne.symm (Nat.ne_of_lt (Nat.lt_of_lt_of_le G604.lt (Nat.le_of_eq g612.symm)))) nin0)))))
                have f682 := ((F626.ext e642).keep K650 (ninS (Nat.ne_of_lt (Nat.lt_of_lt_of_le E623.lt (Nat.le_of_eq g640.symm))) (ninS (Ne.symm (Nat.ne_of_lt (Nat.lt_of_lt_of_le ((G575.keep K588 nin0 nin0).keep K600 nin0 nin0).lt (Nat.le_of_eq g612.symm)))) (ninS (Ne.symm (Nat.ne_of_lt (Nat.lt_of_lt_of_le (G592.keep K600 nin0 nin0).lt (Nat.le_of_eq g612.symm)))) (ninS (Ne.symm (Nat.ne_of_lt (Nat.lt_of_lt_of_le G604.lt (Nat.le_of_eq g612.symm)))) nin0)))))
                have f683 := ((G627.ext e642).keep K650 (ninS (Nat.ne_of_lt (Nat.lt_of_lt_of_le G627.lt (Nat.le_of_eq g640.symm))) (ninS (Nat.ne_of_lt (Nat.lt_of_lt_of_le ((G514.keep K522 nin0 nin0).keep K534 nin0 nin0).lt (Nat.le_of_eq g546.symm))) (ninS (Nat.ne_of_lt (Nat.lt_of_lt_of_le (((((((G514.keep K522 nin0 nin0).keep K534 nin0 nin0).ext e548).ext e560).other w565 (Nat.ne_of_lt (Nat.lt_of_lt_of_le (((G514.keep K522 nin0 nin0).keep K534 nin0 nin0).ext e548).lt (Nat.le_of_eq g558.symm))) (Nat.ne_of_lt (Nat.lt_of_lt_of_le (((G514.keep K522 nin0 nin0).keep K534 nin0 nin0).ext e548).lt' (Nat.le_of_eq g558.symm)))).other w569 (Nat.ne_of_lt (Nat.lt_of_lt_of_le (((G514.keep K522 nin0 nin0).keep K534 nin0 nin0).ext e548).lt (Nat.le_of_eq g558.symm))) (Nat.ne_of_lt (Nat.lt_of_lt_of_le (((G514.keep K522 nin0 nin0).keep K534 nin0 nin0).ext e548).lt' (Nat.le_of_eq g558.symm)))).keep K572 (ninS (Nat.ne_of_lt (Nat.lt_of_lt_of_le ((G514.keep K522 nin0 nin0).keep K534 nin0 nin0).lt (Nat.le_of_eq g546.symm))) nin0) (ninS (Nat.ne_of_lt (Nat.lt_of_lt_of_le ((G514.keep K522 nin0 nin0).keep K534 nin0 nin0).lt' (Nat.le_of_eq g546.symm))) nin0)).lt g589)) (ninS (Nat.ne_of_lt (Nat.lt_of_lt_of_le ((((((((G514.keep K522 nin0 nin0).keep K534 nin0 nin0).ext e548).ext e560).other w565 (Nat.ne_of_lt (Nat.lt_of_lt_of_le (((G514.keep K522 nin0 nin0).keep K534 nin0 nin0).ext e548).lt (Nat.le_of_eq g558.symm))) (Nat.ne_of_lt (Nat.lt_of_lt_of_le (((G514.keep K522 nin0 nin0).keep K534 nin0 nin0).ext e548).lt' (Nat.le_of_eq g558.symm)))).other w569 (Nat.ne_of_lt (Nat.lt_of_lt_of_le (((G514.keep K522 nin0 nin0).keep K534 nin0 nin0).ext e548).lt (Nat.le_of_eq g558.symm))) (Nat.ne_of_lt (Nat.lt_of_lt_of_le (((G514.keep K522 nin0 nin0).keep K534 nin0 nin0).ext e548).lt' (Nat.le_of_eq g558.symm)))).keep K572 (ninS (Nat.ne_of_lt (Nat.lt_of_lt_of_le ((G514.keep K522 nin0 nin0).keep K534 nin0 nin0).lt (Nat.le_of_eq g546.symm))) nin0) (ninS (Nat.ne_of_lt (Nat.lt_of_lt_of_le ((G514.keep K522 nin0 nin0).keep K534 nin0 nin0).lt' (Nat.le_of_eq g546.symm))) nin0)).keep K588 nin0 nin0).lt g601)) nin0)))) (ninS (Nat.ne_of_lt (Nat.lt_of_lt_of_le G627.lt' (Nat.le_of_eq g640.symm))) (ninS (Nat.ne_of_lt (Nat.lt_of_lt_of_le ((G514.keep K522 nin0 nin0).keep K534 nin0 nin0).lt' (Nat.le_of_eq g546.symm))) (ninS (Nat.ne_of_lt (Nat.lt_of_lt_of_le (((((((G514.keep K522 nin0 nin0).keep K534 nin0 nin0).ext e548).ext e560).other w565 (Nat.ne_of_lt (Nat.lt_of_lt_of_le (((G514.keep K522 nin0 nin0).keep K534 nin0 nin0).ext e548).lt (Nat.le_of_eq g558.symm))) (Nat.ne_of_lt (Nat.lt_of_lt_of_le (((G514.keep K522 nin0 nin0).keep K534 nin0 nin0).ext e548).lt' (Nat.le_of_eq g558.symm)))).other w569 (Nat.ne_of_lt (Nat.lt_of_lt_of_le (((G514.keep K522 nin0 nin0).keep K534 nin0 nin0).ext e548).lt (Nat.le_of_eq g558.symm))) (Nat.ne_of_lt (Nat.lt_of_lt_of_le (((G514.keep K522 nin0 nin0).keep K534 nin0 nin0).ext e548).lt' (Nat.le_of_eq g558.symm)))).keep K572 (ninS (Nat.ne_of_lt (Nat.lt_of_lt_of_le ((G514.keep K522 nin0 nin0).keep K534 nin0 nin0).lt (Nat.le_of_eq g546.symm))) nin0) (ninS (Nat.ne_of_lt (Nat.lt_of_lt_of_le ((G514.keep K522 nin0 nin0).keep K534 nin0 nin0).lt' (Nat.le_of_eq g546.symm))) nin0)).lt' g589)) (ninS (Nat.ne_of_lt (Nat.lt_of_lt_of_le ((((((((G514.keep K522 nin0 nin0).keep K534 nin0 nin0).ext e548).ext e560).other w565 (Nat.ne_of_lt (Nat.lt_of_lt_of_le (((G514.keep K522 nin0 nin0).keep K534 nin0 nin0).ext e548).lt (Nat.le_of_eq g558.symm))) (Nat.ne_of_lt (Nat.lt_of_lt_of_le (((G514.keep K522 nin0 nin0).keep K534 nin0 nin0).ext e548).lt' (Nat.le_of_eq g558.symm)))).other w569 (Nat.ne_of_lt (Nat.lt_of_lt_of_le (((G514.keep K522 nin0 nin0).keep K534 nin0 nin0).ext e548).lt (Nat.le_of_eq g558.symm))) (Nat.ne_of_lt (Nat.lt_of_lt_of_le (((G514.keep K522 nin0 nin0).keep K534 nin0 nin0).ext e548).lt' (Nat.le_of_eq g558.symm)))).keep K572 (ninS (Nat.ne_of_lt (Nat.lt_of_lt_of_le ((G514.keep K522 nin0 nin0).keep K534 nin0 nin0).lt (Nat.le_of_eq g546.symm))) nin0) (ninS (Nat.ne_of_lt (Nat.lt_of_lt_of_le ((G514.keep K522 nin0 nin0).keep K534 nin0 nin0).lt' (Nat.le_of_eq g546.symm))) nin0)).keep K588 nin0 nin0).lt' g601)) nin0)))))
                have f684 := ((G628.ext e642).keep K650 (ninS (Nat.ne_of_lt (Nat.lt_of_lt_of_le G628.lt (Nat.le_of_eq g640.symm))) (ninS (Nat.ne_of_lt (Nat.lt_of_lt_of_le (G526.keep K534 nin0 nin0).lt (Nat.le_of_eq g546.symm))) (ninS (Nat.ne_of_lt (Nat.lt_of_lt_of_le ((((((G526.keep K534 nin0 nin0).ext e548).ext e560).other w565 (Nat.ne_of_lt (Nat.lt_of_lt_of_le ((G526.keep K534 nin0 nin0).ext e548).lt (Nat.le_of_eq g558.symm))) (Nat.ne_of_lt (Nat.lt_of_lt_of_le ((G526.keep K534 nin0 nin0).ext e548).lt' (Nat.le_of_eq g558.symm)))).other w569 (Nat.ne_of_lt (Nat.lt_of_lt_of_le ((G526.keep K534 nin0 nin0).ext e548).lt (Nat.le_of_eq g558.symm))) (Nat.ne_of_lt (Nat.lt_of_lt_of_le ((G526.keep K534 nin0 nin0).ext e548).lt' (Nat.le_of_eq g558.symm)))).keep K572 (ninS (Nat.ne_of_lt (Nat.lt_of_lt_of_le (G526.keep K534 nin0 nin0).lt (Nat.le_of_eq g546.symm))) nin0) (ninS (Nat.ne_of_lt (Nat.lt_of_lt_of_le (G526.keep K534 nin0 nin0).lt' (Nat.le_of_eq g546.symm))) nin0)).lt g589)) (ninS (Nat.ne_of_lt (Nat.lt_of_lt_of_le (((((((G526.keep K534 nin0 nin0).ext e548).ext e560).other w565 (Nat.ne_of_lt (Nat.lt_of_lt_of_le ((G526.keep K534 nin0 nin0).ext e548).lt (Nat.le_of_eq g558.symm))) (Nat.ne_of_lt (Nat.lt_of_lt_of_le ((G526.keep K534 nin0 nin0).ext e548).lt' (Nat.le_of_eq g558.symm)))).other w569 (Nat.ne_of_lt (Nat.lt_of_lt_of_le ((G526.keep K534 nin0 nin0).ext e548).lt (Nat.le_of_eq g558.symm))) (Nat.ne_of_lt (Nat.lt_of_lt_of_le ((G526.keep K534 nin0 nin0).ext e548).lt' (Nat.le_of_eq g558.symm)))).keep K572 (ninS (Nat.ne_of_lt (Nat.lt_of_lt_of_le (G526.keep K534 nin0 nin0).lt (Nat.le_of_eq g546.symm))) nin0) (ninS (Nat.ne_of_lt (Nat.lt_of_lt_of_le (G526.keep K534 nin0 nin0).lt' (Nat.le_of_eq g546.symm))) nin0)).keep K588 nin0 nin0).lt g601)) nin0)))) (ninS (Nat.ne_of_lt (Nat.lt_of_lt_of_le G628.lt' (Nat.le_of_eq g640.symm))) (ninS (Nat.ne_of_lt (Nat.lt_of_lt_of_le (G526.keep K534 nin0 nin0).lt' (Nat.le_of_eq g546.symm))) (ninS (Nat.ne_of_lt (Nat.lt_of_lt_of_le ((((((G526.keep K534 nin0 nin0).ext e548).ext e560).other w565 (Nat.ne_of_lt (Nat.lt_of_lt_of_le ((G526.keep K534 nin0 nin0).ext e548).lt (Nat.le_of_eq g558.symm))) (Nat.ne_of_lt (Nat.lt_of_lt_of_le ((G526.keep K534 nin0 nin0).ext e548).lt' (Nat.le_of_eq g558.symm)))).other w569 (Nat.ne_of_lt (Nat.lt_of_lt_of_le ((G526.keep K534 nin0 nin0).ext e548).lt (Nat.le_of_eq g558.symm))) (Nat.ne_of_lt (Nat.lt_of_lt_of_le ((G526.keep K534 nin0 nin0).ext e548).lt' (Nat.le_of_eq g558.symm)))).keep K572 (ninS (Nat.ne_of_lt (Nat.lt_of_lt_of_le (G526.keep K534 nin0 nin0).lt (Nat.le_of_eq g546.symm))) nin0) (ninS (Nat.ne_of_lt (Nat.lt_of_lt_of_le (G526.keep K534 nin0 nin0).lt' (Nat.le_of_eq g546.symm))) nin0)).lt' g589)) (ninS (Nat.ne_of_lt (Nat.lt_of_lt_of_le (((((((G526.keep K534 nin0 nin0).ext e548).ext e560).other w565 (Nat.ne_of_lt (Nat.lt_of_lt_of_le ((G526.keep K534 nin0 nin0).ext e548).lt (Nat.le_of_eq g558.symm))) (Nat.ne_of_lt (Nat.lt_of_lt_of_le ((G526.keep K534 nin0 nin0).ext e548).lt' (Nat.le_of_eq g558.symm)))).other w569 (Nat.ne_of_lt (Nat.lt_of_lt_of_le ((G526.keep K534 nin0 nin0).ext e548).lt (Nat.le_of_eq g558.symm))) (Nat.ne_of_lt (Nat.lt_of_lt_of_le ((G526.keep K534 nin0 nin0).ext e548).lt' (Nat.le_of_eq g558.symm)))).keep K572 (ninS (Nat.ne_of_lt (Nat.lt_of_lt_of_le (G526.keep K534 nin0 nin0).lt (Nat.le_of_eq g546.symm))) nin0) (ninS (Nat.ne_of_lt (Nat.lt_of_lt_of_le (G526.keep K534 nin0 nin0).lt' (Nat.le_of_eq g546.symm))) nin0)).keep K588 nin0 nin0).lt' g601)) nin0)))))
                have f685 := ((G629.ext e642).keep K650 (ninS (Nat.ne_of_lt (Nat.lt_of_lt_of_le G629.lt (Nat.le_of_eq g640.symm))) (ninS (Nat.ne_of_lt (Nat.lt_of_lt_of_le G538.lt (Nat.le_of_eq g546.symm))) (ninS (Nat.ne_of_lt (Nat.lt_of_lt_of_le (((((G538.ext e548).ext e560).other w565 (Nat.ne_of_lt (Nat.lt_of_lt_of_le (G538.ext e548).lt (Nat.le_of_eq g558.symm))) (Nat.ne_of_lt (Nat.lt_of_lt_of_le (G538.ext e548).lt' (Nat.le_of_eq g558.symm)))).other w569 (Nat.ne_of_lt (Nat.lt_of_lt_of_le (G538.ext e548).lt (Nat.le_of_eq g558.symm))) (Nat.ne_of_lt (Nat.lt_of_lt_of_le (G538.ext e548).lt' (Nat.le_of_eq g558.symm)))).keep K572 (ninS (Nat.ne_of_lt (Nat.lt_of_lt_of_le G538.lt (Nat.le_of_eq g546.symm))) nin0) (ninS (Nat.ne_of_lt (Nat.lt_of_lt_of_le G538.lt' (Nat.le_of_eq g546.symm))) nin0)).lt g589)) (ninS (Nat.ne_of_lt (Nat.lt_of_lt_of_le ((((((G538.ext e548).ext e560).other w565 (Nat.ne_of_lt (Nat.lt_of_lt_of_le (G538.ext e548).lt (Nat.le_of_eq g558.symm))) (Nat.ne_of_lt (Nat.lt_of_lt_of_le (G538.ext e548).lt' (Nat.le_of_eq g558.symm)))).other w569 (Nat.ne_of_lt (Nat.lt_of_lt_of_le (G538.ext e548).lt (Nat.le_of_eq g558.symm))) (Nat.ne_of_lt (Nat.lt_of_lt_of_le (G538.ext e548).lt' (Nat.le_of_eq g558.symm)))).keep K572 (ninS (Nat.ne_of_lt (Nat.lt_of_lt_of_le G538.lt (Nat.le_of_eq g546.symm))) nin0) (ninS (Nat.ne_of_lt (Nat.lt_of_lt_of_le G538.lt' (Nat.le_of_eq g546.symm))) nin0)).keep K588 nin0 nin0).lt g601)) nin0)))) (ninS (Nat.ne_of_lt (Nat.lt_of_lt_of_le G629.lt' (Nat.le_of_eq g640.symm))) (ninS (Nat.ne_of_lt (Nat.lt_of_lt_of_le G538.lt' (Nat.le_of_eq g546.symm))) (ninS (Nat.ne_of_lt (Nat.lt_of_lt_of_le (((((G538.ext e548).ext e560).other w565 (Nat.ne_of_lt (Nat.lt_of_lt_of_le (G538.ext e548).lt (Nat.le_of_eq g558.symm))) (Nat.ne_of_lt (Nat.lt_of_lt_of_le (G538.ext e548).lt' (Nat.le_of_eq g558.symm)))).other w569 (Nat.ne_of_lt (Nat.lt_of_lt_of_le (G538.ext e548).lt (Nat.le_of_eq g558.symm))) (Nat.ne_of_lt (Nat.lt_of_lt_of_le (G538.ext e548).lt' (Nat.le_of_eq g558.symm)))).keep K572 (ninS (Nat.ne_of_lt (Nat.lt_of_lt_of_le G538.lt (Nat.le_of_eq g546.symm))) nin0) (ninS (Nat.ne_of_lt (Nat.lt_of_lt_of_le G538.lt' (Nat.le_of_eq g546.symm))) nin0)).lt' g589)) (ninS (Nat.ne_of_lt (Nat.lt_of_lt_of_le ((((((G538.ext e548).ext e560).other w565 (Nat.ne_of_lt (Nat.lt_of_lt_of_le (G538.ext e548).lt (Nat.le_of_eq g558.symm))) (Nat.ne_of_lt (Nat.lt_of_lt_of_le (G538.ext e548).lt' (Nat.le_of_eq g558.symm)))).other w569 (Nat.ne_of_lt (Nat.lt_of_lt_of_le (G538.ext e548).lt (Nat.le_of_eq g558.symm))) (Nat.ne_of_lt (Nat.lt_of_lt_of_le (G538.ext e548).lt' (Nat.le_of_eq g558.symm)))).keep K572 (ninS (Nat.ne_of_lt (Nat.lt_of_lt_of_le G538.lt (Nat.le_of_eq g546.symm))) nin0) (ninS (Nat.ne_of_lt (Nat.lt_of_lt_of_le G538.lt' (Nat.le_of_eq g546.symm))) nin0)).keep K588 nin0 nin0).lt' g601)) nin0)))))
                refine W.o_virtual X (pc' := 272) at_269 rfl (u := (⟨"com/example/holdfast/holdfast/redis/LockKeys", "equals", "(Ljava/lang/Object;)Z"⟩ : MethodName)) (z := (⟨"com/example/holdfast/holdfast/redis/LockKeys", "equals", "(Ljava/lang/Object;)Z"⟩ : MethodName)) (hw _ (List.mem_of_getElem? (i := 81) rfl)) (hw _ (List.mem_of_getElem? (i := 82) rfl)) (fun s' hZ => notFace_of_selects (args := #[]) (mvT hZ (hw _ (List.mem_of_getElem? (i := 84) rfl)))) (hw _ (List.mem_of_getElem? (i := 84) rfl)) (hw _ (List.mem_of_getElem? (i := 83) rfl)) (hw _ (List.mem_of_getElem? (i := 28) rfl)) (hw _ (List.mem_of_getElem? (i := 85) rfl)) (by decide) f679 (ctEqL l Z a0 hw b611 b611 a508 a520 a532 a508 a520 a532 t509 t521 t533 t509 t521 t533 [c0] [c1] [c2] [c0] [c1] [c2] cz h665 C0 hcz f679 f679 f680 f681 f682 f680 f681 f682 (fun _ => rfl) f683 f683 (fun _ => rfl) f684 f684 (fun _ => rfl) f685 f685) (fun _ q => nomatch q) [(.ref b611)] rfl (rest := []) rfl pd__Ljava_lang_Object__Z rfl rfl (by decide) (by exact Nat.le_of_ble_eq_true rfl) (by decide) (by decide) (fun v686 T q687 => ?_)
                obtain ⟨h690, S688, ⟨rfl, eh⟩, X689⟩ := q687
                have eh := eh.symm
                subst eh
                have X := X689 [] all0
                show W.Go _ _ _ _ _ _ _ _ _ _ _ (mkF m 272 #[.val (.int p0), .val (.int p1), .val (.int p2), .val (.int p3), .val (.int c0), .val (.int c1), .val (.int c2), .val (.int d0), .val (.int d1), .val (.int d2), .val (.int (1 : Int32)), .val (.ref a508), .val (.ref a520), .val (.ref a532), .val (.ref b545), .val (.ref a586), .val (.ref a598), .val (.ref b611), .val (.ref b639), .val (.int u), .unset] [(.int (b2i (decide ([c0] = [c0]) && (decide ([c1] = [c1]) && decide ([c2] = [c2])))))])
                exact W.o_ireturn X at_272 rfl (Or.inl rfl) (v := 1) (by simp [b2i, nar]) (by decide) (by decide) fun P hP => rfl
            · refine W.o_aload X (pc' := 245) at_243 rfl rfl rfl ?_
              refine W.o_aload X (pc' := 247) at_245 rfl rfl rfl ?_
              have f672 := (((((((((((((G514.1.1.keep K522).keep K534).ext e548).ext e560).wr w565).wr w569).keep K572).keep K588).keep K600).ext e614).keep K622).ext e642).keep K650)
              have f675 := ((E623.ext e642).keep K650)
              refine W.o_virtual X (pc' := 250) at_247 rfl (u := (⟨"com/example/holdfast/holdfast/redis/LockKeys", "equals", "(Ljava/lang/Object;)Z"⟩ : MethodName)) (z := (⟨"com/example/holdfast/holdfast/redis/LockKeys", "equals", "(Ljava/lang/Object;)Z"⟩ : MethodName)) (hw _ (List.mem_of_getElem? (i := 81) rfl)) (hw _ (List.mem_of_getElem? (i := 82) rfl)) (fun s' hZ => notFace_of_selects (args := #[]) (mvT hZ (hw _ (List.mem_of_getElem? (i := 84) rfl)))) (hw _ (List.mem_of_getElem? (i := 84) rfl)) (hw _ (List.mem_of_getElem? (i := 83) rfl)) (hw _ (List.mem_of_getElem? (i := 28) rfl)) (hw _ (List.mem_of_getElem? (i := 85) rfl)) (by decide) f675 (ctEqS l Z a0 hw b611 a508 h665 f672 hno) (fun _ q => nomatch q) [(.ref a508)] rfl (rest := []) rfl pd__Ljava_lang_Object__Z rfl rfl (by decide) (by exact Nat.le_of_ble_eq_true rfl) (by decide) (by decide) (fun v673 T q674 => ?_)
              obtain ⟨h678, S676, ⟨rfl, eh⟩, X677⟩ := q674
              have eh := eh.symm
              subst eh
              have X := X677 [] all0
              show W.Go _ _ _ _ _ _ _ _ _ _ _ (mkF m 250 #[.val (.int p0), .val (.int p1), .val (.int p2), .val (.int p3), .val (.int c0), .val (.int c1), .val (.int c2), .val (.int d0), .val (.int d1), .val (.int d2), .val (.int (1 : Int32)), .val (.ref a508), .val (.ref a520), .val (.ref a532), .val (.ref b545), .val (.ref a586), .val (.ref a598), .val (.ref b611), .val (.ref b639), .val (.int u), .unset] [(.int (0 : Int32))])
              refine W.o_ifne X (pt := 257) (pf := 253) at_250 ⟨by decide, by decide⟩ rfl (fun hc => absurd rfl hc) (fun _ => ?_)
              refine W.o_iconst X (1 : Int32) (pc' := 254) at_253 rfl rfl ?_
              refine W.o_goto X (pc' := 258) at_254 ⟨by decide, by decide⟩ ?_
              exact W.o_ireturn X at_258 rfl (Or.inl rfl) (v := 1) rfl (by decide) (by decide) fun P hP => rfl
          · refine W.o_aload X (pc' := 224) at_222 rfl rfl rfl ?_
            refine W.o_aconst_null X (pc' := 225) at_224 rfl ?_
            have f668 := ((E623.ext e642).keep K650)
            refine W.o_virtual X (pc' := 228) at_225 rfl (u := (⟨"com/example/holdfast/holdfast/redis/LockKeys", "equals", "(Ljava/lang/Object;)Z"⟩ : MethodName)) (z := (⟨"com/example/holdfast/holdfast/redis/LockKeys", "equals", "(Ljava/lang/Object;)Z"⟩ : MethodName)) (hw _ (List.mem_of_getElem? (i := 81) rfl)) (hw _ (List.mem_of_getElem? (i := 82) rfl)) (fun s' hZ => notFace_of_selects (args := #[]) (mvT hZ (hw _ (List.mem_of_getElem? (i := 84) rfl)))) (hw _ (List.mem_of_getElem? (i := 84) rfl)) (hw _ (List.mem_of_getElem? (i := 83) rfl)) (hw _ (List.mem_of_getElem? (i := 28) rfl)) (hw _ (List.mem_of_getElem? (i := 85) rfl)) (by decide) f668 (ctEqN l Z a0 hw b611 h665) (fun _ q => nomatch q) [.null] rfl (rest := []) rfl pd__Ljava_lang_Object__Z rfl rfl (by decide) (by exact Nat.le_of_ble_eq_true rfl) (by decide) (by decide) (fun v666 T q667 => ?_)
            obtain ⟨h671, S669, ⟨rfl, eh⟩, X670⟩ := q667
            have eh := eh.symm
            subst eh
            have X := X670 [] all0
            show W.Go _ _ _ _ _ _ _ _ _ _ _ (mkF m 228 #[.val (.int p0), .val (.int p1), .val (.int p2), .val (.int p3), .val (.int c0), .val (.int c1), .val (.int c2), .val (.int d0), .val (.int d1), .val (.int d2), .val (.int (1 : Int32)), .val (.ref a508), .val (.ref a520), .val (.ref a532), .val (.ref b545), .val (.ref a586), .val (.ref a598), .val (.ref b611), .val (.ref b639), .val (.int u), .unset] [(.int (0 : Int32))])
            refine W.o_ifne X (pt := 235) (pf := 231) at_228 ⟨by decide, by decide⟩ rfl (fun hc => absurd rfl hc) (fun _ => ?_)
            refine W.o_iconst X (1 : Int32) (pc' := 232) at_231 rfl rfl ?_
            refine W.o_goto X (pc' := 236) at_232 ⟨by decide, by decide⟩ ?_
            exact W.o_ireturn X at_236 rfl (Or.inl rfl) (v := 1) rfl (by decide) (by decide) fun P hP => rfl
      refine W.o_ifeq X (pt := 82) (pf := 77) at_74 ⟨by decide, by decide⟩ rfl (fun hs2 => ?_) (fun hs2 => ?_)
      · refine W.o_iloadN X (pc' := 83) at_82 rfl rfl ?_
        refine W.o_bipush X (16 : Int32) (pc' := 85) at_83 rfl rfl ?_
        refine W.o_iushr X (pc' := 86) at_85 rfl ?_
        refine W.o_sipush X (255 : Int32) (pc' := 89) at_86 rfl rfl ?_
        refine W.o_iand X (pc' := 90) at_89 rfl ?_
        refine W.o_i2c X (pc' := 91) at_90 rfl ?_
        exact J2 _ (and_ch _)
      · refine W.o_iload X (pc' := 79) at_77 rfl rfl ?_
        refine W.o_goto X (pc' := 91) at_79 ⟨by decide, by decide⟩ ?_
        exact J2 _ qc2
    refine W.o_ifeq X (pt := 60) (pf := 55) at_52 ⟨by decide, by decide⟩ rfl (fun hs1 => ?_) (fun hs1 => ?_)
    · refine W.o_iloadN X (pc' := 61) at_60 rfl rfl ?_
      refine W.o_bipush X (8 : Int32) (pc' := 63) at_61 rfl rfl ?_
      refine W.o_iushr X (pc' := 64) at_63 rfl ?_
      refine W.o_sipush X (255 : Int32) (pc' := 67) at_64 rfl rfl ?_
      refine W.o_iand X (pc' := 68) at_67 rfl ?_
      refine W.o_i2c X (pc' := 69) at_68 rfl ?_
      exact J1 _ (and_ch _)
    · refine W.o_iload X (pc' := 57) at_55 rfl rfl ?_
      refine W.o_goto X (pc' := 69) at_57 ⟨by decide, by decide⟩ ?_
      exact J1 _ qc1
  refine W.o_ifeq X (pt := 41) (pf := 36) at_33 ⟨by decide, by decide⟩ rfl (fun hs0 => ?_) (fun hs0 => ?_)
  · refine W.o_iloadN X (pc' := 42) at_41 rfl rfl ?_
    refine W.o_sipush X (255 : Int32) (pc' := 45) at_42 rfl rfl ?_
    refine W.o_iand X (pc' := 46) at_45 rfl ?_
    refine W.o_i2c X (pc' := 47) at_46 rfl ?_
    exact J0 _ (and_ch _)
  · refine W.o_iload X (pc' := 38) at_36 rfl rfl ?_
    refine W.o_goto X (pc' := 47) at_38 ⟨by decide, by decide⟩ ?_
    exact J0 _ qc0
/-- no subclass: from Object up -/
theorem nsRoot {Z : State} {a0 : Array Value} {O K : String} {k : Nat} (w2 : (Cond.noSuperclass O).before a0 Z = true) (w4 : (Cond.instantiable K k).before a0 Z = true) (h2 : O ≠ K) : NS Z O K := by
  obtain ⟨t, kt, g1, g2, g3, g4, -⟩ := Cond.instantiable_spec w4
  obtain ⟨c, k, h1, h2', h3, -, -⟩ := Cond.noSuperclass_spec w2
  have ne := ids_ne h1 g1 h2
  refine ⟨c, t, h1, g1, fun fuel => ?_⟩
  cases fuel with
  | zero => rfl
  | succ f => simp [Vm.isSubclassAux, ne, h2', h3]
theorem nsNo {Z : State} {a0 : Array Value} {D S K : String} {k : Nat} (w1 : (Cond.superclass D S).before a0 Z = true) (w4 : (Cond.instantiable K k).before a0 Z = true) (n : NS Z D K) (h1 : D ≠ K) : ∃ c t, Z.vm.findClass D = some c ∧ Z.vm.findClass K = some t ∧ Z.vm.assignable c t = false := by
  obtain ⟨t, kt, g1, g2, g3, g4, -⟩ := Cond.instantiable_spec w4
  obtain ⟨c, t', a1, a2, a3⟩ := n
  cases g1.symm.trans a2
  obtain ⟨p, k, kp, b1, b2, b3, b4, b5, -, b7⟩ := Cond.superclass_spec a1 w1
  have ne := ids_ne a1 g1 h1
  have gi : kt.isInterface = false := by simp at g4; exact g4.1
  refine ⟨c, t, a1, g1, ?_⟩
  show Z.vm.assignableAux (255 + 1) c t = false
  simp [Vm.assignableAux, ne, b2, g2, b5, g3, gi, Vm.isSubclass, a3]
/-- a class straight under Object is no subclass of another ordinary class -/
theorem notSub {Z : State} {a0 : Array Value} {D O K : String} {k : Nat} (w1 : (Cond.superclass D O).before a0 Z = true) (w2 : (Cond.noSuperclass O).before a0 Z = true) (w4 : (Cond.instantiable K k).before a0 Z = true) (h1 : D ≠ K) (h2 : O ≠ K) : ∃ c t, Z.vm.findClass D = some c ∧ Z.vm.findClass K = some t ∧ Z.vm.assignable c t = false :=
  nsNo w1 w4 (NS.step w1 (nsRoot w2 w4 h2) h1) h1
set_option maxRecDepth 65536 in
set_option maxHeartbeats 40000000 in
theorem comes_1 {Post : Tables → Env → Array Value → State → Outcome → State → Prop} (hpost : ∀ tb e args s v u, (limb_1_1.after args s (.returned v) u = true ∧ limb_1_2.after args s (.returned v) u = true ∧ True) → ReturnedEndW s (.returned v) u (Jvm.fieldLocs frame_1_writes args s ++ Jvm.arrayLocs frame_1_arrays args s ++ Jvm.staticLocs frame_1_statics s) 48 3264 → Post tb e args s (.returned v) u) :
    ArmFor flags0 classFile x code maxLocals ret World_1 tables_1 room_1 Calls_1 rest_1 Pre_1 Post := by
  intro l hfl _ _ p e ha hc hk s m args below hf hA hF happ hP
  obtain ⟨hcalls, hrest, hpre⟩ := hP
  obtain ⟨-, -, -, hnamed, -, -, -, hat⟩ := (Spec.applies_iff hf).mp happ
  obtain ⟨hg, hn⟩ := and_e (Cond.before_iff.mp (show (Jvm.Cond.and given_1 narrow_1).before args s = true from hpre))
  obtain ⟨g0, r0⟩ := and_e hg
  obtain ⟨g1, r1⟩ := and_e r0
  obtain ⟨g2, r2⟩ := and_e r1
  obtain ⟨g3, r3⟩ := and_e r2
  obtain ⟨w0, w1, w2, w3, rfl⟩ : ∃ w0 w1 w2 w3 : Value, args = #[w0, w1, w2, w3] := by
    have hs : args.size = 4 := by simpa [Cond.value, given_1] using g0
    obtain ⟨L⟩ := args
    match L, hs with
    | [w0, w1, w2, w3], _ => exact ⟨w0, w1, w2, w3, rfl⟩
  have hw := fun d (hd : d ∈ tables_1) => atoms_spec (ws := Jvm.Cond.code x code maxLocals ret :: tables_1) hat d (List.mem_cons_of_mem _ hd)
  obtain ⟨hsets, hown0⟩ := atoms_of _ (rest_1_c_eq ▸ (show rest_1_c.before _ s = true from hrest))
  obtain ⟨i0, ei0⟩ := is_v g1
  obtain rfl : w0 = (.int i0) := Option.some.inj ei0
  obtain ⟨i1, ei1⟩ := is_v g2
  obtain rfl : w1 = (.int i1) := Option.some.inj ei1
  obtain ⟨i2, ei2⟩ := is_v g3
  obtain rfl : w2 = (.int i2) := Option.some.inj ei2
  obtain ⟨i3, ei3⟩ := is_v r3
  obtain rfl : w3 = (.int i3) := Option.some.inj ei3
  have n3 := not_v (Cond.before_iff.mp (hsets _ (List.mem_of_getElem? (i := 2) rfl)))
  obtain ⟨cz, ecz⟩ := is_v (Cond.before_iff.mp (hsets _ (List.mem_of_getElem? (i := 1) rfl)))
  have C0 : Sta s s.heap "java/lang/String" "COMPACT_STRINGS" "Z" (.int cz) := Sta.start ecz (Or.inl (hsets _ (List.mem_of_getElem? (i := 0) rfl)))
  have hcz : ¬ (cz = (0 : Int32)) := gotF (Cond.eq_ints ecz (Term.int_eval (0))) n3
  have hno := notSub (hw _ (List.mem_of_getElem? (i := 96) rfl)) (hw _ (List.mem_of_getElem? (i := 97) rfl)) (hw _ (List.mem_of_getElem? (i := 27) rfl)) (by decide) (by decide)
  have hEx : Ext s.heap s.heap := ⟨Nat.le_refl _, fun _ _ q => q⟩
  have hEW : EW s #[(.int i0), (.int i1), (.int i2), (.int i3)] el := EW.nil
  have hCH : CHv s el s.vm s.heap := fun p hp => (nomatch hp)
  obtain ⟨n, o, h1, h2, h3, v, L, rfl, ⟨N, -, -, rfl⟩, hq⟩ := ctLaw l s _ hw i0 i1 i2 i3 cz s.heap C0 hcz hno tables_1 hEW hEx p e ha hc hk s m _ below hf ((Spec.applies_iff_loose hf).mp happ).1 ⟨rfl, State.Warmed39.refl s, rfl, hCH, all0⟩ trivial
  have hq : ReturnedEndW s _ _ L room_1.cells room_1.slots := hq
  exact ⟨n, _, h1, h2, h3, hpost _ _ _ _ _ _ ⟨Cond.after_iff.mpr rfl, Cond.after_iff.mpr (eq_i res_at (Term.int_eval (1)) rfl), trivial⟩ ⟨hq.1, hq.2.1, hq.2.2.1, (hq.2.2.2.sift fun y hy => Or.inr (N y hy)).mono (by decide) (by decide)⟩⟩
theorem main_1_1 : Claimed_1_1 := comes_1 fun _ _ _ _ _ _ h hF => ⟨h.1, hF⟩
theorem main_1_2 : Claimed_1_2 := comes_1 fun _ _ _ _ _ _ h hF => ⟨h.2.1, hF⟩
end Jvm.Pilot.@@N@@
namespace Jvm.Pilot.@@N@@
open Jvm Jvm.ClassFile Sem Op Lib Jvm.Free Jvm.Stand Jvm.Pilot.@@N@@.Jvm.D
/-! MADE BY PROGRAM (witnessworld.py) out of the Statement's table words and the real class files: 23 classes; the members and pool entries that the words name. The judged class is class 1, her method 1. -/
namespace start1
open Jvm.ClassFile
def u (s : String) : CpInfo := .utf8 (stringToUtf16 s)
/-- a pool by its gaps: so many unusable entries, then the entry; so many at the end -/
def gap : Nat → List CpInfo → List CpInfo
  | 0, r => r
  | n + 1, r => .unusable :: gap n r
def poolList (es : List (Nat × CpInfo)) (last : Nat) : List CpInfo := es.foldr (fun e r => gap e.1 (e.2 :: r)) (gap last [])
def pool (es : List (Nat × CpInfo)) (last : Nat) : Array CpInfo := ⟨poolList es last⟩
def fileOf (pool : Array CpInfo) (this : Nat) (attrs : Array Attribute := #[]) (ms : Array MethodInfo := #[]) (fl : Nat := 33) (sup : Nat := 0) (ifs : Array Nat := #[]) (fds : Array FieldInfo := #[]) : ClassFile where
  minorVersion := 0
  majorVersion := 65
  constantPool := pool
  accessFlags := fl
  thisClass := this
  superClass := sup
  interfaces := ifs
  fields := fds
  methods := ms
  attributes := attrs
def plain (name : String) (sup : Option ClassId) : Class where
  name := name
  kind := .ordinary
  loader := none
  accessFlags := 33
  super := sup
  interfaces := #[]
  cf := none
  fields := #[]
  methods := #[]
  instanceTypes := #[]
  staticTypes := #[]
  resolved := #[]
  callSites := []
  init := .initialized
  statics := none
  mirror := none

def pool0 : Array CpInfo := pool [(5, u "<init>"), (0, u "()V"), (1, .class_ 10), (1, u "java/lang/Object"), (16, u "hashCode"), (0, u "()I")] 95

def k0c0 : Code := { maxStack := 0, maxLocals := 1, code := object_method_1_code, exceptionTable := #[], attributes := #[] }
def k0m0 : Method := { name := "<init>", desc := "()V", sig := { parameters := [], returnType := none }, accessFlags := 1, code := some k0c0 }
def k0m1 : Method := { name := "hashCode", desc := "()I", sig := { parameters := [], returnType := some .int }, accessFlags := 257, code := none }
/-- java/lang/Object -/
def k0 : Class := { plain "java/lang/Object" none with
  accessFlags := 33
  interfaces := #[]
  cf := some (fileOf pool0 8 #[] #[{ accessFlags := 1, nameIndex := 5, descriptorIndex := 6, attributes := #[] }, { accessFlags := 257, nameIndex := 27, descriptorIndex := 28, attributes := #[] }] 33 0 #[] #[])
  fields := #[]
  methods := #[k0m0, k0m1]
  instanceTypes := #[]
  staticTypes := #[]
  resolved := Array.replicate 124 none
  statics := none }

def pool1 : Array CpInfo := pool [(2, .class_ 4), (1, u "java/lang/Object"), (0, u "<init>"), (0, u "()V"), (0, .methodref 8 9), (0, .class_ 10), (0, .nameAndType 11 12), (0, u "java/lang/String"), (0, u "valueOf"), (0, u "(C)Ljava/lang/String;"), (0, .methodref 8 14), (0, .nameAndType 5 15), (0, u "([C)V"), (0, .class_ 17), (0, u "com/example/holdfast/holdfast/redis/LockKeys"), (0, .methodref 16 19), (0, .nameAndType 5 20), (0, u "(Ljava/lang/String;Ljava/lang/String;Ljava/lang/String;I)V"), (0, .methodref 16 22), (0, .nameAndType 23 24), (0, u "equals"), (0, u "(Ljava/lang/Object;)Z"), (0, .class_ 26), (0, u "com/example/holdfast/holdfast/redis/LockKeysEqualsPinLaw"), (2, u "law"), (0, u "(IIII)Z")] 3

def k1m0 : Method := { name := "<init>", desc := "()V", sig := { parameters := [], returnType := none }, accessFlags := 1, code := none }
def k1c1 : Code := { maxStack := 6, maxLocals := 21, code := code, exceptionTable := #[], attributes := #[] }
def k1m1 : Method := { name := "law", desc := "(IIII)Z", sig := { parameters := [.int, .int, .int, .int], returnType := some .boolean }, accessFlags := 9, code := some k1c1 }
/-- com/example/holdfast/holdfast/redis/LockKeysEqualsPinLaw -/
def k1 : Class := { plain "com/example/holdfast/holdfast/redis/LockKeysEqualsPinLaw" (some 0) with
  accessFlags := 49
  interfaces := #[]
  cf := some (fileOf pool1 25 #[] #[{ accessFlags := 1, nameIndex := 5, descriptorIndex := 6, attributes := #[] }, { accessFlags := 9, nameIndex := 29, descriptorIndex := 30, attributes := #[] }] 49 2 #[] #[])
  fields := #[]
  methods := #[k1m0, k1m1]
  instanceTypes := #[]
  staticTypes := #[]
  resolved := Array.replicate 34 none
  statics := none }

def pool2 : Array CpInfo := pool [(1, .class_ 2), (0, u "java/io/Serializable"), (0, .class_ 4), (0, u "java/lang/Object")] 2

/-- java/io/Serializable -/
def k2 : Class := { plain "java/io/Serializable" (some 0) with
  accessFlags := 1537
  interfaces := #[]
  cf := some (fileOf pool2 1 #[] #[] 1537 3 #[] #[])
  fields := #[]
  methods := #[]
  instanceTypes := #[]
  staticTypes := #[]
  resolved := Array.replicate 7 none
  statics := none }

def pool3 : Array CpInfo := pool [(1, .class_ 2), (0, u "java/lang/Comparable"), (0, .class_ 4), (0, u "java/lang/Object")] 7

/-- java/lang/Comparable -/
def k3 : Class := { plain "java/lang/Comparable" (some 0) with
  accessFlags := 1537
  interfaces := #[]
  cf := some (fileOf pool3 1 #[] #[] 1537 3 #[] #[])
  fields := #[]
  methods := #[]
  instanceTypes := #[]
  staticTypes := #[]
  resolved := Array.replicate 12 none
  statics := none }

def pool4 : Array CpInfo := pool [(2, .class_ 4), (1, u "java/lang/CharSequence"), (42, .class_ 48), (0, u "java/lang/CharSequence$1CodePointIterator"), (10, .class_ 60), (0, u "java/lang/CharSequence$1CharIterator"), (5, .class_ 67), (0, u "java/lang/Object")] 63

/-- java/lang/CharSequence -/
def k4 : Class := { plain "java/lang/CharSequence" (some 0) with
  accessFlags := 1537
  interfaces := #[]
  cf := some (fileOf pool4 2 #[.nestMembers #[47, 59]] #[] 1537 66 #[] #[])
  fields := #[]
  methods := #[]
  instanceTypes := #[]
  staticTypes := #[]
  resolved := Array.replicate 131 none
  statics := none }

def pool5 : Array CpInfo := pool [(1, .class_ 2), (0, u "java/lang/constant/Constable"), (0, .class_ 4), (0, u "java/lang/Object")] 6

/-- java/lang/constant/Constable -/
def k5 : Class := { plain "java/lang/constant/Constable" (some 0) with
  accessFlags := 1537
  interfaces := #[]
  cf := some (fileOf pool5 1 #[] #[] 1537 3 #[] #[])
  fields := #[]
  methods := #[]
  instanceTypes := #[]
  staticTypes := #[]
  resolved := Array.replicate 11 none
  statics := none }

def pool6 : Array CpInfo := pool [(1, .class_ 2), (0, u "java/lang/constant/ConstantDesc"), (0, .class_ 4), (0, u "java/lang/Object")] 32

/-- java/lang/constant/ConstantDesc -/
def k6 : Class := { plain "java/lang/constant/ConstantDesc" (some 0) with
  accessFlags := 1537
  interfaces := #[]
  cf := some (fileOf pool6 1 #[] #[] 1537 3 #[] #[])
  fields := #[]
  methods := #[]
  instanceTypes := #[]
  staticTypes := #[]
  resolved := Array.replicate 37 none
  statics := none }

def pool7 : Array CpInfo := pool [(1, .methodref 2 3), (0, .class_ 4), (0, .nameAndType 5 6), (0, u "java/lang/Object"), (0, u "<init>"), (0, u "()V"), (2, .fieldref 10 11), (0, .class_ 12), (0, .nameAndType 13 14), (0, u "java/lang/String"), (0, u "value"), (0, u "[B"), (0, .fieldref 10 16), (0, .nameAndType 17 18), (0, u "coder"), (0, u "B"), (0, .fieldref 10 20), (0, .nameAndType 21 22), (0, u "hash"), (0, u "I"), (0, .fieldref 10 24), (0, .nameAndType 25 26), (0, u "hashIsZero"), (0, u "Z"), (0, .methodref 10 28), (0, .nameAndType 5 29), (0, u "([CIILjava/lang/Void;)V"), (8, .fieldref 10 39), (0, .nameAndType 40 26), (0, u "COMPACT_STRINGS"), (1, .class_ 44), (1, u "java/lang/StringUTF16"), (0, u "compress"), (1, .methodref 42 48), (0, .nameAndType 49 50), (0, u "coderFromArrayLen"), (0, u "([BI)B"), (2, u "toBytes"), (53, .class_ 109), (1, u "java/lang/StringLatin1"), (32, u "()Z"), (34, .methodref 42 178), (0, .nameAndType 45 179), (0, u "([CII)[B"), (29, .methodref 10 210), (0, .nameAndType 5 211), (0, u "([BB)V"), (122, u "()I"), (34, u "(C)Z"), (122, .methodref 10 493), (0, .nameAndType 494 142), (0, u "isLatin1"), (46, .methodref 107 542), (0, .nameAndType 543 544), (0, u "equals"), (0, u "([B[B)Z"), (28, u "(Ljava/lang/Object;)Z"), (1, .class_ 576), (0, u "java/lang/CharSequence"), (22, u "CASE_INSENSITIVE_ORDER"), (0, u "Ljava/util/Comparator;"), (27, .methodref 107 629), (0, .nameAndType 630 631), (0, u "hashCode"), (0, u "([B)I"), (150, u "valueOf"), (0, u "(C)Ljava/lang/String;"), (226, u "([C)V"), (4, .methodref 107 1016), (0, .nameAndType 1017 369), (0, u "canEncode"), (0, .methodref 107 1019), (0, .nameAndType 53 1020), (0, u "(C)[B"), (80, u "serialPersistentFields"), (0, u "[Ljava/io/ObjectStreamField;"), (0, .class_ 1104), (0, u "java/lang/String$CaseInsensitiveComparator"), (1, .class_ 1107), (0, u "java/io/Serializable"), (0, .class_ 1109), (0, u "java/lang/Comparable"), (0, .class_ 1111), (0, u "java/lang/constant/Constable"), (0, .class_ 1113), (0, u "java/lang/constant/ConstantDesc"), (2, u "serialVersionUID"), (0, u "J"), (3, u "REPL"), (0, u "C"), (2, u "LATIN1"), (1, u "UTF16")] 323

def k7m0 : Method := { name := "<init>", desc := "()V", sig := { parameters := [], returnType := none }, accessFlags := 1, code := none }
def k7c1 : Code := { maxStack := 5, maxLocals := 2, code := jdk_42_method_3_code, exceptionTable := #[], attributes := #[] }
def k7m1 : Method := { name := "<init>", desc := "([C)V", sig := { parameters := [(.array .char)], returnType := none }, accessFlags := 1, code := some k7c1 }
def k7c2 : Code := { maxStack := 2, maxLocals := 3, code := jdk_42_method_66_code, exceptionTable := #[], attributes := #[] }
def k7m2 : Method := { name := "equals", desc := "(Ljava/lang/Object;)Z", sig := { parameters := [(.object "java/lang/Object")], returnType := some .boolean }, accessFlags := 1, code := some k7c2 }
def k7c3 : Code := { maxStack := 2, maxLocals := 2, code := jdk_42_method_78_code, exceptionTable := #[], attributes := #[] }
def k7m3 : Method := { name := "hashCode", desc := "()I", sig := { parameters := [], returnType := some .int }, accessFlags := 1, code := some k7c3 }
def k7c4 : Code := { maxStack := 4, maxLocals := 1, code := jdk_42_method_139_code, exceptionTable := #[], attributes := #[] }
def k7m4 : Method := { name := "valueOf", desc := "(C)Ljava/lang/String;", sig := { parameters := [.char], returnType := some (.object "java/lang/String") }, accessFlags := 9, code := some k7c4 }
def k7c5 : Code := { maxStack := 4, maxLocals := 6, code := jdk_42_method_149_code, exceptionTable := #[], attributes := #[] }
def k7m5 : Method := { name := "<init>", desc := "([CIILjava/lang/Void;)V", sig := { parameters := [(.array .char), .int, .int, (.object "java/lang/Void")], returnType := none }, accessFlags := 2, code := some k7c5 }
def k7c6 : Code := { maxStack := 2, maxLocals := 3, code := jdk_42_method_151_code, exceptionTable := #[], attributes := #[] }
def k7m6 : Method := { name := "<init>", desc := "([BB)V", sig := { parameters := [(.array .byte), .byte], returnType := none }, accessFlags := 0, code := some k7c6 }
def k7c7 : Code := { maxStack := 1, maxLocals := 1, code := jdk_42_method_154_code, exceptionTable := #[], attributes := #[] }
def k7m7 : Method := { name := "isLatin1", desc := "()Z", sig := { parameters := [], returnType := some .boolean }, accessFlags := 0, code := some k7c7 }
/-- java/lang/String -/
def k7 : Class := { plain "java/lang/String" (some 0) with
  accessFlags := 49
  interfaces := #[2, 3, 4, 5, 6]
  cf := some (fileOf pool7 10 #[.nestMembers #[1103]] #[{ accessFlags := 1, nameIndex := 5, descriptorIndex := 6, attributes := #[] }, { accessFlags := 1, nameIndex := 5, descriptorIndex := 1010, attributes := #[] }, { accessFlags := 1, nameIndex := 543, descriptorIndex := 573, attributes := #[] }, { accessFlags := 1, nameIndex := 630, descriptorIndex := 334, attributes := #[] }, { accessFlags := 9, nameIndex := 782, descriptorIndex := 783, attributes := #[] }, { accessFlags := 2, nameIndex := 5, descriptorIndex := 29, attributes := #[] }, { accessFlags := 0, nameIndex := 5, descriptorIndex := 211, attributes := #[] }, { accessFlags := 0, nameIndex := 494, descriptorIndex := 142, attributes := #[] }] 49 2 #[1106, 1108, 575, 1110, 1112] #[{ accessFlags := 18, nameIndex := 13, descriptorIndex := 14, attributes := #[] }, { accessFlags := 18, nameIndex := 17, descriptorIndex := 18, attributes := #[] }, { accessFlags := 2, nameIndex := 21, descriptorIndex := 22, attributes := #[] }, { accessFlags := 2, nameIndex := 25, descriptorIndex := 26, attributes := #[] }, { accessFlags := 26, nameIndex := 1116, descriptorIndex := 1117, attributes := #[] }, { accessFlags := 24, nameIndex := 40, descriptorIndex := 26, attributes := #[] }, { accessFlags := 26, nameIndex := 1101, descriptorIndex := 1102, attributes := #[] }, { accessFlags := 26, nameIndex := 1121, descriptorIndex := 1122, attributes := #[] }, { accessFlags := 25, nameIndex := 599, descriptorIndex := 600, attributes := #[] }, { accessFlags := 24, nameIndex := 1125, descriptorIndex := 18, attributes := #[] }, { accessFlags := 24, nameIndex := 1127, descriptorIndex := 18, attributes := #[] }])
  fields := #[{ name := "value", type := (.array .byte), accessFlags := 18, slot := 0, constantValue := 0 }, { name := "coder", type := .byte, accessFlags := 18, slot := 1, constantValue := 0 }, { name := "hash", type := .int, accessFlags := 2, slot := 2, constantValue := 0 }, { name := "hashIsZero", type := .boolean, accessFlags := 2, slot := 3, constantValue := 0 }, { name := "serialVersionUID", type := .long, accessFlags := 26, slot := 0, constantValue := 0 }, { name := "COMPACT_STRINGS", type := .boolean, accessFlags := 24, slot := 1, constantValue := 0 }, { name := "serialPersistentFields", type := (.array (.object "java/io/ObjectStreamField")), accessFlags := 26, slot := 2, constantValue := 0 }, { name := "REPL", type := .char, accessFlags := 26, slot := 3, constantValue := 0 }, { name := "CASE_INSENSITIVE_ORDER", type := (.object "java/util/Comparator"), accessFlags := 25, slot := 4, constantValue := 0 }, { name := "LATIN1", type := .byte, accessFlags := 24, slot := 5, constantValue := 0 }, { name := "UTF16", type := .byte, accessFlags := 24, slot := 6, constantValue := 0 }]
  methods := #[k7m0, k7m1, k7m2, k7m3, k7m4, k7m5, k7m6, k7m7]
  instanceTypes := #[(.array .byte), .byte, .int, .boolean]
  staticTypes := #[.long, .boolean, (.array (.object "java/io/ObjectStreamField")), .char, (.object "java/util/Comparator"), .byte, .byte]
  resolved := Array.replicate 1451 none
  statics := some 0 }

def pool8 : Array CpInfo := pool [(4, .class_ 6), (1, u "java/lang/Object"), (0, u "<init>"), (0, u "()V"), (5, .class_ 16), (1, u "java/lang/StringLatin1"), (28, .class_ 47), (1, u "jdk/internal/util/ArraysSupport"), (9, u "([B)I"), (26, .methodref 45 85), (0, .nameAndType 86 87), (0, u "vectorizedHashCode"), (0, u "(Ljava/lang/Object;IIII)I"), (2, u "canEncode"), (14, u "(C)Z"), (15, u "$assertionsDisabled"), (0, u "Z"), (98, .class_ 223), (1, u "java/lang/StringLatin1$LinesSpliterator"), (57, u "equals"), (0, u "([B[B)Z"), (15, u "hashCode"), (81, u "toBytes"), (1, u "(C)[B"), (7, .class_ 391), (0, u "java/lang/StringLatin1$CharsSpliterator")] 3

def k8m0 : Method := { name := "<init>", desc := "()V", sig := { parameters := [], returnType := none }, accessFlags := 0, code := none }
def k8c1 : Code := { maxStack := 2, maxLocals := 1, code := jdk_43_method_3_code, exceptionTable := #[], attributes := #[] }
def k8m1 : Method := { name := "canEncode", desc := "(C)Z", sig := { parameters := [.char], returnType := some .boolean }, accessFlags := 9, code := some k8c1 }
def k8c2 : Code := { maxStack := 3, maxLocals := 3, code := jdk_43_method_13_code, exceptionTable := #[], attributes := #[] }
def k8m2 : Method := { name := "equals", desc := "([B[B)Z", sig := { parameters := [(.array .byte), (.array .byte)], returnType := some .boolean }, accessFlags := 9, code := some k8c2 }
def k8c3 : Code := { maxStack := 5, maxLocals := 1, code := jdk_43_method_21_code, exceptionTable := #[], attributes := #[] }
def k8m3 : Method := { name := "hashCode", desc := "([B)I", sig := { parameters := [(.array .byte)], returnType := some .int }, accessFlags := 9, code := some k8c3 }
def k8c4 : Code := { maxStack := 4, maxLocals := 1, code := jdk_43_method_46_code, exceptionTable := #[], attributes := #[] }
def k8m4 : Method := { name := "toBytes", desc := "(C)[B", sig := { parameters := [.char], returnType := some (.array .byte) }, accessFlags := 9, code := some k8c4 }
/-- java/lang/StringLatin1 -/
def k8 : Class := { plain "java/lang/StringLatin1" (some 0) with
  accessFlags := 48
  interfaces := #[]
  cf := some (fileOf pool8 14 #[.nestMembers #[390, 221]] #[{ accessFlags := 0, nameIndex := 7, descriptorIndex := 8, attributes := #[] }, { accessFlags := 9, nameIndex := 90, descriptorIndex := 105, attributes := #[] }, { accessFlags := 9, nameIndex := 281, descriptorIndex := 282, attributes := #[] }, { accessFlags := 9, nameIndex := 298, descriptorIndex := 57, attributes := #[] }, { accessFlags := 9, nameIndex := 380, descriptorIndex := 382, attributes := #[] }] 48 4 #[] #[{ accessFlags := 4120, nameIndex := 121, descriptorIndex := 122, attributes := #[] }])
  fields := #[{ name := "$assertionsDisabled", type := .boolean, accessFlags := 4120, slot := 0, constantValue := 0 }]
  methods := #[k8m0, k8m1, k8m2, k8m3, k8m4]
  instanceTypes := #[]
  staticTypes := #[.boolean]
  resolved := Array.replicate 395 none
  statics := none }

def pool9 : Array CpInfo := pool [(1, .methodref 2 3), (0, .class_ 4), (0, .nameAndType 5 6), (0, u "java/lang/Object"), (0, u "<init>"), (0, u "()V"), (0, .string 8), (0, u "key"), (0, .methodref 10 11), (0, .class_ 12), (0, .nameAndType 13 14), (0, u "java/util/Objects"), (0, u "requireNonNull"), (0, u "(Ljava/lang/Object;Ljava/lang/String;)Ljava/lang/Object;"), (0, .class_ 16), (0, u "java/lang/String"), (0, .fieldref 18 19), (0, .class_ 20), (0, .nameAndType 8 21), (0, u "com/example/holdfast/holdfast/redis/LockKeys"), (0, u "Ljava/lang/String;"), (0, .string 23), (0, u "fenceKey"), (0, .fieldref 18 25), (0, .nameAndType 23 21), (0, .string 27), (0, u "waitersKey"), (0, .fieldref 18 29), (0, .nameAndType 27 21), (0, .fieldref 18 31), (0, .nameAndType 32 33), (0, u "slot"), (0, u "I"), (0, .methodref 10 35), (0, .nameAndType 36 37), (0, u "hash"), (0, u "([Ljava/lang/Object;)I"), (0, .fieldref 18 39), (0, .nameAndType 36 33), (0, .methodref 15 41), (0, .nameAndType 42 43), (0, u "equals"), (0, u "(Ljava/lang/Object;)Z"), (0, u "NO_SLOT"), (2, u "(Ljava/lang/String;Ljava/lang/String;Ljava/lang/String;I)V")] 8

def k9c0 : Code := { maxStack := 5, maxLocals := 5, code := prog_8_method_1_code, exceptionTable := #[], attributes := #[] }
def k9m0 : Method := { name := "<init>", desc := "(Ljava/lang/String;Ljava/lang/String;Ljava/lang/String;I)V", sig := { parameters := [(.object "java/lang/String"), (.object "java/lang/String"), (.object "java/lang/String"), .int], returnType := none }, accessFlags := 0, code := some k9c0 }
def k9c1 : Code := { maxStack := 2, maxLocals := 3, code := prog_8_method_6_code, exceptionTable := #[], attributes := #[] }
def k9m1 : Method := { name := "equals", desc := "(Ljava/lang/Object;)Z", sig := { parameters := [(.object "java/lang/Object")], returnType := some .boolean }, accessFlags := 1, code := some k9c1 }
/-- com/example/holdfast/holdfast/redis/LockKeys -/
def k9 : Class := { plain "com/example/holdfast/holdfast/redis/LockKeys" (some 0) with
  accessFlags := 49
  interfaces := #[]
  cf := some (fileOf pool9 18 #[] #[{ accessFlags := 0, nameIndex := 5, descriptorIndex := 47, attributes := #[] }, { accessFlags := 1, nameIndex := 42, descriptorIndex := 43, attributes := #[] }] 49 2 #[] #[{ accessFlags := 25, nameIndex := 44, descriptorIndex := 33, attributes := #[] }, { accessFlags := 18, nameIndex := 8, descriptorIndex := 21, attributes := #[] }, { accessFlags := 18, nameIndex := 23, descriptorIndex := 21, attributes := #[] }, { accessFlags := 18, nameIndex := 27, descriptorIndex := 21, attributes := #[] }, { accessFlags := 18, nameIndex := 32, descriptorIndex := 33, attributes := #[] }, { accessFlags := 18, nameIndex := 36, descriptorIndex := 33, attributes := #[] }])
  fields := #[{ name := "NO_SLOT", type := .int, accessFlags := 25, slot := 0, constantValue := 0 }, { name := "key", type := (.object "java/lang/String"), accessFlags := 18, slot := 0, constantValue := 0 }, { name := "fenceKey", type := (.object "java/lang/String"), accessFlags := 18, slot := 1, constantValue := 0 }, { name := "waitersKey", type := (.object "java/lang/String"), accessFlags := 18, slot := 2, constantValue := 0 }, { name := "slot", type := .int, accessFlags := 18, slot := 3, constantValue := 0 }, { name := "hash", type := .int, accessFlags := 18, slot := 4, constantValue := 0 }]
  methods := #[k9m0, k9m1]
  instanceTypes := #[(.object "java/lang/String"), (.object "java/lang/String"), (.object "java/lang/String"), .int, .int]
  staticTypes := #[.int]
  resolved := Array.replicate 56 none
  statics := none }

def pool10 : Array CpInfo := pool [(2, .class_ 4), (1, u "java/lang/Object"), (0, u "<init>"), (0, u "()V"), (12, .class_ 21), (1, u "java/util/Arrays"), (4, u "hashCode"), (1, .methodref 19 29), (0, .nameAndType 26 30), (0, u "([Ljava/lang/Object;)I"), (11, .class_ 44), (1, u "java/util/Objects"), (0, u "requireNonNull"), (48, u "(Ljava/lang/Object;Ljava/lang/String;)Ljava/lang/Object;"), (42, u "hash")] 46

def k10m0 : Method := { name := "<init>", desc := "()V", sig := { parameters := [], returnType := none }, accessFlags := 2, code := none }
def k10c1 : Code := { maxStack := 1, maxLocals := 1, code := jdk_31_method_5_code, exceptionTable := #[], attributes := #[] }
def k10m1 : Method := { name := "hash", desc := "([Ljava/lang/Object;)I", sig := { parameters := [(.array (.object "java/lang/Object"))], returnType := some .int }, accessFlags := 137, code := some k10c1 }
def k10c2 : Code := { maxStack := 3, maxLocals := 2, code := jdk_31_method_11_code, exceptionTable := #[], attributes := #[] }
def k10m2 : Method := { name := "requireNonNull", desc := "(Ljava/lang/Object;Ljava/lang/String;)Ljava/lang/Object;", sig := { parameters := [(.object "java/lang/Object"), (.object "java/lang/String")], returnType := some (.object "java/lang/Object") }, accessFlags := 9, code := some k10c2 }
/-- java/util/Objects -/
def k10 : Class := { plain "java/util/Objects" (some 0) with
  accessFlags := 49
  interfaces := #[]
  cf := some (fileOf pool10 42 #[] #[{ accessFlags := 2, nameIndex := 5, descriptorIndex := 6, attributes := #[] }, { accessFlags := 137, nameIndex := 137, descriptorIndex := 30, attributes := #[] }, { accessFlags := 9, nameIndex := 45, descriptorIndex := 94, attributes := #[] }] 49 2 #[] #[])
  fields := #[]
  methods := #[k10m0, k10m1, k10m2]
  instanceTypes := #[]
  staticTypes := #[]
  resolved := Array.replicate 184 none
  statics := none }

def pool11 : Array CpInfo := pool [(2, .class_ 4), (1, u "java/lang/Object"), (0, u "<init>"), (0, u "()V"), (7, .class_ 16), (1, u "java/util/Arrays"), (25, u "()I"), (31, .class_ 76), (1, u "java/util/Arrays$NaturalOrder"), (36, .class_ 115), (1, u "java/util/Arrays$LegacyMergeSort"), (1, u "Z"), (257, .class_ 376), (0, u "java/util/Arrays$ArrayList"), (6, .methodref 2 384), (0, .nameAndType 385 42), (0, u "hashCode"), (3, u "([Ljava/lang/Object;)I"), (55, u "$assertionsDisabled"), (269, u "MIN_ARRAY_SORT_GRAN"), (0, u "I"), (2, u "INSERTIONSORT_THRESHOLD"), (255, .class_ 976), (0, u "java/util/Arrays$ArrayItr")] 52

def k11m0 : Method := { name := "<init>", desc := "()V", sig := { parameters := [], returnType := none }, accessFlags := 2, code := none }
def k11c1 : Code := { maxStack := 2, maxLocals := 6, code := jdk_65_method_157_code, exceptionTable := #[], attributes := #[] }
def k11m1 : Method := { name := "hashCode", desc := "([Ljava/lang/Object;)I", sig := { parameters := [(.array (.object "java/lang/Object"))], returnType := some .int }, accessFlags := 9, code := some k11c1 }
/-- java/util/Arrays -/
def k11 : Class := { plain "java/util/Arrays" (some 0) with
  accessFlags := 49
  interfaces := #[]
  cf := some (fileOf pool11 14 #[.nestMembers #[975, 375, 113, 74]] #[{ accessFlags := 2, nameIndex := 5, descriptorIndex := 6, attributes := #[] }, { accessFlags := 9, nameIndex := 385, descriptorIndex := 389, attributes := #[] }] 49 2 #[] #[{ accessFlags := 26, nameIndex := 715, descriptorIndex := 716, attributes := #[] }, { accessFlags := 26, nameIndex := 719, descriptorIndex := 716, attributes := #[] }, { accessFlags := 4120, nameIndex := 445, descriptorIndex := 117, attributes := #[] }])
  fields := #[{ name := "MIN_ARRAY_SORT_GRAN", type := .int, accessFlags := 26, slot := 0, constantValue := 0 }, { name := "INSERTIONSORT_THRESHOLD", type := .int, accessFlags := 26, slot := 1, constantValue := 0 }, { name := "$assertionsDisabled", type := .boolean, accessFlags := 4120, slot := 2, constantValue := 0 }]
  methods := #[k11m0, k11m1]
  instanceTypes := #[]
  staticTypes := #[.int, .int, .boolean]
  resolved := Array.replicate 1029 none
  statics := none }

def pool12 : Array CpInfo := pool [(6, .class_ 8), (1, u "java/lang/Object"), (0, u "<init>"), (0, u "()V"), (1, .class_ 14), (1, u "java/lang/StringUTF16"), (31, u "$assertionsDisabled"), (0, u "Z"), (13, u "HI_BYTE_SHIFT"), (0, u "I"), (2, u "LO_BYTE_SHIFT"), (49, .methodref 12 116), (0, .nameAndType 117 118), (0, u "compress"), (0, u "([CI[BII)I"), (3, u "([CII)[B"), (138, u "coderFromArrayLen"), (0, u "([BI)B"), (106, .class_ 371), (1, u "java/lang/StringUTF16$LinesSpliterator"), (58, u "MAX_LENGTH"), (196, .class_ 628), (0, u "java/lang/StringUTF16$CodePointsSpliterator"), (0, .class_ 630), (0, u "java/lang/StringUTF16$CharsSpliterator")] 4

def k12m0 : Method := { name := "<init>", desc := "()V", sig := { parameters := [], returnType := none }, accessFlags := 0, code := none }
def k12c1 : Code := { maxStack := 2, maxLocals := 2, code := jdk_52_method_15_code, exceptionTable := #[], attributes := #[] }
def k12m1 : Method := { name := "coderFromArrayLen", desc := "([BI)B", sig := { parameters := [(.array .byte), .int], returnType := some .byte }, accessFlags := 8, code := some k12c1 }
def k12c2 : Code := { maxStack := 5, maxLocals := 6, code := jdk_52_method_16_code, exceptionTable := #[], attributes := #[] }
def k12m2 : Method := { name := "compress", desc := "([CII)[B", sig := { parameters := [(.array .char), .int, .int], returnType := some (.array .byte) }, accessFlags := 9, code := some k12c2 }
def k12c3 : Code := { maxStack := 3, maxLocals := 7, code := jdk_52_method_21_code, exceptionTable := #[], attributes := #[] }
def k12m3 : Method := { name := "compress", desc := "([CI[BII)I", sig := { parameters := [(.array .char), .int, (.array .byte), .int, .int], returnType := some .int }, accessFlags := 9, code := some k12c3 }
/-- java/lang/StringUTF16 -/
def k12 : Class := { plain "java/lang/StringUTF16" (some 0) with
  accessFlags := 48
  interfaces := #[]
  cf := some (fileOf pool12 12 #[.nestMembers #[627, 629, 369]] #[{ accessFlags := 0, nameIndex := 9, descriptorIndex := 10, attributes := #[] }, { accessFlags := 8, nameIndex := 261, descriptorIndex := 262, attributes := #[] }, { accessFlags := 9, nameIndex := 117, descriptorIndex := 122, attributes := #[] }, { accessFlags := 9, nameIndex := 117, descriptorIndex := 118, attributes := #[] }] 48 6 #[] #[{ accessFlags := 26, nameIndex := 61, descriptorIndex := 62, attributes := #[] }, { accessFlags := 26, nameIndex := 65, descriptorIndex := 62, attributes := #[] }, { accessFlags := 24, nameIndex := 430, descriptorIndex := 62, attributes := #[] }, { accessFlags := 4120, nameIndex := 46, descriptorIndex := 47, attributes := #[] }])
  fields := #[{ name := "HI_BYTE_SHIFT", type := .int, accessFlags := 26, slot := 0, constantValue := 0 }, { name := "LO_BYTE_SHIFT", type := .int, accessFlags := 26, slot := 1, constantValue := 0 }, { name := "MAX_LENGTH", type := .int, accessFlags := 24, slot := 2, constantValue := 0 }, { name := "$assertionsDisabled", type := .boolean, accessFlags := 4120, slot := 3, constantValue := 0 }]
  methods := #[k12m0, k12m1, k12m2, k12m3]
  instanceTypes := #[]
  staticTypes := #[.int, .int, .int, .boolean]
  resolved := Array.replicate 635 none
  statics := none }

def pool13 : Array CpInfo := pool [(9, u "<init>"), (6, .class_ 18), (1, u "java/lang/Object"), (0, u "()V"), (1, .class_ 23), (1, u "jdk/internal/util/ArraysSupport"), (0, u "LOG2_ARRAY_LONG_INDEX_SCALE"), (0, u "I"), (2, u "U"), (0, u "Ljdk/internal/misc/Unsafe;"), (8, u "BIG_ENDIAN"), (0, u "Z"), (8, u "LOG2_BYTE_BIT_SIZE"), (4, u "LOG2_ARRAY_INT_INDEX_SCALE"), (6, .class_ 61), (0, u "[B"), (0, .methodref 21 63), (0, .nameAndType 64 65), (0, u "signedHashCode"), (0, u "(I[BII)I"), (42, u "JLA"), (0, u "Ljdk/internal/access/JavaLangAccess;"), (11, u "LOG2_ARRAY_BOOLEAN_INDEX_SCALE"), (9, u "LOG2_ARRAY_BYTE_INDEX_SCALE"), (5, u "LOG2_ARRAY_CHAR_INDEX_SCALE"), (5, u "LOG2_ARRAY_SHORT_INDEX_SCALE"), (18, u "LOG2_ARRAY_FLOAT_INDEX_SCALE"), (24, u "LOG2_ARRAY_DOUBLE_INDEX_SCALE"), (89, u "T_BOOLEAN"), (2, u "T_CHAR"), (1, u "T_FLOAT"), (1, u "T_DOUBLE"), (1, u "T_BYTE"), (1, u "T_SHORT"), (1, u "T_INT"), (1, u "T_LONG"), (1, u "SOFT_MAX_ARRAY_LENGTH"), (26, u "vectorizedHashCode"), (0, u "(Ljava/lang/Object;IIII)I")] 55

def k13m0 : Method := { name := "<init>", desc := "()V", sig := { parameters := [], returnType := none }, accessFlags := 2, code := none }
def k13c1 : Code := { maxStack := 4, maxLocals := 5, code := jdk_48_method_4_code, exceptionTable := #[], attributes := #[] }
def k13m1 : Method := { name := "vectorizedHashCode", desc := "(Ljava/lang/Object;IIII)I", sig := { parameters := [(.object "java/lang/Object"), .int, .int, .int, .int], returnType := some .int }, accessFlags := 9, code := some k13c1 }
def k13c2 : Code := { maxStack := 3, maxLocals := 6, code := jdk_48_method_5_code, exceptionTable := #[], attributes := #[] }
def k13m2 : Method := { name := "signedHashCode", desc := "(I[BII)I", sig := { parameters := [.int, (.array .byte), .int, .int], returnType := some .int }, accessFlags := 10, code := some k13c2 }
/-- jdk/internal/util/ArraysSupport -/
def k13 : Class := { plain "jdk/internal/util/ArraysSupport" (some 0) with
  accessFlags := 33
  interfaces := #[]
  cf := some (fileOf pool13 21 #[] #[{ accessFlags := 2, nameIndex := 9, descriptorIndex := 19, attributes := #[] }, { accessFlags := 9, nameIndex := 321, descriptorIndex := 322, attributes := #[] }, { accessFlags := 10, nameIndex := 64, descriptorIndex := 65, attributes := #[] }] 33 16 #[] #[{ accessFlags := 24, nameIndex := 28, descriptorIndex := 29, attributes := #[] }, { accessFlags := 26, nameIndex := 38, descriptorIndex := 39, attributes := #[] }, { accessFlags := 25, nameIndex := 121, descriptorIndex := 25, attributes := #[] }, { accessFlags := 25, nameIndex := 131, descriptorIndex := 25, attributes := #[] }, { accessFlags := 25, nameIndex := 137, descriptorIndex := 25, attributes := #[] }, { accessFlags := 25, nameIndex := 143, descriptorIndex := 25, attributes := #[] }, { accessFlags := 25, nameIndex := 53, descriptorIndex := 25, attributes := #[] }, { accessFlags := 25, nameIndex := 24, descriptorIndex := 25, attributes := #[] }, { accessFlags := 25, nameIndex := 162, descriptorIndex := 25, attributes := #[] }, { accessFlags := 25, nameIndex := 187, descriptorIndex := 25, attributes := #[] }, { accessFlags := 26, nameIndex := 48, descriptorIndex := 25, attributes := #[] }, { accessFlags := 25, nameIndex := 277, descriptorIndex := 25, attributes := #[] }, { accessFlags := 25, nameIndex := 280, descriptorIndex := 25, attributes := #[] }, { accessFlags := 25, nameIndex := 282, descriptorIndex := 25, attributes := #[] }, { accessFlags := 25, nameIndex := 284, descriptorIndex := 25, attributes := #[] }, { accessFlags := 25, nameIndex := 286, descriptorIndex := 25, attributes := #[] }, { accessFlags := 25, nameIndex := 288, descriptorIndex := 25, attributes := #[] }, { accessFlags := 25, nameIndex := 290, descriptorIndex := 25, attributes := #[] }, { accessFlags := 25, nameIndex := 292, descriptorIndex := 25, attributes := #[] }, { accessFlags := 26, nameIndex := 108, descriptorIndex := 109, attributes := #[] }, { accessFlags := 25, nameIndex := 294, descriptorIndex := 25, attributes := #[] }])
  fields := #[{ name := "U", type := (.object "jdk/internal/misc/Unsafe"), accessFlags := 24, slot := 0, constantValue := 0 }, { name := "BIG_ENDIAN", type := .boolean, accessFlags := 26, slot := 1, constantValue := 0 }, { name := "LOG2_ARRAY_BOOLEAN_INDEX_SCALE", type := .int, accessFlags := 25, slot := 2, constantValue := 0 }, { name := "LOG2_ARRAY_BYTE_INDEX_SCALE", type := .int, accessFlags := 25, slot := 3, constantValue := 0 }, { name := "LOG2_ARRAY_CHAR_INDEX_SCALE", type := .int, accessFlags := 25, slot := 4, constantValue := 0 }, { name := "LOG2_ARRAY_SHORT_INDEX_SCALE", type := .int, accessFlags := 25, slot := 5, constantValue := 0 }, { name := "LOG2_ARRAY_INT_INDEX_SCALE", type := .int, accessFlags := 25, slot := 6, constantValue := 0 }, { name := "LOG2_ARRAY_LONG_INDEX_SCALE", type := .int, accessFlags := 25, slot := 7, constantValue := 0 }, { name := "LOG2_ARRAY_FLOAT_INDEX_SCALE", type := .int, accessFlags := 25, slot := 8, constantValue := 0 }, { name := "LOG2_ARRAY_DOUBLE_INDEX_SCALE", type := .int, accessFlags := 25, slot := 9, constantValue := 0 }, { name := "LOG2_BYTE_BIT_SIZE", type := .int, accessFlags := 26, slot := 10, constantValue := 0 }, { name := "T_BOOLEAN", type := .int, accessFlags := 25, slot := 11, constantValue := 0 }, { name := "T_CHAR", type := .int, accessFlags := 25, slot := 12, constantValue := 0 }, { name := "T_FLOAT", type := .int, accessFlags := 25, slot := 13, constantValue := 0 }, { name := "T_DOUBLE", type := .int, accessFlags := 25, slot := 14, constantValue := 0 }, { name := "T_BYTE", type := .int, accessFlags := 25, slot := 15, constantValue := 0 }, { name := "T_SHORT", type := .int, accessFlags := 25, slot := 16, constantValue := 0 }, { name := "T_INT", type := .int, accessFlags := 25, slot := 17, constantValue := 0 }, { name := "T_LONG", type := .int, accessFlags := 25, slot := 18, constantValue := 0 }, { name := "JLA", type := (.object "jdk/internal/access/JavaLangAccess"), accessFlags := 26, slot := 19, constantValue := 0 }, { name := "SOFT_MAX_ARRAY_LENGTH", type := .int, accessFlags := 25, slot := 20, constantValue := 0 }]
  methods := #[k13m0, k13m1, k13m2]
  instanceTypes := #[]
  staticTypes := #[(.object "jdk/internal/misc/Unsafe"), .boolean, .int, .int, .int, .int, .int, .int, .int, .int, .int, .int, .int, .int, .int, .int, .int, .int, .int, (.object "jdk/internal/access/JavaLangAccess"), .int]
  resolved := Array.replicate 378 none
  statics := none }

def pool14 : Array CpInfo := pool [(2, .class_ 4), (1, u "java/lang/Object"), (0, u "<init>"), (0, u "()V"), (17, .class_ 26), (1, u "jdk/internal/util/Preconditions"), (28, .class_ 56), (0, u "jdk/internal/util/Preconditions$4"), (57, .class_ 115), (0, u "jdk/internal/util/Preconditions$1"), (7, u "SIOOBE_FORMATTER"), (0, u "Ljava/util/function/BiFunction;"), (0, .class_ 126), (0, u "jdk/internal/util/Preconditions$2"), (3, u "AIOOBE_FORMATTER"), (0, .class_ 132), (0, u "jdk/internal/util/Preconditions$3"), (3, u "IOOBE_FORMATTER")] 57

def k14m0 : Method := { name := "<init>", desc := "()V", sig := { parameters := [], returnType := none }, accessFlags := 1, code := none }
/-- jdk/internal/util/Preconditions -/
def k14 : Class := { plain "jdk/internal/util/Preconditions" (some 0) with
  accessFlags := 33
  interfaces := #[]
  cf := some (fileOf pool14 24 #[.nestMembers #[55, 131, 125, 114]] #[{ accessFlags := 1, nameIndex := 5, descriptorIndex := 6, attributes := #[] }] 33 2 #[] #[{ accessFlags := 25, nameIndex := 123, descriptorIndex := 124, attributes := #[] }, { accessFlags := 25, nameIndex := 130, descriptorIndex := 124, attributes := #[] }, { accessFlags := 25, nameIndex := 136, descriptorIndex := 124, attributes := #[] }])
  fields := #[{ name := "SIOOBE_FORMATTER", type := (.object "java/util/function/BiFunction"), accessFlags := 25, slot := 0, constantValue := 0 }, { name := "AIOOBE_FORMATTER", type := (.object "java/util/function/BiFunction"), accessFlags := 25, slot := 1, constantValue := 0 }, { name := "IOOBE_FORMATTER", type := (.object "java/util/function/BiFunction"), accessFlags := 25, slot := 2, constantValue := 0 }]
  methods := #[k14m0]
  instanceTypes := #[]
  staticTypes := #[(.object "java/util/function/BiFunction"), (.object "java/util/function/BiFunction"), (.object "java/util/function/BiFunction")]
  resolved := Array.replicate 194 none
  statics := some 1 }

def pool15 : Array CpInfo := pool [(1, u "java/lang/Cloneable"), (0, .class_ 1), (0, u "java/lang/Object"), (0, .class_ 3)] 3

/-- java/lang/Cloneable -/
def k15 : Class := { plain "java/lang/Cloneable" (some 0) with
  accessFlags := 1537
  interfaces := #[]
  cf := some (fileOf pool15 2 #[] #[] 1537 4 #[] #[])
  fields := #[]
  methods := #[]
  instanceTypes := #[]
  staticTypes := #[]
  resolved := Array.replicate 8 none
  statics := none }

/-- the primitive byte -/
def k16 : Class := { plain "byte" none with kind := .primitive 'B', accessFlags := 0x411 }
/-- [B -/
def k17 : Class := { plain "[B" (some 0) with kind := .array 16 .byte, interfaces := #[15, 2], accessFlags := 1041 }

/-- the primitive char -/
def k18 : Class := { plain "char" none with kind := .primitive 'C', accessFlags := 0x411 }
/-- [C -/
def k19 : Class := { plain "[C" (some 0) with kind := .array 18 .char, interfaces := #[15, 2], accessFlags := 1041 }

/-- the primitive int -/
def k20 : Class := { plain "int" none with kind := .primitive 'I', accessFlags := 0x411 }
/-- [I -/
def k21 : Class := { plain "[I" (some 0) with kind := .array 20 .int, interfaces := #[15, 2], accessFlags := 1041 }

/-- [Ljava/lang/Object; -/
def k22 : Class := { plain "[Ljava/lang/Object;" (some 0) with kind := .array 0 (.object "java/lang/Object"), interfaces := #[15, 2], accessFlags := 1041 }

def heap : Heap := #[{ cls := 7, slots := #[.long 0, .int 1, .null, .int 0, .null, .int 0, .int 0], vm := .statics 7 },
  { cls := 14, slots := #[.null, .null, .null], vm := .statics 14 }]
def classes : Array Class := #[k0, k1, k2, k3, k4, k5, k6, k7, k8, k9, k10, k11, k12, k13, k14, k15, k16, k17, k18, k19, k20, k21, k22]
def interned : List (Array UInt16 × Addr) := []
def slotsUsed : Nat := 10
def theMethod : MethodId := ⟨1, 1⟩
def args0 : Array Value := #[.int 5, .int 5, .int 5, .int 5]
def aboutOver (below : List Frame) : State where
  vm := { classes := classes, interned := interned.toArray }
  heap := heap
  slotsUsed := slotsUsed
  threads := #[{ frames := .invoking theMethod args0 :: below }]
def below0 : List Frame := [.native { method := ⟨0, 0⟩, args := #[] }]
def about1 : State := aboutOver below0
def p0 : Program := .bare "" "" ""
def e0 : Env := launch0.env 0 0 0
theorem w_frames : about1.frames = Frame.invoking theMethod args0 :: below0 := rfl
set_option maxRecDepth 65536 in
theorem w_args : argsFit about1.vm theMethod args0 = true := by decide +kernel
set_option maxRecDepth 65536 in
theorem w_heap : heapFits about1 = true := by decide +kernel
set_option maxRecDepth 65536 in
theorem w_runnable : about1.curStatus? = some .runnable := by decide +kernel
set_option maxRecDepth 65536 in
theorem w_alone : about1.alone = true := by decide +kernel
set_option maxRecDepth 65536 in
theorem w_named : about1.methodNamed? x = some theMethod := by decide +kernel
set_option maxRecDepth 65536 in
theorem w_hears : about1.hears theMethod below0 = true := by decide +kernel
set_option maxRecDepth 65536 in
theorem w_ripe : about1.ripe theMethod args0 below0 = true := by decide +kernel
theorem w_running : about1.status = .running := rfl
set_option maxRecDepth 65536 in
theorem w_room : about1.hasRoom e0.platform room_1 = true :=
  launch0.hasRoom_least _ room_1 (by decide +kernel) (by decide +kernel) (by decide +kernel) (by decide +kernel) (by decide +kernel) (by decide +kernel)
theorem allAtoms_all (ts : List Jvm.Cond) (a : Array Jvm.Value) (st : Jvm.State) : (allAtoms ts).before a st = ts.all (fun c => c.before a st) := by
  induction ts with
  | nil => rfl
  | cons c t ih =>
    show (Jvm.Cond.and c (allAtoms t)).before a st = _
    rw [Jvm.Cond.before_and, ih, List.all_cons]
def words1 : List Jvm.Cond := Jvm.Cond.code x code maxLocals ret :: tables_1
/-- a 'code' word, met by the world's own term for the bytes: nothing is compared byte by byte -/
theorem code_word {y : MethodName} {bytes : ByteArray} {mx : Nat} {rt : Option FieldType} {a : Array Value} {s : State} {m : MethodId} {meth : Method} {c : Code} (h1 : s.methodNamed? y = some m) (h2 : s.vm.method? m = some meth) (h3 : meth.code = some c) (h4 : c.code = bytes)
    (h5 : (c.maxLocals == mx && c.exceptionTable.isEmpty && decide (c.maxStack ≤ mostOperands) && decide (meth.sig.returnType = rt) && !meth.locks && decide (parseMethodDescriptor y.desc = some meth.sig)) = true) : (Jvm.Cond.code y bytes mx rt).before a s = true := by
  simp only [Bool.and_eq_true, beq_iff_eq, Bool.not_eq_true', decide_eq_true_eq] at h5
  obtain ⟨⟨⟨⟨⟨g1, g2⟩, g3⟩, g4⟩, g5⟩, g6⟩ := h5
  simp [Cond.before, Cond.holds, Cond.value, h1, h2, h3, h4, g1, g2, g3, g4, g5, g6]
def isCode : Jvm.Cond → Bool
  | .code _ _ _ _ => true
  | _ => false
theorem all_split {L : List Jvm.Cond} {P : Jvm.Cond → Bool} (h1 : L.all (fun c => isCode c || P c) = true) (h2 : ∀ c ∈ L.filter isCode, P c = true) : L.all P = true := by
  refine List.all_eq_true.mpr fun c hc => ?_
  have h := List.all_eq_true.mp h1 c hc
  rcases Bool.eq_false_or_eq_true (isCode c) with hi | hi
  · exact h2 c (List.mem_filter.mpr ⟨hc, hi⟩)
  · simpa [hi] using h
set_option maxRecDepth 65536 in
theorem w_c0 : (Jvm.Cond.code x code maxLocals ret).before args0 about1 = true := code_word (m := ⟨1, 1⟩) (meth := k1m1) (c := k1c1) (by decide +kernel) rfl rfl rfl (by decide +kernel)
set_option maxRecDepth 65536 in
theorem w_c1 : (Jvm.Cond.code ({ cls := "java/lang/String", name := "valueOf", desc := "(C)Ljava/lang/String;" } : Jvm.MethodName) jdk_42_method_139_code (1 : Nat) (Option.some (Jvm.ClassFile.FieldType.object "java/lang/String"))).before args0 about1 = true := code_word (m := ⟨7, 4⟩) (meth := k7m4) (c := k7c4) (by decide +kernel) rfl rfl rfl (by decide +kernel)
set_option maxRecDepth 65536 in
theorem w_c2 : (Jvm.Cond.code ({ cls := "java/lang/StringLatin1", name := "canEncode", desc := "(C)Z" } : Jvm.MethodName) jdk_43_method_3_code (1 : Nat) (Option.some Jvm.ClassFile.FieldType.boolean)).before args0 about1 = true := code_word (m := ⟨8, 1⟩) (meth := k8m1) (c := k8c1) (by decide +kernel) rfl rfl rfl (by decide +kernel)
set_option maxRecDepth 65536 in
theorem w_c3 : (Jvm.Cond.code ({ cls := "java/lang/StringLatin1", name := "toBytes", desc := "(C)[B" } : Jvm.MethodName) jdk_43_method_46_code (1 : Nat) (Option.some (Jvm.ClassFile.FieldType.array Jvm.ClassFile.FieldType.byte))).before args0 about1 = true := code_word (m := ⟨8, 4⟩) (meth := k8m4) (c := k8c4) (by decide +kernel) rfl rfl rfl (by decide +kernel)
set_option maxRecDepth 65536 in
theorem w_c4 : (Jvm.Cond.code ({ cls := "java/lang/String", name := "<init>", desc := "([BB)V" } : Jvm.MethodName) jdk_42_method_151_code (3 : Nat) (Option.none : Option Jvm.ClassFile.FieldType)).before args0 about1 = true := code_word (m := ⟨7, 6⟩) (meth := k7m6) (c := k7c6) (by decide +kernel) rfl rfl rfl (by decide +kernel)
set_option maxRecDepth 65536 in
theorem w_c5 : (Jvm.Cond.code ({ cls := "java/lang/Object", name := "<init>", desc := "()V" } : Jvm.MethodName) object_method_1_code (1 : Nat) (Option.none : Option Jvm.ClassFile.FieldType)).before args0 about1 = true := code_word (m := ⟨0, 0⟩) (meth := k0m0) (c := k0c0) (by decide +kernel) rfl rfl rfl (by decide +kernel)
set_option maxRecDepth 65536 in
theorem w_c6 : (Jvm.Cond.code ({ cls := "com/example/holdfast/holdfast/redis/LockKeys", name := "<init>", desc := "(Ljava/lang/String;Ljava/lang/String;Ljava/lang/String;I)V" } : Jvm.MethodName) prog_8_method_1_code (5 : Nat) (Option.none : Option Jvm.ClassFile.FieldType)).before args0 about1 = true := code_word (m := ⟨9, 0⟩) (meth := k9m0) (c := k9c0) (by decide +kernel) rfl rfl rfl (by decide +kernel)
set_option maxRecDepth 65536 in
theorem w_c7 : (Jvm.Cond.code ({ cls := "java/util/Objects", name := "requireNonNull", desc := "(Ljava/lang/Object;Ljava/lang/String;)Ljava/lang/Object;" } : Jvm.MethodName) jdk_31_method_11_code (2 : Nat) (Option.some (Jvm.ClassFile.FieldType.object "java/lang/Object"))).before args0 about1 = true := code_word (m := ⟨10, 2⟩) (meth := k10m2) (c := k10c2) (by decide +kernel) rfl rfl rfl (by decide +kernel)
set_option maxRecDepth 65536 in
theorem w_c8 : (Jvm.Cond.code ({ cls := "java/util/Objects", name := "hash", desc := "([Ljava/lang/Object;)I" } : Jvm.MethodName) jdk_31_method_5_code (1 : Nat) (Option.some Jvm.ClassFile.FieldType.int)).before args0 about1 = true := code_word (m := ⟨10, 1⟩) (meth := k10m1) (c := k10c1) (by decide +kernel) rfl rfl rfl (by decide +kernel)
set_option maxRecDepth 65536 in
theorem w_c9 : (Jvm.Cond.code ({ cls := "java/util/Arrays", name := "hashCode", desc := "([Ljava/lang/Object;)I" } : Jvm.MethodName) jdk_65_method_157_code (6 : Nat) (Option.some Jvm.ClassFile.FieldType.int)).before args0 about1 = true := code_word (m := ⟨11, 1⟩) (meth := k11m1) (c := k11c1) (by decide +kernel) rfl rfl rfl (by decide +kernel)
set_option maxRecDepth 65536 in
theorem w_c10 : (Jvm.Cond.code ({ cls := "java/lang/String", name := "hashCode", desc := "()I" } : Jvm.MethodName) jdk_42_method_78_code (2 : Nat) (Option.some Jvm.ClassFile.FieldType.int)).before args0 about1 = true := code_word (m := ⟨7, 3⟩) (meth := k7m3) (c := k7c3) (by decide +kernel) rfl rfl rfl (by decide +kernel)
set_option maxRecDepth 65536 in
theorem w_c11 : (Jvm.Cond.code ({ cls := "java/lang/String", name := "isLatin1", desc := "()Z" } : Jvm.MethodName) jdk_42_method_154_code (1 : Nat) (Option.some Jvm.ClassFile.FieldType.boolean)).before args0 about1 = true := code_word (m := ⟨7, 7⟩) (meth := k7m7) (c := k7c7) (by decide +kernel) rfl rfl rfl (by decide +kernel)
set_option maxRecDepth 65536 in
theorem w_c12 : (Jvm.Cond.code ({ cls := "java/lang/StringLatin1", name := "hashCode", desc := "([B)I" } : Jvm.MethodName) jdk_43_method_21_code (1 : Nat) (Option.some Jvm.ClassFile.FieldType.int)).before args0 about1 = true := code_word (m := ⟨8, 3⟩) (meth := k8m3) (c := k8c3) (by decide +kernel) rfl rfl rfl (by decide +kernel)
set_option maxRecDepth 65536 in
theorem w_c13 : (Jvm.Cond.code ({ cls := "com/example/holdfast/holdfast/redis/LockKeys", name := "equals", desc := "(Ljava/lang/Object;)Z" } : Jvm.MethodName) prog_8_method_6_code (3 : Nat) (Option.some Jvm.ClassFile.FieldType.boolean)).before args0 about1 = true := code_word (m := ⟨9, 1⟩) (meth := k9m1) (c := k9c1) (by decide +kernel) rfl rfl rfl (by decide +kernel)
set_option maxRecDepth 65536 in
theorem w_c14 : (Jvm.Cond.code ({ cls := "java/lang/String", name := "equals", desc := "(Ljava/lang/Object;)Z" } : Jvm.MethodName) jdk_42_method_66_code (3 : Nat) (Option.some Jvm.ClassFile.FieldType.boolean)).before args0 about1 = true := code_word (m := ⟨7, 2⟩) (meth := k7m2) (c := k7c2) (by decide +kernel) rfl rfl rfl (by decide +kernel)
set_option maxRecDepth 65536 in
theorem w_c15 : (Jvm.Cond.code ({ cls := "java/lang/StringLatin1", name := "equals", desc := "([B[B)Z" } : Jvm.MethodName) jdk_43_method_13_code (3 : Nat) (Option.some Jvm.ClassFile.FieldType.boolean)).before args0 about1 = true := code_word (m := ⟨8, 2⟩) (meth := k8m2) (c := k8c2) (by decide +kernel) rfl rfl rfl (by decide +kernel)
set_option maxRecDepth 65536 in
theorem w_c16 : (Jvm.Cond.code ({ cls := "java/lang/String", name := "<init>", desc := "([C)V" } : Jvm.MethodName) jdk_42_method_3_code (2 : Nat) (Option.none : Option Jvm.ClassFile.FieldType)).before args0 about1 = true := code_word (m := ⟨7, 1⟩) (meth := k7m1) (c := k7c1) (by decide +kernel) rfl rfl rfl (by decide +kernel)
set_option maxRecDepth 65536 in
theorem w_c17 : (Jvm.Cond.code ({ cls := "java/lang/String", name := "<init>", desc := "([CIILjava/lang/Void;)V" } : Jvm.MethodName) jdk_42_method_149_code (6 : Nat) (Option.none : Option Jvm.ClassFile.FieldType)).before args0 about1 = true := code_word (m := ⟨7, 5⟩) (meth := k7m5) (c := k7c5) (by decide +kernel) rfl rfl rfl (by decide +kernel)
set_option maxRecDepth 65536 in
theorem w_c18 : (Jvm.Cond.code ({ cls := "java/lang/StringUTF16", name := "compress", desc := "([CII)[B" } : Jvm.MethodName) jdk_52_method_16_code (6 : Nat) (Option.some (Jvm.ClassFile.FieldType.array Jvm.ClassFile.FieldType.byte))).before args0 about1 = true := code_word (m := ⟨12, 2⟩) (meth := k12m2) (c := k12c2) (by decide +kernel) rfl rfl rfl (by decide +kernel)
set_option maxRecDepth 65536 in
theorem w_c19 : (Jvm.Cond.code ({ cls := "java/lang/StringUTF16", name := "compress", desc := "([CI[BII)I" } : Jvm.MethodName) jdk_52_method_21_code (7 : Nat) (Option.some Jvm.ClassFile.FieldType.int)).before args0 about1 = true := code_word (m := ⟨12, 3⟩) (meth := k12m3) (c := k12c3) (by decide +kernel) rfl rfl rfl (by decide +kernel)
set_option maxRecDepth 65536 in
theorem w_c20 : (Jvm.Cond.code ({ cls := "java/lang/StringUTF16", name := "coderFromArrayLen", desc := "([BI)B" } : Jvm.MethodName) jdk_52_method_15_code (2 : Nat) (Option.some Jvm.ClassFile.FieldType.byte)).before args0 about1 = true := code_word (m := ⟨12, 1⟩) (meth := k12m1) (c := k12c1) (by decide +kernel) rfl rfl rfl (by decide +kernel)
set_option maxRecDepth 65536 in
theorem w_c21 : (Jvm.Cond.code ({ cls := "jdk/internal/util/ArraysSupport", name := "vectorizedHashCode", desc := "(Ljava/lang/Object;IIII)I" } : Jvm.MethodName) jdk_48_method_4_code (5 : Nat) (Option.some Jvm.ClassFile.FieldType.int)).before args0 about1 = true := code_word (m := ⟨13, 1⟩) (meth := k13m1) (c := k13c1) (by decide +kernel) rfl rfl rfl (by decide +kernel)
set_option maxRecDepth 65536 in
theorem w_c22 : (Jvm.Cond.code ({ cls := "jdk/internal/util/ArraysSupport", name := "signedHashCode", desc := "(I[BII)I" } : Jvm.MethodName) jdk_48_method_5_code (6 : Nat) (Option.some Jvm.ClassFile.FieldType.int)).before args0 about1 = true := code_word (m := ⟨13, 2⟩) (meth := k13m2) (c := k13c2) (by decide +kernel) rfl rfl rfl (by decide +kernel)
def codes1 : List Jvm.Cond := [Jvm.Cond.code x code maxLocals ret, Jvm.Cond.code ({ cls := "java/lang/String", name := "valueOf", desc := "(C)Ljava/lang/String;" } : Jvm.MethodName) jdk_42_method_139_code (1 : Nat) (Option.some (Jvm.ClassFile.FieldType.object "java/lang/String")), Jvm.Cond.code ({ cls := "java/lang/StringLatin1", name := "canEncode", desc := "(C)Z" } : Jvm.MethodName) jdk_43_method_3_code (1 : Nat) (Option.some Jvm.ClassFile.FieldType.boolean), Jvm.Cond.code ({ cls := "java/lang/StringLatin1", name := "toBytes", desc := "(C)[B" } : Jvm.MethodName) jdk_43_method_46_code (1 : Nat) (Option.some (Jvm.ClassFile.FieldType.array Jvm.ClassFile.FieldType.byte)), Jvm.Cond.code ({ cls := "java/lang/String", name := "<init>", desc := "([BB)V" } : Jvm.MethodName) jdk_42_method_151_code (3 : Nat) (Option.none : Option Jvm.ClassFile.FieldType), Jvm.Cond.code ({ cls := "java/lang/Object", name := "<init>", desc := "()V" } : Jvm.MethodName) object_method_1_code (1 : Nat) (Option.none : Option Jvm.ClassFile.FieldType), Jvm.Cond.code ({ cls := "com/example/holdfast/holdfast/redis/LockKeys", name := "<init>", desc := "(Ljava/lang/String;Ljava/lang/String;Ljava/lang/String;I)V" } : Jvm.MethodName) prog_8_method_1_code (5 : Nat) (Option.none : Option Jvm.ClassFile.FieldType), Jvm.Cond.code ({ cls := "java/util/Objects", name := "requireNonNull", desc := "(Ljava/lang/Object;Ljava/lang/String;)Ljava/lang/Object;" } : Jvm.MethodName) jdk_31_method_11_code (2 : Nat) (Option.some (Jvm.ClassFile.FieldType.object "java/lang/Object")), Jvm.Cond.code ({ cls := "java/util/Objects", name := "hash", desc := "([Ljava/lang/Object;)I" } : Jvm.MethodName) jdk_31_method_5_code (1 : Nat) (Option.some Jvm.ClassFile.FieldType.int), Jvm.Cond.code ({ cls := "java/util/Arrays", name := "hashCode", desc := "([Ljava/lang/Object;)I" } : Jvm.MethodName) jdk_65_method_157_code (6 : Nat) (Option.some Jvm.ClassFile.FieldType.int), Jvm.Cond.code ({ cls := "java/lang/String", name := "hashCode", desc := "()I" } : Jvm.MethodName) jdk_42_method_78_code (2 : Nat) (Option.some Jvm.ClassFile.FieldType.int), Jvm.Cond.code ({ cls := "java/lang/String", name := "isLatin1", desc := "()Z" } : Jvm.MethodName) jdk_42_method_154_code (1 : Nat) (Option.some Jvm.ClassFile.FieldType.boolean), Jvm.Cond.code ({ cls := "java/lang/StringLatin1", name := "hashCode", desc := "([B)I" } : Jvm.MethodName) jdk_43_method_21_code (1 : Nat) (Option.some Jvm.ClassFile.FieldType.int), Jvm.Cond.code ({ cls := "com/example/holdfast/holdfast/redis/LockKeys", name := "equals", desc := "(Ljava/lang/Object;)Z" } : Jvm.MethodName) prog_8_method_6_code (3 : Nat) (Option.some Jvm.ClassFile.FieldType.boolean), Jvm.Cond.code ({ cls := "java/lang/String", name := "equals", desc := "(Ljava/lang/Object;)Z" } : Jvm.MethodName) jdk_42_method_66_code (3 : Nat) (Option.some Jvm.ClassFile.FieldType.boolean), Jvm.Cond.code ({ cls := "java/lang/StringLatin1", name := "equals", desc := "([B[B)Z" } : Jvm.MethodName) jdk_43_method_13_code (3 : Nat) (Option.some Jvm.ClassFile.FieldType.boolean), Jvm.Cond.code ({ cls := "java/lang/String", name := "<init>", desc := "([C)V" } : Jvm.MethodName) jdk_42_method_3_code (2 : Nat) (Option.none : Option Jvm.ClassFile.FieldType), Jvm.Cond.code ({ cls := "java/lang/String", name := "<init>", desc := "([CIILjava/lang/Void;)V" } : Jvm.MethodName) jdk_42_method_149_code (6 : Nat) (Option.none : Option Jvm.ClassFile.FieldType), Jvm.Cond.code ({ cls := "java/lang/StringUTF16", name := "compress", desc := "([CII)[B" } : Jvm.MethodName) jdk_52_method_16_code (6 : Nat) (Option.some (Jvm.ClassFile.FieldType.array Jvm.ClassFile.FieldType.byte)), Jvm.Cond.code ({ cls := "java/lang/StringUTF16", name := "compress", desc := "([CI[BII)I" } : Jvm.MethodName) jdk_52_method_21_code (7 : Nat) (Option.some Jvm.ClassFile.FieldType.int), Jvm.Cond.code ({ cls := "java/lang/StringUTF16", name := "coderFromArrayLen", desc := "([BI)B" } : Jvm.MethodName) jdk_52_method_15_code (2 : Nat) (Option.some Jvm.ClassFile.FieldType.byte), Jvm.Cond.code ({ cls := "jdk/internal/util/ArraysSupport", name := "vectorizedHashCode", desc := "(Ljava/lang/Object;IIII)I" } : Jvm.MethodName) jdk_48_method_4_code (5 : Nat) (Option.some Jvm.ClassFile.FieldType.int), Jvm.Cond.code ({ cls := "jdk/internal/util/ArraysSupport", name := "signedHashCode", desc := "(I[BII)I" } : Jvm.MethodName) jdk_48_method_5_code (6 : Nat) (Option.some Jvm.ClassFile.FieldType.int)]
set_option maxRecDepth 65536 in
theorem codes_eq : words1.filter isCode = codes1 := rfl
theorem w_codes : ∀ c ∈ words1.filter isCode, c.before args0 about1 = true := by
  rw [codes_eq]
  intro c hc
  simp only [codes1, List.mem_cons, List.not_mem_nil, or_false] at hc
  rcases hc with rfl | rfl | rfl | rfl | rfl | rfl | rfl | rfl | rfl | rfl | rfl | rfl | rfl | rfl | rfl | rfl | rfl | rfl | rfl | rfl | rfl | rfl | rfl
  · exact w_c0
  · exact w_c1
  · exact w_c2
  · exact w_c3
  · exact w_c4
  · exact w_c5
  · exact w_c6
  · exact w_c7
  · exact w_c8
  · exact w_c9
  · exact w_c10
  · exact w_c11
  · exact w_c12
  · exact w_c13
  · exact w_c14
  · exact w_c15
  · exact w_c16
  · exact w_c17
  · exact w_c18
  · exact w_c19
  · exact w_c20
  · exact w_c21
  · exact w_c22
set_option maxRecDepth 65536 in
theorem w_t1 : (words1.take 24).all (fun c => isCode c || c.before args0 about1) = true := by decide +kernel
set_option maxRecDepth 65536 in
theorem w_t2 : ((words1.drop 24).take 24).all (fun c => isCode c || c.before args0 about1) = true := by decide +kernel
set_option maxRecDepth 65536 in
theorem w_t3 : (((words1.drop 24).drop 24).take 24).all (fun c => isCode c || c.before args0 about1) = true := by decide +kernel
set_option maxRecDepth 65536 in
theorem w_t4 : ((((words1.drop 24).drop 24).drop 24).take 24).all (fun c => isCode c || c.before args0 about1) = true := by decide +kernel
set_option maxRecDepth 65536 in
theorem w_t5 : (((((words1.drop 24).drop 24).drop 24).drop 24).take 24).all (fun c => isCode c || c.before args0 about1) = true := by decide +kernel
set_option maxRecDepth 65536 in
theorem w_t6 : (((((words1.drop 24).drop 24).drop 24).drop 24).drop 24).all (fun c => isCode c || c.before args0 about1) = true := by decide +kernel
theorem w_tables : (allAtoms (Jvm.Cond.code x code maxLocals ret :: tables_1)).before args0 about1 = true := by
  rw [allAtoms_all]
  show words1.all (fun c => c.before args0 about1) = true
  refine all_split ?_ w_codes
  rw [← List.take_append_drop 24 words1, List.all_append, w_t1, ← List.take_append_drop 24 (words1.drop 24), List.all_append, w_t2, ← List.take_append_drop 24 ((words1.drop 24).drop 24), List.all_append, w_t3, ← List.take_append_drop 24 (((words1.drop 24).drop 24).drop 24), List.all_append, w_t4, ← List.take_append_drop 24 ((((words1.drop 24).drop 24).drop 24).drop 24), List.all_append, w_t5, w_t6]
  rfl
set_option maxRecDepth 65536 in
theorem w_rest : rest_1_c.before args0 about1 = true := by decide +kernel
set_option maxRecDepth 65536 in
theorem w_case : (Jvm.Cond.and given_1 narrow_1).before args0 about1 = true := by decide +kernel
theorem w_applies : (headSpec (Jvm.Cond.code x code maxLocals ret :: tables_1) room_1).applies x e0.platform about1 = true :=
  (Spec.applies_iff w_frames).mpr ⟨w_running, w_runnable, w_alone, w_named, w_hears, w_ripe, w_room, w_tables⟩
theorem atStart : AtStart classFile x code maxLocals ret World_1 tables_1 room_1 Calls_1 rest_1 Pre_1 launch0 p0 e0 about1 theMethod args0 below0 :=
  ⟨lists_1, trivial, launch0.admits_env _ _ _, launch0.least_env, fairChoices_fair.cas, fairChoices_fair.clock, w_frames, w_args, w_heap, w_applies, trivial, w_rest, w_case⟩
end start1
theorem witness_1 : WitnessClaimed_1 := ⟨start1.p0, start1.e0, start1.about1, start1.theMethod, start1.args0, start1.below0, start1.atStart⟩
end Jvm.Pilot.@@N@@
