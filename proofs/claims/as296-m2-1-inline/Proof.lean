import JvmDerived
import JvmDerived.Pilot.@@N@@Statement
import JvmDerived.Pilot.@@N@@Code
set_option linter.unusedVariables false
set_option linter.unusedSimpArgs false
namespace Jvm.Pilot.@@N@@
namespace W
open Jvm Jvm.ClassFile Sem Op Lib Jvm.Free Jvm.Stand Jvm.LawKit Jvm.RoadKit Bundle

/-- how a method's end is booked: wide (it may have interned) or plain -/
def EndAt (w : Bool) (s : State) (o : Outcome) (t : State) (L : List Loc) (k n : Nat) : Prop := if w = true then ReturnedEndW s o t L k n else FrameEnd s o t L k n
/-- the address may be written: it is no held literal's cell -/
def Ok (Z : State) (EL : List (String × Nat)) (h : Heap) (sf : List Addr) (x : Addr) : Prop :=
  EL = [] ∨ x ∈ sf ∨ (∃ C, Exa Z h x C ∧ C ≠ "java/lang/String" ∧ C ≠ "[B") ∨ ∃ (cl : Cell) (ty : FieldType), Arr Z h x cl ty ∧ ty ≠ .byte
theorem Ok.safe {Z : State} {EL : List (String × Nat)} {h : Heap} {sf : List Addr} {x : Addr} {vm : Vm} (K : Ok Z EL h sf x) (hal : Z.vm.Alike vm) (S : ∀ y ∈ sf, y < h.size ∧ Safe Z EL vm h y) : Safe Z EL vm h x := by
  rcases K with rfl | q | ⟨C, E, h1, h2⟩ | ⟨cl, ty, A, h1⟩
  · rintro ⟨p, hp, -⟩; cases hp
  · exact (S x q).2
  · exact Safe.exa hal E h1 h2
  · exact Safe.arr hal A h1
/-- the walk stands at T, over the heap h; k cells and n slots are made; sf may be written -/
def St (w : Bool) (Z : State) (a0 : Array Value) (EL : List (String × Nat)) (y : MethodName) (bytes : ByteArray) (maxL : Nat) (ret : Option FieldType) (p : Program) (l : Launch) (e : Env) (R : Room) (s : State) (m : MethodId) (args : Array Value) (below : List Frame) (meth : Method) (c : Code) (T : State) (h : Heap) (sf : List Addr) (k n : Nat) : Prop :=
  (p.tables.exec = Jvm.exec ∧ c.code = bytes ∧ c.maxLocals = maxL ∧ meth.sig.returnType = ret ∧ meth.locks = false ∧ meth.name = y.name ∧ EW Z a0 EL) ∧
  ∃ (vm0 : Vm) (k0 : Nat) (locs : List Loc), Stand p l e R (s.setVm vm0) m args below meth c T locs k n ∧ T.heap = h ∧ s.Since vm0 k0 ∧ k0 ≤ h.size ∧ Z.Warmed39 vm0 ∧ vm0.findClass y.cls = some m.cls ∧ Fr Z.heap.size locs ∧ Ext Z.heap h ∧ (w = false → vm0 = s.vm ∧ EL = []) ∧ CHr Z EL s.vm s.heap vm0 h ∧ ∀ x ∈ sf, x < h.size ∧ Safe Z EL vm0 h x
/-- from here the method comes to its end as Q wants it -/
def Go (w : Bool) (Z : State) (EL : List (String × Nat)) (C N : Nat) (Q : Option Value → Heap → (Addr → Prop) → Prop) (p : Program) (e : Env) (s : State) (below : List Frame) (T : State) (g : JFrame) : Prop :=
  ∃ (s₂ : State) (o : Outcome), Steps p.tables e below (T.setTop g) s₂ ∧ s₂.status = .running ∧ Ended s₂ below o ∧ ∃ v L, o = .returned v ∧ (Fr Z.heap.size L ∧ Ext Z.heap s₂.heap ∧ CHr Z EL s.vm s.heap s₂.vm s₂.heap ∧ Q v s₂.heap (Safe Z EL s₂.vm s₂.heap)) ∧ EndAt w s o s₂ L C N
/-- a method's contract, at arguments and a heap that are known -/
def Ct (w : Bool) (Z : State) (a0 : Array Value) (EL : List (String × Nat)) (l : Launch) (y : MethodName) (bytes : ByteArray) (maxL : Nat) (ret : Option FieldType) (rm : Room) (as : Array Value) (h0 : Heap) (sf0 : List Addr) (Q : Option Value → Heap → (Addr → Prop) → Prop) : Prop :=
  ∀ ws : List Jvm.Cond, EW Z a0 EL → Ext Z.heap h0 → MetFree l y (head1 (Cond.code y bytes maxL ret :: ws) rm) (fun a U => a = as ∧ Z.Warmed39 U.vm ∧ U.heap = h0 ∧ CHv Z EL U.vm h0 ∧ ∀ x ∈ sf0, x < h0.size ∧ Safe Z EL U.vm h0 x) (fun _ _ _ _ _ => True)
    (fun _ U o U' => ∃ v L, o = .returned v ∧ (Fr Z.heap.size L ∧ Ext Z.heap U'.heap ∧ CHr Z EL U.vm U.heap U'.vm U'.heap ∧ Q v U'.heap (Safe Z EL U'.vm U'.heap)) ∧ EndAt w U o U' L rm.cells rm.slots)

section
variable {w : Bool} {Z : State} {a0 : Array Value} {EL : List (String × Nat)} {y : MethodName} {bytes : ByteArray} {maxL : Nat} {ret : Option FieldType} {p : Program} {l : Launch} {e : Env} {R : Room} {s : State} {m : MethodId} {args : Array Value} {below : List Frame} {meth : Method} {c : Code} {T : State} {h : Heap} {sf : List Addr} {k n C N : Nat} {Q : Option Value → Heap → (Addr → Prop) → Prop} {rm : Room} {as : Array Value} {h0 : Heap} {sf0 : List Addr}

theorem Ct.walk (hwe : w = false → EL = []) (hpl : plainFor y = true) (body : ∀ (p : Program) (e : Env) (s : State) (m : MethodId) (below : List Frame) (meth : Method) (c : Code) (T : State), Ext Z.heap h0 → St w Z a0 EL y bytes maxL ret p l e rm s m as below meth c T h0 sf0 0 0 → Go w Z EL rm.cells rm.slots Q p e s below T (entryFrame m as maxL)) :
    Ct w Z a0 EL l y bytes maxL ret rm as h0 sf0 Q := by
  intro ws hEW hext
  refine MetFree.of_bodySF hpl hisR ?_
  intro p e s m args below meth c s₁ Bd hml hP hK
  obtain ⟨rfl, hZ, hh, hcv, hsf⟩ := hP
  have X0 : Stand p l e rm s m args below meth c s₁ [] 0 0 := Stand.of_body Bd
  have e0 : s₁.heap = h0 := by rw [← hh, Bd.state]; rfl
  refine body p e s m below meth c s₁ hext ⟨⟨Bd.exec, Bd.bytes, hml, Bd.returns, Bd.notSynchronized, (name_of_methodNamed Bd.named Bd.method).1, hEW⟩, s.vm, 0, [], X0, e0, ?_, Nat.zero_le _, hZ, findClass_of_methodNamed Bd.named, Fr.nil _, hext, fun q => ⟨rfl, hwe q⟩, ?_, hsf⟩
  · exact (State.WarmedH.refl s).since 0
  · rw [hh]; exact CHr.refl hcv

/-- a step that leaves the state as it is but for the top frame -/
theorem ps (X : St w Z a0 EL y bytes maxL ret p l e R s m args below meth c T h sf k n) {g g' : JFrame} (f : At T m c below → p.tables.exec = Jvm.exec → c.code = bytes → ∀ target, Steps p.tables e below (T.setTop g') target → Steps p.tables e below (T.setTop g) target) (kk : Go w Z EL C N Q p e s below T g') : Go w Z EL C N Q p e s below T g := by
  obtain ⟨⟨hx, hby, -⟩, vm0, k0, locs, X0, -⟩ := X
  obtain ⟨s₂, o, hs, r⟩ := kk
  exact ⟨s₂, o, f X0.here hx hby _ hs, r⟩
theorem castG {g g' : JFrame} (q : g = g') (kk : Go w Z EL C N Q p e s below T g') : Go w Z EL C N Q p e s below T g := q ▸ kk
theorem o_aloadN (X : St w Z a0 EL y bytes maxL ret p l e R s m args below meth c T h sf k n) {pc pc' : Nat} {L : Array Slot} {S : List Value} {i : Fin 4} {v : Value} (hd : decode bytes pc = .ok (.aload_n i, 1)) (hp : pc + 1 = pc') (hl : L[i.val]? = some (.val v)) (hv : v.isRef = true) (kk : Go w Z EL C N Q p e s below T (mkF m pc' L (v :: S))) : Go w Z EL C N Q p e s below T (mkF m pc L S) := by
  subst hp
  exact ps X (fun H hx hby _ q => XS.aloadN H hx rfl (hb hby hd) hl hv q) kk
theorem o_aload (X : St w Z a0 EL y bytes maxL ret p l e R s m args below meth c T h sf k n) {pc pc' : Nat} {L : Array Slot} {S : List Value} {i : Nat} {v : Value} (hd : decode bytes pc = .ok (.aload i, 2)) (hp : pc + 2 = pc') (hl : L[i]? = some (.val v)) (hv : v.isRef = true) (kk : Go w Z EL C N Q p e s below T (mkF m pc' L (v :: S))) : Go w Z EL C N Q p e s below T (mkF m pc L S) := by
  subst hp
  exact ps X (fun H hx hby _ q => XS.aload H hx rfl (hb hby hd) hl hv q) kk
theorem o_iloadN (X : St w Z a0 EL y bytes maxL ret p l e R s m args below meth c T h sf k n) {pc pc' : Nat} {L : Array Slot} {S : List Value} {i : Fin 4} {v : Int32} (hd : decode bytes pc = .ok (.iload_n i, 1)) (hp : pc + 1 = pc') (hl : L[i.val]? = some (.val (.int v))) (kk : Go w Z EL C N Q p e s below T (mkF m pc' L (.int v :: S))) : Go w Z EL C N Q p e s below T (mkF m pc L S) := by
  subst hp
  exact ps X (fun H hx hby _ q => XS.iloadN H hx rfl (hb hby hd) hl q) kk
theorem o_iload (X : St w Z a0 EL y bytes maxL ret p l e R s m args below meth c T h sf k n) {pc pc' : Nat} {L : Array Slot} {S : List Value} {i : Nat} {v : Int32} (hd : decode bytes pc = .ok (.iload i, 2)) (hp : pc + 2 = pc') (hl : L[i]? = some (.val (.int v))) (kk : Go w Z EL C N Q p e s below T (mkF m pc' L (.int v :: S))) : Go w Z EL C N Q p e s below T (mkF m pc L S) := by
  subst hp
  exact ps X (fun H hx hby _ q => XS.iload H hx rfl (hb hby hd) hl q) kk
theorem o_lloadN (X : St w Z a0 EL y bytes maxL ret p l e R s m args below meth c T h sf k n) {pc pc' : Nat} {L : Array Slot} {S : List Value} {i : Fin 4} {v : Int64} (hd : decode bytes pc = .ok (.lload_n i, 1)) (hp : pc + 1 = pc') (hl : L[i.val]? = some (.val (.long v))) (kk : Go w Z EL C N Q p e s below T (mkF m pc' L (.long v :: S))) : Go w Z EL C N Q p e s below T (mkF m pc L S) := by
  subst hp
  exact ps X (fun H hx hby _ q => XS.lloadN H hx rfl (hb hby hd) hl q) kk
theorem o_lload (X : St w Z a0 EL y bytes maxL ret p l e R s m args below meth c T h sf k n) {pc pc' : Nat} {L : Array Slot} {S : List Value} {i : Nat} {v : Int64} (hd : decode bytes pc = .ok (.lload i, 2)) (hp : pc + 2 = pc') (hl : L[i]? = some (.val (.long v))) (kk : Go w Z EL C N Q p e s below T (mkF m pc' L (.long v :: S))) : Go w Z EL C N Q p e s below T (mkF m pc L S) := by
  subst hp
  exact ps X (fun H hx hby _ q => XS.lload H hx rfl (hb hby hd) hl q) kk
theorem o_istoreN (X : St w Z a0 EL y bytes maxL ret p l e R s m args below meth c T h sf k n) {pc pc' : Nat} {L : Array Slot} {S : List Value} {i : Fin 4} {v : Int32} {L' : Array Slot} (hd : decode bytes pc = .ok (.istore_n i, 1)) (hp : pc + 1 = pc') (hl : storeLocals L i.val (.int v) = some L') (kk : Go w Z EL C N Q p e s below T (mkF m pc' L' S)) : Go w Z EL C N Q p e s below T (mkF m pc L (.int v :: S)) := by
  subst hp
  exact ps X (fun H hx hby _ q => XS.istoreN H hx rfl (hb hby hd) rfl hl q) kk
theorem o_istore (X : St w Z a0 EL y bytes maxL ret p l e R s m args below meth c T h sf k n) {pc pc' : Nat} {L : Array Slot} {S : List Value} {i : Nat} {v : Int32} {L' : Array Slot} (hd : decode bytes pc = .ok (.istore i, 2)) (hp : pc + 2 = pc') (hl : storeLocals L i (.int v) = some L') (kk : Go w Z EL C N Q p e s below T (mkF m pc' L' S)) : Go w Z EL C N Q p e s below T (mkF m pc L (.int v :: S)) := by
  subst hp
  exact ps X (fun H hx hby _ q => XS.istore H hx rfl (hb hby hd) rfl hl q) kk
theorem o_lstoreN (X : St w Z a0 EL y bytes maxL ret p l e R s m args below meth c T h sf k n) {pc pc' : Nat} {L : Array Slot} {S : List Value} {i : Fin 4} {v : Int64} {L' : Array Slot} (hd : decode bytes pc = .ok (.lstore_n i, 1)) (hp : pc + 1 = pc') (hl : storeLocals L i.val (.long v) = some L') (kk : Go w Z EL C N Q p e s below T (mkF m pc' L' S)) : Go w Z EL C N Q p e s below T (mkF m pc L (.long v :: S)) := by
  subst hp
  exact ps X (fun H hx hby _ q => XS.lstoreN H hx rfl (hb hby hd) rfl hl q) kk
theorem o_lstore (X : St w Z a0 EL y bytes maxL ret p l e R s m args below meth c T h sf k n) {pc pc' : Nat} {L : Array Slot} {S : List Value} {i : Nat} {v : Int64} {L' : Array Slot} (hd : decode bytes pc = .ok (.lstore i, 2)) (hp : pc + 2 = pc') (hl : storeLocals L i (.long v) = some L') (kk : Go w Z EL C N Q p e s below T (mkF m pc' L' S)) : Go w Z EL C N Q p e s below T (mkF m pc L (.long v :: S)) := by
  subst hp
  exact ps X (fun H hx hby _ q => XS.lstore H hx rfl (hb hby hd) rfl hl q) kk
theorem o_astoreN (X : St w Z a0 EL y bytes maxL ret p l e R s m args below meth c T h sf k n) {pc pc' : Nat} {L : Array Slot} {S : List Value} {i : Fin 4} {v : Value} {L' : Array Slot} (hd : decode bytes pc = .ok (.astore_n i, 1)) (hp : pc + 1 = pc') (hl : storeLocals L i.val v = some L') (hv : v.isRef = true) (kk : Go w Z EL C N Q p e s below T (mkF m pc' L' S)) : Go w Z EL C N Q p e s below T (mkF m pc L (v :: S)) := by
  subst hp
  exact ps X (fun H hx hby _ q => XS.astoreN H hx rfl (hb hby hd) rfl hv hl q) kk
theorem o_astore (X : St w Z a0 EL y bytes maxL ret p l e R s m args below meth c T h sf k n) {pc pc' : Nat} {L : Array Slot} {S : List Value} {i : Nat} {v : Value} {L' : Array Slot} (hd : decode bytes pc = .ok (.astore i, 2)) (hp : pc + 2 = pc') (hl : storeLocals L i v = some L') (hv : v.isRef = true) (kk : Go w Z EL C N Q p e s below T (mkF m pc' L' S)) : Go w Z EL C N Q p e s below T (mkF m pc L (v :: S)) := by
  subst hp
  exact ps X (fun H hx hby _ q => XS.astore H hx rfl (hb hby hd) rfl hv hl q) kk
theorem o_iconst (X : St w Z a0 EL y bytes maxL ret p l e R s m args below meth c T h sf k n) {pc pc' : Nat} {L : Array Slot} {S : List Value} {i : Int} (v : Int32) (hd : decode bytes pc = .ok (.iconst i, 1)) (hp : pc + 1 = pc') (hv : Int32.ofInt i = v) (kk : Go w Z EL C N Q p e s below T (mkF m pc' L (.int v :: S))) : Go w Z EL C N Q p e s below T (mkF m pc L S) := by
  subst hp
  exact ps X (fun H hx hby _ q => XT.iconstV H hx rfl v (hb hby hd) hv q) kk
theorem o_bipush (X : St w Z a0 EL y bytes maxL ret p l e R s m args below meth c T h sf k n) {pc pc' : Nat} {L : Array Slot} {S : List Value} {i : Int} (v : Int32) (hd : decode bytes pc = .ok (.bipush i, 2)) (hp : pc + 2 = pc') (hv : (Int8.ofInt i).toInt32 = v) (kk : Go w Z EL C N Q p e s below T (mkF m pc' L (.int v :: S))) : Go w Z EL C N Q p e s below T (mkF m pc L S) := by
  subst hp
  exact ps X (fun H hx hby _ q => XT.bipushV H hx rfl v (hb hby hd) hv q) kk
theorem o_sipush (X : St w Z a0 EL y bytes maxL ret p l e R s m args below meth c T h sf k n) {pc pc' : Nat} {L : Array Slot} {S : List Value} {i : Int} (v : Int32) (hd : decode bytes pc = .ok (.sipush i, 3)) (hp : pc + 3 = pc') (hv : (Int16.ofInt i).toInt32 = v) (kk : Go w Z EL C N Q p e s below T (mkF m pc' L (.int v :: S))) : Go w Z EL C N Q p e s below T (mkF m pc L S) := by
  subst hp
  exact ps X (fun H hx hby _ q => XT.sipushV H hx rfl v (hb hby hd) hv q) kk
theorem o_lconst (X : St w Z a0 EL y bytes maxL ret p l e R s m args below meth c T h sf k n) {pc pc' : Nat} {L : Array Slot} {S : List Value} {i : Fin 2} (v : Int64) (hd : decode bytes pc = .ok (.lconst i, 1)) (hp : pc + 1 = pc') (hv : Int64.ofNat i = v) (kk : Go w Z EL C N Q p e s below T (mkF m pc' L (.long v :: S))) : Go w Z EL C N Q p e s below T (mkF m pc L S) := by
  subst hp
  exact ps X (fun H hx hby _ q => XT.lconstV H hx rfl v (hb hby hd) hv q) kk
theorem o_aconst_null (X : St w Z a0 EL y bytes maxL ret p l e R s m args below meth c T h sf k n) {pc pc' : Nat} {L : Array Slot} {S : List Value}  (hd : decode bytes pc = .ok (.aconst_null, 1)) (hp : pc + 1 = pc')  (kk : Go w Z EL C N Q p e s below T (mkF m pc' L (.null :: S))) : Go w Z EL C N Q p e s below T (mkF m pc L S) := by
  subst hp
  exact ps X (fun H hx hby _ q => XS.aconstNull H hx rfl (hb hby hd)  q) kk
theorem o_iadd (X : St w Z a0 EL y bytes maxL ret p l e R s m args below meth c T h sf k n) {pc pc' : Nat} {L : Array Slot} {S : List Value} {x z : Int32} (hd : decode bytes pc = .ok (.iadd, 1)) (hp : pc + 1 = pc')  (kk : Go w Z EL C N Q p e s below T (mkF m pc' L (.int (x + z) :: S))) : Go w Z EL C N Q p e s below T (mkF m pc L (.int z :: .int x :: S)) := by
  subst hp
  exact ps X (fun H hx hby _ q => XS.iadd H hx rfl (hb hby hd) rfl q) kk
theorem o_ladd (X : St w Z a0 EL y bytes maxL ret p l e R s m args below meth c T h sf k n) {pc pc' : Nat} {L : Array Slot} {S : List Value} {x z : Int64} (hd : decode bytes pc = .ok (.ladd, 1)) (hp : pc + 1 = pc')  (kk : Go w Z EL C N Q p e s below T (mkF m pc' L (.long (x + z) :: S))) : Go w Z EL C N Q p e s below T (mkF m pc L (.long z :: .long x :: S)) := by
  subst hp
  exact ps X (fun H hx hby _ q => XS.ladd H hx rfl (hb hby hd) rfl q) kk
theorem o_isub (X : St w Z a0 EL y bytes maxL ret p l e R s m args below meth c T h sf k n) {pc pc' : Nat} {L : Array Slot} {S : List Value} {x z : Int32} (hd : decode bytes pc = .ok (.isub, 1)) (hp : pc + 1 = pc')  (kk : Go w Z EL C N Q p e s below T (mkF m pc' L (.int (x - z) :: S))) : Go w Z EL C N Q p e s below T (mkF m pc L (.int z :: .int x :: S)) := by
  subst hp
  exact ps X (fun H hx hby _ q => XS.isub H hx rfl (hb hby hd) rfl q) kk
theorem o_lsub (X : St w Z a0 EL y bytes maxL ret p l e R s m args below meth c T h sf k n) {pc pc' : Nat} {L : Array Slot} {S : List Value} {x z : Int64} (hd : decode bytes pc = .ok (.lsub, 1)) (hp : pc + 1 = pc')  (kk : Go w Z EL C N Q p e s below T (mkF m pc' L (.long (x - z) :: S))) : Go w Z EL C N Q p e s below T (mkF m pc L (.long z :: .long x :: S)) := by
  subst hp
  exact ps X (fun H hx hby _ q => XS.lsub H hx rfl (hb hby hd) rfl q) kk
theorem o_imul (X : St w Z a0 EL y bytes maxL ret p l e R s m args below meth c T h sf k n) {pc pc' : Nat} {L : Array Slot} {S : List Value} {x z : Int32} (hd : decode bytes pc = .ok (.imul, 1)) (hp : pc + 1 = pc')  (kk : Go w Z EL C N Q p e s below T (mkF m pc' L (.int (x * z) :: S))) : Go w Z EL C N Q p e s below T (mkF m pc L (.int z :: .int x :: S)) := by
  subst hp
  exact ps X (fun H hx hby _ q => XS.imul H hx rfl (hb hby hd) rfl q) kk
theorem o_lmul (X : St w Z a0 EL y bytes maxL ret p l e R s m args below meth c T h sf k n) {pc pc' : Nat} {L : Array Slot} {S : List Value} {x z : Int64} (hd : decode bytes pc = .ok (.lmul, 1)) (hp : pc + 1 = pc')  (kk : Go w Z EL C N Q p e s below T (mkF m pc' L (.long (x * z) :: S))) : Go w Z EL C N Q p e s below T (mkF m pc L (.long z :: .long x :: S)) := by
  subst hp
  exact ps X (fun H hx hby _ q => XS.lmul H hx rfl (hb hby hd) rfl q) kk
theorem o_iand (X : St w Z a0 EL y bytes maxL ret p l e R s m args below meth c T h sf k n) {pc pc' : Nat} {L : Array Slot} {S : List Value} {x z : Int32} (hd : decode bytes pc = .ok (.iand, 1)) (hp : pc + 1 = pc')  (kk : Go w Z EL C N Q p e s below T (mkF m pc' L (.int (x &&& z) :: S))) : Go w Z EL C N Q p e s below T (mkF m pc L (.int z :: .int x :: S)) := by
  subst hp
  exact ps X (fun H hx hby _ q => XS.iand H hx rfl (hb hby hd) rfl q) kk
theorem o_land (X : St w Z a0 EL y bytes maxL ret p l e R s m args below meth c T h sf k n) {pc pc' : Nat} {L : Array Slot} {S : List Value} {x z : Int64} (hd : decode bytes pc = .ok (.land, 1)) (hp : pc + 1 = pc')  (kk : Go w Z EL C N Q p e s below T (mkF m pc' L (.long (x &&& z) :: S))) : Go w Z EL C N Q p e s below T (mkF m pc L (.long z :: .long x :: S)) := by
  subst hp
  exact ps X (fun H hx hby _ q => XS.land H hx rfl (hb hby hd) rfl q) kk
theorem o_ior (X : St w Z a0 EL y bytes maxL ret p l e R s m args below meth c T h sf k n) {pc pc' : Nat} {L : Array Slot} {S : List Value} {x z : Int32} (hd : decode bytes pc = .ok (.ior, 1)) (hp : pc + 1 = pc')  (kk : Go w Z EL C N Q p e s below T (mkF m pc' L (.int (x ||| z) :: S))) : Go w Z EL C N Q p e s below T (mkF m pc L (.int z :: .int x :: S)) := by
  subst hp
  exact ps X (fun H hx hby _ q => XS.ior H hx rfl (hb hby hd) rfl q) kk
theorem o_lor (X : St w Z a0 EL y bytes maxL ret p l e R s m args below meth c T h sf k n) {pc pc' : Nat} {L : Array Slot} {S : List Value} {x z : Int64} (hd : decode bytes pc = .ok (.lor, 1)) (hp : pc + 1 = pc')  (kk : Go w Z EL C N Q p e s below T (mkF m pc' L (.long (x ||| z) :: S))) : Go w Z EL C N Q p e s below T (mkF m pc L (.long z :: .long x :: S)) := by
  subst hp
  exact ps X (fun H hx hby _ q => XS.lor H hx rfl (hb hby hd) rfl q) kk
theorem o_ixor (X : St w Z a0 EL y bytes maxL ret p l e R s m args below meth c T h sf k n) {pc pc' : Nat} {L : Array Slot} {S : List Value} {x z : Int32} (hd : decode bytes pc = .ok (.ixor, 1)) (hp : pc + 1 = pc')  (kk : Go w Z EL C N Q p e s below T (mkF m pc' L (.int (x ^^^ z) :: S))) : Go w Z EL C N Q p e s below T (mkF m pc L (.int z :: .int x :: S)) := by
  subst hp
  exact ps X (fun H hx hby _ q => XS.ixor H hx rfl (hb hby hd) rfl q) kk
theorem o_lxor (X : St w Z a0 EL y bytes maxL ret p l e R s m args below meth c T h sf k n) {pc pc' : Nat} {L : Array Slot} {S : List Value} {x z : Int64} (hd : decode bytes pc = .ok (.lxor, 1)) (hp : pc + 1 = pc')  (kk : Go w Z EL C N Q p e s below T (mkF m pc' L (.long (x ^^^ z) :: S))) : Go w Z EL C N Q p e s below T (mkF m pc L (.long z :: .long x :: S)) := by
  subst hp
  exact ps X (fun H hx hby _ q => XS.lxor H hx rfl (hb hby hd) rfl q) kk
theorem o_ishl (X : St w Z a0 EL y bytes maxL ret p l e R s m args below meth c T h sf k n) {pc pc' : Nat} {L : Array Slot} {S : List Value} {x z : Int32} (hd : decode bytes pc = .ok (.ishl, 1)) (hp : pc + 1 = pc')  (kk : Go w Z EL C N Q p e s below T (mkF m pc' L (.int (x <<< (z &&& 31)) :: S))) : Go w Z EL C N Q p e s below T (mkF m pc L (.int z :: .int x :: S)) := by
  subst hp
  exact ps X (fun H hx hby _ q => XS.ishl H hx rfl (hb hby hd) rfl q) kk
theorem o_ishr (X : St w Z a0 EL y bytes maxL ret p l e R s m args below meth c T h sf k n) {pc pc' : Nat} {L : Array Slot} {S : List Value} {x z : Int32} (hd : decode bytes pc = .ok (.ishr, 1)) (hp : pc + 1 = pc')  (kk : Go w Z EL C N Q p e s below T (mkF m pc' L (.int (x >>> (z &&& 31)) :: S))) : Go w Z EL C N Q p e s below T (mkF m pc L (.int z :: .int x :: S)) := by
  subst hp
  exact ps X (fun H hx hby _ q => XS.ishr H hx rfl (hb hby hd) rfl q) kk
theorem o_iushr (X : St w Z a0 EL y bytes maxL ret p l e R s m args below meth c T h sf k n) {pc pc' : Nat} {L : Array Slot} {S : List Value} {x z : Int32} (hd : decode bytes pc = .ok (.iushr, 1)) (hp : pc + 1 = pc')  (kk : Go w Z EL C N Q p e s below T (mkF m pc' L (.int ((x.toUInt32 >>> (z &&& 31).toUInt32).toInt32) :: S))) : Go w Z EL C N Q p e s below T (mkF m pc L (.int z :: .int x :: S)) := by
  subst hp
  exact ps X (fun H hx hby _ q => XS.iushr H hx rfl (hb hby hd) rfl q) kk
theorem o_idiv (X : St w Z a0 EL y bytes maxL ret p l e R s m args below meth c T h sf k n) {pc pc' : Nat} {L : Array Slot} {S : List Value} {x z : Int32} (hd : decode bytes pc = .ok (.idiv, 1)) (hp : pc + 1 = pc') (hz : z ≠ 0) (kk : Go w Z EL C N Q p e s below T (mkF m pc' L (.int (x / z) :: S))) : Go w Z EL C N Q p e s below T (mkF m pc L (.int z :: .int x :: S)) := by
  subst hp
  exact ps X (fun H hx hby _ q => XS.idiv H hx rfl (hb hby hd) rfl hz q) kk
theorem o_ineg (X : St w Z a0 EL y bytes maxL ret p l e R s m args below meth c T h sf k n) {pc pc' : Nat} {L : Array Slot} {S : List Value} {x : Int32} (hd : decode bytes pc = .ok (.ineg, 1)) (hp : pc + 1 = pc')  (kk : Go w Z EL C N Q p e s below T (mkF m pc' L (.int (-x) :: S))) : Go w Z EL C N Q p e s below T (mkF m pc L (.int x :: S)) := by
  subst hp
  exact ps X (fun H hx hby _ q => XS.ineg H hx rfl (hb hby hd) rfl q) kk
theorem o_i2c (X : St w Z a0 EL y bytes maxL ret p l e R s m args below meth c T h sf k n) {pc pc' : Nat} {L : Array Slot} {S : List Value} {x : Int32} (hd : decode bytes pc = .ok (.i2c, 1)) (hp : pc + 1 = pc')  (kk : Go w Z EL C N Q p e s below T (mkF m pc' L (.int (x.toUInt32.toUInt16.toUInt32.toInt32) :: S))) : Go w Z EL C N Q p e s below T (mkF m pc L (.int x :: S)) := by
  subst hp
  exact ps X (fun H hx hby _ q => XS.i2c H hx rfl (hb hby hd) rfl q) kk
theorem o_i2b (X : St w Z a0 EL y bytes maxL ret p l e R s m args below meth c T h sf k n) {pc pc' : Nat} {L : Array Slot} {S : List Value} {x : Int32} (hd : decode bytes pc = .ok (.i2b, 1)) (hp : pc + 1 = pc')  (kk : Go w Z EL C N Q p e s below T (mkF m pc' L (.int (x.toInt8.toInt32) :: S))) : Go w Z EL C N Q p e s below T (mkF m pc L (.int x :: S)) := by
  subst hp
  exact ps X (fun H hx hby _ q => XS.i2b H hx rfl (hb hby hd) rfl q) kk
theorem o_i2s (X : St w Z a0 EL y bytes maxL ret p l e R s m args below meth c T h sf k n) {pc pc' : Nat} {L : Array Slot} {S : List Value} {x : Int32} (hd : decode bytes pc = .ok (.i2s, 1)) (hp : pc + 1 = pc')  (kk : Go w Z EL C N Q p e s below T (mkF m pc' L (.int (x.toInt16.toInt32) :: S))) : Go w Z EL C N Q p e s below T (mkF m pc L (.int x :: S)) := by
  subst hp
  exact ps X (fun H hx hby _ q => XS.i2s H hx rfl (hb hby hd) rfl q) kk
theorem o_i2l (X : St w Z a0 EL y bytes maxL ret p l e R s m args below meth c T h sf k n) {pc pc' : Nat} {L : Array Slot} {S : List Value} {x : Int32} (hd : decode bytes pc = .ok (.i2l, 1)) (hp : pc + 1 = pc')  (kk : Go w Z EL C N Q p e s below T (mkF m pc' L (.long (x.toInt64) :: S))) : Go w Z EL C N Q p e s below T (mkF m pc L (.int x :: S)) := by
  subst hp
  exact ps X (fun H hx hby _ q => XS.i2l H hx rfl (hb hby hd) rfl q) kk
theorem o_l2i (X : St w Z a0 EL y bytes maxL ret p l e R s m args below meth c T h sf k n) {pc pc' : Nat} {L : Array Slot} {S : List Value} {x : Int64} (hd : decode bytes pc = .ok (.l2i, 1)) (hp : pc + 1 = pc')  (kk : Go w Z EL C N Q p e s below T (mkF m pc' L (.int (x.toInt32) :: S))) : Go w Z EL C N Q p e s below T (mkF m pc L (.long x :: S)) := by
  subst hp
  exact ps X (fun H hx hby _ q => XS.l2i H hx rfl (hb hby hd) rfl q) kk
theorem o_lcmp (X : St w Z a0 EL y bytes maxL ret p l e R s m args below meth c T h sf k n) {pc pc' : Nat} {L : Array Slot} {S : List Value} {x z : Int64} (hd : decode bytes pc = .ok (.lcmp, 1)) (hp : pc + 1 = pc')  (kk : Go w Z EL C N Q p e s below T (mkF m pc' L (.int (XT.cmpL x z) :: S))) : Go w Z EL C N Q p e s below T (mkF m pc L (.long z :: .long x :: S)) := by
  subst hp
  exact ps X (fun H hx hby _ q => XT.lcmp H hx rfl (hb hby hd) rfl q) kk
theorem o_dup (X : St w Z a0 EL y bytes maxL ret p l e R s m args below meth c T h sf k n) {pc pc' : Nat} {L : Array Slot} {S : List Value} {v : Value} (hd : decode bytes pc = .ok (.dup, 1)) (hp : pc + 1 = pc') (hv : v.category = 1) (kk : Go w Z EL C N Q p e s below T (mkF m pc' L (v :: v :: S))) : Go w Z EL C N Q p e s below T (mkF m pc L (v :: S)) := by
  subst hp
  exact ps X (fun H hx hby _ q => XS.dup H hx rfl (hb hby hd) rfl hv q) kk
theorem o_pop (X : St w Z a0 EL y bytes maxL ret p l e R s m args below meth c T h sf k n) {pc pc' : Nat} {L : Array Slot} {S : List Value} {v : Value} (hd : decode bytes pc = .ok (.pop, 1)) (hp : pc + 1 = pc') (hv : v.category = 1) (kk : Go w Z EL C N Q p e s below T (mkF m pc' L S)) : Go w Z EL C N Q p e s below T (mkF m pc L (v :: S)) := by
  subst hp
  exact ps X (fun H hx hby _ q => XS.pop H hx rfl (hb hby hd) rfl hv q) kk
theorem o_dup_x1 (X : St w Z a0 EL y bytes maxL ret p l e R s m args below meth c T h sf k n) {pc pc' : Nat} {L : Array Slot} {S : List Value} {u v : Value} (hd : decode bytes pc = .ok (.dup_x1, 1)) (hp : pc + 1 = pc') (hu : u.category = 1) (hv : v.category = 1) (kk : Go w Z EL C N Q p e s below T (mkF m pc' L (u :: v :: u :: S))) : Go w Z EL C N Q p e s below T (mkF m pc L (u :: v :: S)) := by
  subst hp
  exact ps X (fun H hx hby _ q => XT.dupX1 H hx rfl (hb hby hd) rfl hu hv q) kk
theorem o_dup2 (X : St w Z a0 EL y bytes maxL ret p l e R s m args below meth c T h sf k n) {pc pc' : Nat} {L : Array Slot} {S : List Value} {u v : Value} (hd : decode bytes pc = .ok (.dup2, 1)) (hp : pc + 1 = pc') (hu : u.category = 1) (hv : v.category = 1) (kk : Go w Z EL C N Q p e s below T (mkF m pc' L (u :: v :: u :: v :: S))) : Go w Z EL C N Q p e s below T (mkF m pc L (u :: v :: S)) := by
  subst hp
  exact ps X (fun H hx hby _ q => XT.dup2 H hx rfl (hb hby hd) rfl hu hv q) kk
theorem o_iinc (X : St w Z a0 EL y bytes maxL ret p l e R s m args below meth c T h sf k n) {pc pc' : Nat} {L : Array Slot} {S : List Value} {i : Nat} {cst : Int} {x : Int32} {L' : Array Slot} (v : Int32) (hd : decode bytes pc = .ok (.iinc i cst, 3)) (hp : pc + 3 = pc') (hv : Int32.ofInt cst = v) (hl : L[i]? = some (.val (.int x))) (hl' : storeLocals L i (.int (x + v)) = some L') (kk : Go w Z EL C N Q p e s below T (mkF m pc' L' S)) : Go w Z EL C N Q p e s below T (mkF m pc L S) := by
  subst hp
  exact ps X (fun H hx hby _ q => XS.iinc H hx rfl (hb hby hd) hl (by rw [hv]; exact hl') q) kk
theorem o_irem (X : St w Z a0 EL y bytes maxL ret p l e R s m args below meth c T h sf k n) {pc pc' : Nat} {L : Array Slot} {S : List Value} {x z : Int32} (hd : decode bytes pc = .ok (.irem, 1)) (hp : pc + 1 = pc') (hz : z ≠ 0) (kk : Go w Z EL C N Q p e s below T (mkF m pc' L (.int (x % z) :: S))) : Go w Z EL C N Q p e s below T (mkF m pc L (.int z :: .int x :: S)) := by
  subst hp
  exact ps X (fun H hx hby _ q => XS.irem H hx rfl (hb hby hd) rfl hz (by rw [irem_eq_mod]; exact q)) kk
theorem o_goto (X : St w Z a0 EL y bytes maxL ret p l e R s m args below meth c T h sf k n) {pc pc' : Nat} {L : Array Slot} {S : List Value} {o : Int} (hd : decode bytes pc = .ok (.goto o, 3)) (hp : 0 ≤ (pc : Int) + o ∧ ((pc : Int) + o).toNat = pc') (kk : Go w Z EL C N Q p e s below T (mkF m pc' L S)) : Go w Z EL C N Q p e s below T (mkF m pc L S) :=
  ps X (fun H hx hby _ q => XS.goto H hx rfl (pc0 := pc) rfl (hb hby hd) hp.1 hp.2 q) kk
theorem o_if_icmpeq (X : St w Z a0 EL y bytes maxL ret p l e R s m args below meth c T h sf k n) {pc pt pf : Nat} {L : Array Slot} {S : List Value} {x z : Int32} {o : Int} (hd : decode bytes pc = .ok (.if_icmp .eq o, 3)) (hp : 0 ≤ (pc : Int) + o ∧ ((pc : Int) + o).toNat = pt) (hf : pc + 3 = pf) (kt : x = z → Go w Z EL C N Q p e s below T (mkF m pt L S)) (kf : ¬ x = z → Go w Z EL C N Q p e s below T (mkF m pf L S)) : Go w Z EL C N Q p e s below T (mkF m pc L (.int z :: .int x :: S)) := by
  subst hf
  by_cases hc : x = z
  · exact ps X (fun H hx hby _ q => XS.icmpYes H hx rfl (pc0 := pc) rfl (hb hby hd) rfl (XT.ii_eq_t hc) hp.1 hp.2 q) (kt hc)
  · exact ps X (fun H hx hby _ q => XS.icmpNo H hx rfl (hb hby hd) rfl (XT.ii_eq_f hc) q) (kf hc)
theorem o_ifeq (X : St w Z a0 EL y bytes maxL ret p l e R s m args below meth c T h sf k n) {pc pt pf : Nat} {L : Array Slot} {S : List Value} {x : Int32} {o : Int} (hd : decode bytes pc = .ok (.ifCond .eq o, 3)) (hp : 0 ≤ (pc : Int) + o ∧ ((pc : Int) + o).toNat = pt) (hf : pc + 3 = pf) (kt : x = 0 → Go w Z EL C N Q p e s below T (mkF m pt L S)) (kf : ¬ x = 0 → Go w Z EL C N Q p e s below T (mkF m pf L S)) : Go w Z EL C N Q p e s below T (mkF m pc L (.int x :: S)) := by
  subst hf
  by_cases hc : x = 0
  · exact ps X (fun H hx hby _ q => XS.ifYes H hx rfl (pc0 := pc) rfl (hb hby hd) rfl (XT.i0_eq_t hc) hp.1 hp.2 q) (kt hc)
  · exact ps X (fun H hx hby _ q => XS.ifNo H hx rfl (hb hby hd) rfl (XT.i0_eq_f hc) q) (kf hc)
theorem o_if_icmpne (X : St w Z a0 EL y bytes maxL ret p l e R s m args below meth c T h sf k n) {pc pt pf : Nat} {L : Array Slot} {S : List Value} {x z : Int32} {o : Int} (hd : decode bytes pc = .ok (.if_icmp .ne o, 3)) (hp : 0 ≤ (pc : Int) + o ∧ ((pc : Int) + o).toNat = pt) (hf : pc + 3 = pf) (kt : ¬ x = z → Go w Z EL C N Q p e s below T (mkF m pt L S)) (kf : x = z → Go w Z EL C N Q p e s below T (mkF m pf L S)) : Go w Z EL C N Q p e s below T (mkF m pc L (.int z :: .int x :: S)) := by
  subst hf
  by_cases hc : x = z
  · exact ps X (fun H hx hby _ q => XS.icmpNo H hx rfl (hb hby hd) rfl (XT.ii_ne_f hc) q) (kf hc)
  · exact ps X (fun H hx hby _ q => XS.icmpYes H hx rfl (pc0 := pc) rfl (hb hby hd) rfl (XT.ii_ne_t hc) hp.1 hp.2 q) (kt hc)
theorem o_ifne (X : St w Z a0 EL y bytes maxL ret p l e R s m args below meth c T h sf k n) {pc pt pf : Nat} {L : Array Slot} {S : List Value} {x : Int32} {o : Int} (hd : decode bytes pc = .ok (.ifCond .ne o, 3)) (hp : 0 ≤ (pc : Int) + o ∧ ((pc : Int) + o).toNat = pt) (hf : pc + 3 = pf) (kt : ¬ x = 0 → Go w Z EL C N Q p e s below T (mkF m pt L S)) (kf : x = 0 → Go w Z EL C N Q p e s below T (mkF m pf L S)) : Go w Z EL C N Q p e s below T (mkF m pc L (.int x :: S)) := by
  subst hf
  by_cases hc : x = 0
  · exact ps X (fun H hx hby _ q => XS.ifNo H hx rfl (hb hby hd) rfl (XT.i0_ne_f hc) q) (kf hc)
  · exact ps X (fun H hx hby _ q => XS.ifYes H hx rfl (pc0 := pc) rfl (hb hby hd) rfl (XT.i0_ne_t hc) hp.1 hp.2 q) (kt hc)
theorem o_if_icmplt (X : St w Z a0 EL y bytes maxL ret p l e R s m args below meth c T h sf k n) {pc pt pf : Nat} {L : Array Slot} {S : List Value} {x z : Int32} {o : Int} (hd : decode bytes pc = .ok (.if_icmp .lt o, 3)) (hp : 0 ≤ (pc : Int) + o ∧ ((pc : Int) + o).toNat = pt) (hf : pc + 3 = pf) (kt : x < z → Go w Z EL C N Q p e s below T (mkF m pt L S)) (kf : ¬ x < z → Go w Z EL C N Q p e s below T (mkF m pf L S)) : Go w Z EL C N Q p e s below T (mkF m pc L (.int z :: .int x :: S)) := by
  subst hf
  by_cases hc : x < z
  · exact ps X (fun H hx hby _ q => XS.icmpYes H hx rfl (pc0 := pc) rfl (hb hby hd) rfl (XT.ii_lt_t hc) hp.1 hp.2 q) (kt hc)
  · exact ps X (fun H hx hby _ q => XS.icmpNo H hx rfl (hb hby hd) rfl (XT.ii_lt_f hc) q) (kf hc)
theorem o_iflt (X : St w Z a0 EL y bytes maxL ret p l e R s m args below meth c T h sf k n) {pc pt pf : Nat} {L : Array Slot} {S : List Value} {x : Int32} {o : Int} (hd : decode bytes pc = .ok (.ifCond .lt o, 3)) (hp : 0 ≤ (pc : Int) + o ∧ ((pc : Int) + o).toNat = pt) (hf : pc + 3 = pf) (kt : x < 0 → Go w Z EL C N Q p e s below T (mkF m pt L S)) (kf : ¬ x < 0 → Go w Z EL C N Q p e s below T (mkF m pf L S)) : Go w Z EL C N Q p e s below T (mkF m pc L (.int x :: S)) := by
  subst hf
  by_cases hc : x < 0
  · exact ps X (fun H hx hby _ q => XS.ifYes H hx rfl (pc0 := pc) rfl (hb hby hd) rfl (XT.i0_lt_t hc) hp.1 hp.2 q) (kt hc)
  · exact ps X (fun H hx hby _ q => XS.ifNo H hx rfl (hb hby hd) rfl (XT.i0_lt_f hc) q) (kf hc)
theorem o_if_icmpge (X : St w Z a0 EL y bytes maxL ret p l e R s m args below meth c T h sf k n) {pc pt pf : Nat} {L : Array Slot} {S : List Value} {x z : Int32} {o : Int} (hd : decode bytes pc = .ok (.if_icmp .ge o, 3)) (hp : 0 ≤ (pc : Int) + o ∧ ((pc : Int) + o).toNat = pt) (hf : pc + 3 = pf) (kt : ¬ x < z → Go w Z EL C N Q p e s below T (mkF m pt L S)) (kf : x < z → Go w Z EL C N Q p e s below T (mkF m pf L S)) : Go w Z EL C N Q p e s below T (mkF m pc L (.int z :: .int x :: S)) := by
  subst hf
  by_cases hc : x < z
  · exact ps X (fun H hx hby _ q => XS.icmpNo H hx rfl (hb hby hd) rfl (XT.ii_ge_f hc) q) (kf hc)
  · exact ps X (fun H hx hby _ q => XS.icmpYes H hx rfl (pc0 := pc) rfl (hb hby hd) rfl (XT.ii_ge_t hc) hp.1 hp.2 q) (kt hc)
theorem o_ifge (X : St w Z a0 EL y bytes maxL ret p l e R s m args below meth c T h sf k n) {pc pt pf : Nat} {L : Array Slot} {S : List Value} {x : Int32} {o : Int} (hd : decode bytes pc = .ok (.ifCond .ge o, 3)) (hp : 0 ≤ (pc : Int) + o ∧ ((pc : Int) + o).toNat = pt) (hf : pc + 3 = pf) (kt : ¬ x < 0 → Go w Z EL C N Q p e s below T (mkF m pt L S)) (kf : x < 0 → Go w Z EL C N Q p e s below T (mkF m pf L S)) : Go w Z EL C N Q p e s below T (mkF m pc L (.int x :: S)) := by
  subst hf
  by_cases hc : x < 0
  · exact ps X (fun H hx hby _ q => XS.ifNo H hx rfl (hb hby hd) rfl (XT.i0_ge_f hc) q) (kf hc)
  · exact ps X (fun H hx hby _ q => XS.ifYes H hx rfl (pc0 := pc) rfl (hb hby hd) rfl (XT.i0_ge_t hc) hp.1 hp.2 q) (kt hc)
theorem o_if_icmpgt (X : St w Z a0 EL y bytes maxL ret p l e R s m args below meth c T h sf k n) {pc pt pf : Nat} {L : Array Slot} {S : List Value} {x z : Int32} {o : Int} (hd : decode bytes pc = .ok (.if_icmp .gt o, 3)) (hp : 0 ≤ (pc : Int) + o ∧ ((pc : Int) + o).toNat = pt) (hf : pc + 3 = pf) (kt : z < x → Go w Z EL C N Q p e s below T (mkF m pt L S)) (kf : ¬ z < x → Go w Z EL C N Q p e s below T (mkF m pf L S)) : Go w Z EL C N Q p e s below T (mkF m pc L (.int z :: .int x :: S)) := by
  subst hf
  by_cases hc : z < x
  · exact ps X (fun H hx hby _ q => XS.icmpYes H hx rfl (pc0 := pc) rfl (hb hby hd) rfl (XT.ii_gt_t hc) hp.1 hp.2 q) (kt hc)
  · exact ps X (fun H hx hby _ q => XS.icmpNo H hx rfl (hb hby hd) rfl (XT.ii_gt_f hc) q) (kf hc)
theorem o_ifgt (X : St w Z a0 EL y bytes maxL ret p l e R s m args below meth c T h sf k n) {pc pt pf : Nat} {L : Array Slot} {S : List Value} {x : Int32} {o : Int} (hd : decode bytes pc = .ok (.ifCond .gt o, 3)) (hp : 0 ≤ (pc : Int) + o ∧ ((pc : Int) + o).toNat = pt) (hf : pc + 3 = pf) (kt : 0 < x → Go w Z EL C N Q p e s below T (mkF m pt L S)) (kf : ¬ 0 < x → Go w Z EL C N Q p e s below T (mkF m pf L S)) : Go w Z EL C N Q p e s below T (mkF m pc L (.int x :: S)) := by
  subst hf
  by_cases hc : 0 < x
  · exact ps X (fun H hx hby _ q => XS.ifYes H hx rfl (pc0 := pc) rfl (hb hby hd) rfl (XT.i0_gt_t hc) hp.1 hp.2 q) (kt hc)
  · exact ps X (fun H hx hby _ q => XS.ifNo H hx rfl (hb hby hd) rfl (XT.i0_gt_f hc) q) (kf hc)
theorem o_if_icmple (X : St w Z a0 EL y bytes maxL ret p l e R s m args below meth c T h sf k n) {pc pt pf : Nat} {L : Array Slot} {S : List Value} {x z : Int32} {o : Int} (hd : decode bytes pc = .ok (.if_icmp .le o, 3)) (hp : 0 ≤ (pc : Int) + o ∧ ((pc : Int) + o).toNat = pt) (hf : pc + 3 = pf) (kt : ¬ z < x → Go w Z EL C N Q p e s below T (mkF m pt L S)) (kf : z < x → Go w Z EL C N Q p e s below T (mkF m pf L S)) : Go w Z EL C N Q p e s below T (mkF m pc L (.int z :: .int x :: S)) := by
  subst hf
  by_cases hc : z < x
  · exact ps X (fun H hx hby _ q => XS.icmpNo H hx rfl (hb hby hd) rfl (XT.ii_le_f hc) q) (kf hc)
  · exact ps X (fun H hx hby _ q => XS.icmpYes H hx rfl (pc0 := pc) rfl (hb hby hd) rfl (XT.ii_le_t hc) hp.1 hp.2 q) (kt hc)
theorem o_ifle (X : St w Z a0 EL y bytes maxL ret p l e R s m args below meth c T h sf k n) {pc pt pf : Nat} {L : Array Slot} {S : List Value} {x : Int32} {o : Int} (hd : decode bytes pc = .ok (.ifCond .le o, 3)) (hp : 0 ≤ (pc : Int) + o ∧ ((pc : Int) + o).toNat = pt) (hf : pc + 3 = pf) (kt : ¬ 0 < x → Go w Z EL C N Q p e s below T (mkF m pt L S)) (kf : 0 < x → Go w Z EL C N Q p e s below T (mkF m pf L S)) : Go w Z EL C N Q p e s below T (mkF m pc L (.int x :: S)) := by
  subst hf
  by_cases hc : 0 < x
  · exact ps X (fun H hx hby _ q => XS.ifNo H hx rfl (hb hby hd) rfl (XT.i0_le_f hc) q) (kf hc)
  · exact ps X (fun H hx hby _ q => XS.ifYes H hx rfl (pc0 := pc) rfl (hb hby hd) rfl (XT.i0_le_t hc) hp.1 hp.2 q) (kt hc)
theorem o_ifnull_y (X : St w Z a0 EL y bytes maxL ret p l e R s m args below meth c T h sf k n) {pc pt : Nat} {L : Array Slot} {S : List Value} {o : Int} (hd : decode bytes pc = .ok (.ifnull o, 3)) (hp : 0 ≤ (pc : Int) + o ∧ ((pc : Int) + o).toNat = pt) (kk : Go w Z EL C N Q p e s below T (mkF m pt L S)) : Go w Z EL C N Q p e s below T (mkF m pc L (.null :: S)) :=
  ps X (fun H hx hby _ q => XS.ifnullYes H hx rfl (pc0 := pc) rfl (hb hby hd) rfl hp.1 hp.2 q) kk
theorem o_ifnull_n (X : St w Z a0 EL y bytes maxL ret p l e R s m args below meth c T h sf k n) {pc pf : Nat} {L : Array Slot} {S : List Value} {o : Int} {b : Addr} (hd : decode bytes pc = .ok (.ifnull o, 3)) (hf : pc + 3 = pf) (kk : Go w Z EL C N Q p e s below T (mkF m pf L S)) : Go w Z EL C N Q p e s below T (mkF m pc L (.ref b :: S)) := by
  subst hf
  exact ps X (fun H hx hby _ q => XS.ifnullNo H hx rfl (hb hby hd) rfl q) kk
theorem o_ifnonnull_y (X : St w Z a0 EL y bytes maxL ret p l e R s m args below meth c T h sf k n) {pc pt : Nat} {L : Array Slot} {S : List Value} {o : Int} {b : Addr} (hd : decode bytes pc = .ok (.ifnonnull o, 3)) (hp : 0 ≤ (pc : Int) + o ∧ ((pc : Int) + o).toNat = pt) (kk : Go w Z EL C N Q p e s below T (mkF m pt L S)) : Go w Z EL C N Q p e s below T (mkF m pc L (.ref b :: S)) :=
  ps X (fun H hx hby _ q => XS.ifnonnullYes H hx rfl (pc0 := pc) rfl (hb hby hd) rfl hp.1 hp.2 q) kk
theorem o_ifnonnull_n (X : St w Z a0 EL y bytes maxL ret p l e R s m args below meth c T h sf k n) {pc pf : Nat} {L : Array Slot} {S : List Value} {o : Int} (hd : decode bytes pc = .ok (.ifnonnull o, 3)) (hf : pc + 3 = pf) (kk : Go w Z EL C N Q p e s below T (mkF m pf L S)) : Go w Z EL C N Q p e s below T (mkF m pc L (.null :: S)) := by
  subst hf
  exact ps X (fun H hx hby _ q => XS.ifnonnullNo H hx rfl (hb hby hd) rfl q) kk
theorem o_if_acmpeq (X : St w Z a0 EL y bytes maxL ret p l e R s m args below meth c T h sf k n) {pc pt pf : Nat} {L : Array Slot} {S : List Value} {u v : Value} {o : Int} (hd : decode bytes pc = .ok (.if_acmp .eq o, 3)) (hu : u.isRef = true) (hv : v.isRef = true) (hp : 0 ≤ (pc : Int) + o ∧ ((pc : Int) + o).toNat = pt) (hf : pc + 3 = pf) (kt : u = v → Go w Z EL C N Q p e s below T (mkF m pt L S)) (kf : ¬ u = v → Go w Z EL C N Q p e s below T (mkF m pf L S)) : Go w Z EL C N Q p e s below T (mkF m pc L (v :: u :: S)) := by
  subst hf
  by_cases hc : u = v
  · exact ps X (fun H hx hby _ q => XT.acmpYes H hx rfl (pc0 := pc) rfl (hb hby hd) rfl hu hv (XT.aa_eq_t hc) hp.1 hp.2 q) (kt hc)
  · exact ps X (fun H hx hby _ q => XT.acmpNo H hx rfl (hb hby hd) rfl hu hv (XT.aa_eq_f hc) q) (kf hc)
theorem o_if_acmpne (X : St w Z a0 EL y bytes maxL ret p l e R s m args below meth c T h sf k n) {pc pt pf : Nat} {L : Array Slot} {S : List Value} {u v : Value} {o : Int} (hd : decode bytes pc = .ok (.if_acmp .ne o, 3)) (hu : u.isRef = true) (hv : v.isRef = true) (hp : 0 ≤ (pc : Int) + o ∧ ((pc : Int) + o).toNat = pt) (hf : pc + 3 = pf) (kt : ¬ u = v → Go w Z EL C N Q p e s below T (mkF m pt L S)) (kf : u = v → Go w Z EL C N Q p e s below T (mkF m pf L S)) : Go w Z EL C N Q p e s below T (mkF m pc L (v :: u :: S)) := by
  subst hf
  by_cases hc : u = v
  · exact ps X (fun H hx hby _ q => XT.acmpNo H hx rfl (hb hby hd) rfl hu hv (XT.aa_ne_f hc) q) (kf hc)
  · exact ps X (fun H hx hby _ q => XT.acmpYes H hx rfl (pc0 := pc) rfl (hb hby hd) rfl hu hv (XT.aa_ne_t hc) hp.1 hp.2 q) (kt hc)
theorem St.ext (X : St w Z a0 EL y bytes maxL ret p l e R s m args below meth c T h sf k n) : Ext Z.heap h := by
  obtain ⟨-, vm0, k0, locs, X0, eT, hS, hk, hZ, hown, N, E, -⟩ := X; exact E
theorem St.drop (X : St w Z a0 EL y bytes maxL ret p l e R s m args below meth c T h sf k n) {sf' : List Addr} (q : ∀ x ∈ sf', x ∈ sf) : St w Z a0 EL y bytes maxL ret p l e R s m args below meth c T h sf' k n := by
  obtain ⟨c0, vm0, k0, locs, X0, eT, hS, hk, hZ, hown, N, E, hw, hC, hsf⟩ := X
  exact ⟨c0, vm0, k0, locs, X0, eT, hS, hk, hZ, hown, N, E, hw, hC, fun x hx => hsf x (q x hx)⟩
theorem o_getfield (X : St w Z a0 EL y bytes maxL ret p l e R s m args below meth c T h sf k n) {pc pc' : Nat} {L : Array Slot} {S : List Value} {idx : Nat} {R0 O nm d : String} {a : Addr} {v : Value} (hd : decode bytes pc = .ok (.getfield idx, 3)) (hp : pc + 3 = pc') (w1 : (Cond.fieldLink y.cls idx R0 nm d).before a0 Z = true) (via : Via Z R0 O nm d) (F : Fld Z h a O nm d v)
    (kk : ∀ T', St w Z a0 EL y bytes maxL ret p l e R s m args below meth c T' h sf k n → Go w Z EL C N Q p e s below T' (mkF m pc' L (v :: S))) : Go w Z EL C N Q p e s below T (mkF m pc L (.ref a :: S)) := by
  subst hp
  obtain ⟨⟨hx, hby, c1⟩, vm0, k0, locs, X0, eT, hS, hk, hZ, hown, N, E, hw, hC, hsf⟩ := X
  obtain ⟨T', X', e', st⟩ := getF (s := s.setVm vm0) X0 hx hZ hown (host := "") (Or.inl w1) via eT F (g := mkF m pc L (.ref a :: S)) rfl rfl (hb hby hd)
  obtain ⟨s₂, o, hs, r⟩ := kk T' ⟨⟨hx, hby, c1⟩, vm0, k0, locs, X', e', hS, hk, hZ, hown, N, E, hw, hC, hsf⟩
  exact ⟨s₂, o, st _ hs, r⟩
theorem o_getfieldNest (X : St w Z a0 EL y bytes maxL ret p l e R s m args below meth c T h sf k n) {pc pc' : Nat} {L : Array Slot} {S : List Value} {idx : Nat} {R0 O nm d host : String} {a : Addr} {v : Value} (hd : decode bytes pc = .ok (.getfield idx, 3)) (hp : pc + 3 = pc') (w1 : (Cond.fieldLinkNest y.cls idx R0 nm d host).before a0 Z = true) (via : Via Z R0 O nm d) (F : Fld Z h a O nm d v)
    (kk : ∀ T', St w Z a0 EL y bytes maxL ret p l e R s m args below meth c T' h sf k n → Go w Z EL C N Q p e s below T' (mkF m pc' L (v :: S))) : Go w Z EL C N Q p e s below T (mkF m pc L (.ref a :: S)) := by
  subst hp
  obtain ⟨⟨hx, hby, c1⟩, vm0, k0, locs, X0, eT, hS, hk, hZ, hown, N, E, hw, hC, hsf⟩ := X
  obtain ⟨T', X', e', st⟩ := getF (s := s.setVm vm0) X0 hx hZ hown (Or.inr w1) via eT F (g := mkF m pc L (.ref a :: S)) rfl rfl (hb hby hd)
  obtain ⟨s₂, o, hs, r⟩ := kk T' ⟨⟨hx, hby, c1⟩, vm0, k0, locs, X', e', hS, hk, hZ, hown, N, E, hw, hC, hsf⟩
  exact ⟨s₂, o, st _ hs, r⟩
theorem o_getstatic (X : St w Z a0 EL y bytes maxL ret p l e R s m args below meth c T h sf k n) {pc pc' : Nat} {L : Array Slot} {S : List Value} {idx : Nat} {R0 O nm d : String} {v : Value} (hd : decode bytes pc = .ok (.getstatic idx, 3)) (hp : pc + 3 = pc') (w1 : (Cond.fieldLink y.cls idx R0 nm d).before a0 Z = true) (via : Via Z R0 O nm d) (F : Sta Z Z.heap O nm d v)
    (kk : ∀ T', St w Z a0 EL y bytes maxL ret p l e R s m args below meth c T' h sf k n → Go w Z EL C N Q p e s below T' (mkF m pc' L (v :: S))) : Go w Z EL C N Q p e s below T (mkF m pc L S) := by
  subst hp
  obtain ⟨⟨hx, hby, c1⟩, vm0, k0, locs, X0, eT, hS, hk, hZ, hown, N, E, hw, hC, hsf⟩ := X
  obtain ⟨T', X', e', st⟩ := getS (s := s.setVm vm0) X0 hx hZ hown (host := "") w1 via eT (F.ext E) (g := mkF m pc L S) rfl (hb hby hd)
  obtain ⟨s₂, o, hs, r⟩ := kk T' ⟨⟨hx, hby, c1⟩, vm0, k0, locs, X', e', hS, hk, hZ, hown, N, E, hw, hC, hsf⟩
  exact ⟨s₂, o, st _ hs, r⟩
/-- behind a write of one slot -/
theorem St.wrote {vm0 : Vm} {k0 : Nat} {locs : List Loc} {T' : State} {h' : Heap} {a : Addr} {sl : Nat} {v : Value} (c1 : p.tables.exec = Jvm.exec ∧ c.code = bytes ∧ c.maxLocals = maxL ∧ meth.sig.returnType = ret ∧ meth.locks = false ∧ meth.name = y.name ∧ EW Z a0 EL)
    (X' : Stand p l e R (s.setVm vm0) m args below meth c T' (locs ++ [⟨a, sl⟩]) k n) (e' : T'.heap = h') (hS : s.Since vm0 k0) (hk : k0 ≤ h.size) (hZ : Z.Warmed39 vm0) (hown : vm0.findClass y.cls = some m.cls) (N : Fr Z.heap.size locs) (E : Ext Z.heap h) (hw : w = false → vm0 = s.vm ∧ EL = []) (hC : CHr Z EL s.vm s.heap vm0 h) (hsf : ∀ x ∈ sf, x < h.size ∧ Safe Z EL vm0 h x)
    (W : Wr h h' a sl v) (ha : Z.heap.size ≤ a) (ok : Ok Z EL h sf a) : St w Z a0 EL y bytes maxL ret p l e R s m args below meth c T' h' sf k n := by
  have S := ok.safe hZ.alike hsf
  refine ⟨c1, vm0, k0, _, X', e', hS, by rw [W.size]; exact hk, hZ, hown, Fr.snoc X' N ha, (Old.wr (Z := Z) (n0 := Z.heap.size) ⟨rfl, E⟩ W ha).2, hw, hC.trans (CHr.wr W S hC.1), fun x hx => ⟨by rw [W.size]; exact (hsf x hx).1, Safe.wr W S hC.1 (hsf x hx).2⟩⟩
theorem o_putfield (X : St w Z a0 EL y bytes maxL ret p l e R s m args below meth c T h sf k n) {pc pc' : Nat} {L : Array Slot} {S : List Value} {idx kk0 : Nat} {R0 O nm d K : String} {ty : FieldType} {a : Addr} {v old : Value} (hd : decode bytes pc = .ok (.putfield idx, 3)) (hp : pc + 3 = pc') (w1 : (Cond.fieldLink y.cls idx R0 nm d).before a0 Z = true) (via : Via Z R0 O nm d) (F : Fld Z h a O nm d old) (E0 : Exa Z h a K)
    (L0 : (Cond.lays K O nm d).before a0 Z = true ∨ ((Cond.laysFinal K O nm d).before a0 Z = true ∧ y.cls = O ∧ y.name = "<init>")) (wi : (Cond.instantiable K kk0).before a0 Z = true) (hty : parseFieldDescriptor d = some ty) (hn : narrow ty v = v) (hf : fits ty v = true) (ha : Z.heap.size ≤ a) (ok : Ok Z EL h sf a)
    (kk : ∀ T' h', Wr h h' a (Jvm.RoadKit.slotOf Z O nm d) v → St w Z a0 EL y bytes maxL ret p l e R s m args below meth c T' h' sf k n → Go w Z EL C N Q p e s below T' (mkF m pc' L S)) : Go w Z EL C N Q p e s below T (mkF m pc L (v :: .ref a :: S)) := by
  subst hp
  obtain ⟨c1, vm0, k0, locs, X0, eT, hS, hk, hZ, hown, N, E, hw, hC, hsf⟩ := X
  obtain ⟨T', h', X', e', W, st⟩ := putF (s := s.setVm vm0) X0 c1.1 hZ hown (host := "") (Or.inl w1) via eT F E0 (L0.imp id fun q => ⟨q.1, q.2.1, c1.2.2.2.2.2.1.trans q.2.2⟩) wi hty hn hf (g := mkF m pc L (v :: .ref a :: S)) rfl rfl (hb c1.2.1 hd)
  obtain ⟨s₂, o, hs, r⟩ := kk T' h' W (St.wrote c1 X' e' hS hk hZ hown N E hw hC hsf W ha ok)
  exact ⟨s₂, o, st _ hs, r⟩
theorem o_putfieldN (X : St w Z a0 EL y bytes maxL ret p l e R s m args below meth c T h sf k n) {pc pc' : Nat} {L : Array Slot} {S : List Value} {idx kk0 : Nat} {R0 O nm d K : String} {ty : FieldType} {a : Addr} {v v' old : Value} (hd : decode bytes pc = .ok (.putfield idx, 3)) (hp : pc + 3 = pc') (w1 : (Cond.fieldLink y.cls idx R0 nm d).before a0 Z = true) (via : Via Z R0 O nm d) (F : Fld Z h a O nm d old) (E0 : Exa Z h a K)
    (L0 : (Cond.lays K O nm d).before a0 Z = true ∨ ((Cond.laysFinal K O nm d).before a0 Z = true ∧ y.cls = O ∧ y.name = "<init>")) (wi : (Cond.instantiable K kk0).before a0 Z = true) (hty : parseFieldDescriptor d = some ty) (hn : narrow ty v = v') (hf : fits ty v' = true) (ha : Z.heap.size ≤ a) (ok : Ok Z EL h sf a)
    (kk : ∀ T' h', Wr h h' a (Jvm.RoadKit.slotOf Z O nm d) v' → St w Z a0 EL y bytes maxL ret p l e R s m args below meth c T' h' sf k n → Go w Z EL C N Q p e s below T' (mkF m pc' L S)) : Go w Z EL C N Q p e s below T (mkF m pc L (v :: .ref a :: S)) := by
  subst hp
  obtain ⟨c1, vm0, k0, locs, X0, eT, hS, hk, hZ, hown, N, E, hw, hC, hsf⟩ := X
  obtain ⟨T', h', X', e', W, st⟩ := putFN (s := s.setVm vm0) X0 c1.1 hZ hown w1 via eT F E0 (L0.imp id fun q => ⟨q.1, q.2.1, c1.2.2.2.2.2.1.trans q.2.2⟩) wi hty hn hf (g := mkF m pc L (v :: .ref a :: S)) rfl rfl (hb c1.2.1 hd)
  obtain ⟨s₂, o, hs, r⟩ := kk T' h' W (St.wrote c1 X' e' hS hk hZ hown N E hw hC hsf W ha ok)
  exact ⟨s₂, o, st _ hs, r⟩
/-- behind an instruction that made one cell -/
theorem St.made {vm0 : Vm} {k0 : Nat} {locs : List Loc} {T' : State} {h' : Heap} {k1 n1 : Nat} (c1 : p.tables.exec = Jvm.exec ∧ c.code = bytes ∧ c.maxLocals = maxL ∧ meth.sig.returnType = ret ∧ meth.locks = false ∧ meth.name = y.name ∧ EW Z a0 EL)
    (X' : Stand p l e R (s.setVm vm0) m args below meth c T' locs k1 n1) (e' : T'.heap = h') (hS : s.Since vm0 k0) (hk : k0 ≤ h.size) (hZ : Z.Warmed39 vm0) (hown : vm0.findClass y.cls = some m.cls) (N : Fr Z.heap.size locs) (E : Ext Z.heap h) (hw : w = false → vm0 = s.vm ∧ EL = []) (hC : CHr Z EL s.vm s.heap vm0 h) (hsf : ∀ x ∈ sf, x < h.size ∧ Safe Z EL vm0 h x)
    (E2 : Ext h h') (hlt : h.size < h'.size) : St w Z a0 EL y bytes maxL ret p l e R s m args below meth c T' h' (h.size :: sf) k1 n1 := by
  refine ⟨c1, vm0, k0, locs, X', e', hS, Nat.le_trans hk E2.1, hZ, hown, N, ⟨Nat.le_trans E.1 E2.1, fun a q r => E2.2 _ _ (E.2 _ _ r)⟩, hw, hC.trans (CHr.ext E2 hC.1), fun x hx => ?_⟩
  rcases List.mem_cons.mp hx with rfl | hx
  · exact ⟨hlt, Safe.ext E2 hC.1 (Safe.new (Nat.le_refl _))⟩
  · exact ⟨Nat.lt_of_lt_of_le (hsf x hx).1 E2.1, Safe.ext E2 hC.1 (hsf x hx).2⟩
theorem o_new (X : St w Z a0 EL y bytes maxL ret p l e R s m args below meth c T h sf k n) {pc pc' : Nat} {L : Array Slot} {S : List Value} {idx nn : Nat} {K : String} (hd : decode bytes pc = .ok (.new idx, 3)) (hp : pc + 3 = pc') (w1 : (Cond.classLink y.cls idx K).before a0 Z = true) (wi : (Cond.instantiable K nn).before a0 Z = true) (wz : (Cond.initialized K).before a0 Z = true) (hc : k + 1 ≤ R.cells) (hl : n + nn ≤ R.slots)
    (kk : ∀ T' h' a, a = h.size → Z.heap.size ≤ a → Ext h h' → Exa Z h' a K → (∀ {O nm d : String} {ty : FieldType}, Laid Z a0 K O nm d → parseFieldDescriptor d = some ty → Fld Z h' a O nm d (defaultValue ty)) → St w Z a0 EL y bytes maxL ret p l e R s m args below meth c T' h' (a :: sf) (k + 1) (n + nn) → Go w Z EL C N Q p e s below T' (mkF m pc' L (.ref a :: S))) : Go w Z EL C N Q p e s below T (mkF m pc L S) := by
  subst hp
  obtain ⟨c1, vm0, k0, locs, X0, eT, hS, hk, hZ, hown, N, E, hw, hC, hsf⟩ := X
  obtain ⟨T', h', X', e', E2, A2, D2, -, st⟩ := newO (s := s.setVm vm0) X0 c1.1 hZ hown w1 wi wz eT (g := mkF m pc L S) rfl (hb c1.2.1 hd) hc hl
  obtain ⟨s₂, o, hs, r⟩ := kk T' h' h.size rfl E.1 E2 A2 D2 (St.made c1 X' e' hS hk hZ hown N E hw hC hsf E2 A2.lt)
  exact ⟨s₂, o, st _ hs, r⟩
theorem o_newarray (X : St w Z a0 EL y bytes maxL ret p l e R s m args below meth c T h sf k n) {pc pc' : Nat} {L : Array Slot} {S : List Value} {aty : ArrayType} {z : Int32} (hd : decode bytes pc = .ok (.newarray aty, 2)) (hp : pc + 2 = pc') (w1 : (Cond.arrayClass (newarray.typeOf aty)).before a0 Z = true) (hz : ¬ z < 0) {cap : Nat} (hcap : z.toNatClampNeg ≤ cap) (hb8 : cap * 8 ≤ 536870912) (hc : k + 1 ≤ R.cells) (hl : n + cap ≤ R.slots)
    (kk : ∀ T' h' a kA, a = h.size → Z.heap.size ≤ a → Ext h h' → Arv Z h' a kA (newarray.typeOf aty) z [] (defaultValue (newarray.typeOf aty)) → St w Z a0 EL y bytes maxL ret p l e R s m args below meth c T' h' (a :: sf) (k + 1) (n + cap) → Go w Z EL C N Q p e s below T' (mkF m pc' L (.ref a :: S))) : Go w Z EL C N Q p e s below T (mkF m pc L (.int z :: S)) := by
  subst hp
  obtain ⟨c1, vm0, k0, locs, X0, eT, hS, hk, hZ, hown, N, E, hw, hC, hsf⟩ := X
  obtain ⟨T', h', kA, X', e', E2, A2, st⟩ := newP (s := s.setVm vm0) X0 c1.1 hZ w1 eT (g := mkF m pc L (.int z :: S)) rfl (hb c1.2.1 hd) rfl hz hcap hb8 hc hl
  obtain ⟨s₂, o, hs, r⟩ := kk T' h' h.size kA rfl E.1 E2 (Arv.new A2 hz) (St.made c1 X' e' hS hk hZ hown N E hw hC hsf E2 A2.lt)
  exact ⟨s₂, o, st _ hs, r⟩
theorem o_newarrayE (X : St w Z a0 EL y bytes maxL ret p l e R s m args below meth c T h sf k n) {pc pc' : Nat} {L : Array Slot} {S : List Value} {aty : ArrayType} {z : Int32} (hd : decode bytes pc = .ok (.newarray aty, 2)) (hp : pc + 2 = pc') (w1 : (Cond.arrayClass (newarray.typeOf aty)).before a0 Z = true) (hz : ¬ z < 0) {cap : Nat} (hcap : z.toNatClampNeg ≤ cap) (hb8 : cap * 8 ≤ 536870912) (hc : k + 1 ≤ R.cells) (hl : n + cap ≤ R.slots) {ad : String} (had : "[" ++ (newarray.typeOf aty).toString = ad)
    (kk : ∀ T' h' a kA, a = h.size → Z.heap.size ≤ a → Ext h h' → Arv Z h' a kA (newarray.typeOf aty) z [] (defaultValue (newarray.typeOf aty)) → Exa Z h' a ad → St w Z a0 EL y bytes maxL ret p l e R s m args below meth c T' h' (a :: sf) (k + 1) (n + cap) → Go w Z EL C N Q p e s below T' (mkF m pc' L (.ref a :: S))) : Go w Z EL C N Q p e s below T (mkF m pc L (.int z :: S)) := by
  subst hp
  obtain ⟨c1, vm0, k0, locs, X0, eT, hS, hk, hZ, hown, N, E, hw, hC, hsf⟩ := X
  obtain ⟨T', h', kA, X', e', E2, A2, D2, st⟩ := newPE (s := s.setVm vm0) X0 c1.1 hZ w1 eT (g := mkF m pc L (.int z :: S)) rfl (hb c1.2.1 hd) rfl hz hcap hb8 hc hl had
  obtain ⟨s₂, o, hs, r⟩ := kk T' h' h.size kA rfl E.1 E2 (Arv.new A2 hz) D2 (St.made c1 X' e' hS hk hZ hown N E hw hC hsf E2 A2.lt)
  exact ⟨s₂, o, st _ hs, r⟩
theorem o_lookHit (X : St w Z a0 EL y bytes maxL ret p l e R s m args below meth c T h sf k n) {pc pc' len : Nat} {L : Array Slot} {S : List Value} {i : Int32} {dflt : Int} {pairs : Array (Int × Int)} (hd : decode bytes pc = .ok (.lookupswitch dflt pairs, len)) (hso : (pairs.toList.zip (pairs.toList.drop 1)).all (fun (a, next) => a.1 < next.1) = true) {u off : Int} (hf : pairs.find? (·.1 == i.toInt) = some (u, off)) (hp : 0 ≤ (pc : Int) + off ∧ ((pc : Int) + off).toNat = pc') (kk : Go w Z EL C N Q p e s below T (mkF m pc' L S)) : Go w Z EL C N Q p e s below T (mkF m pc L (.int i :: S)) := by
  obtain ⟨hp0, rfl⟩ := hp
  obtain ⟨c1, vm0, k0, locs, X0, -⟩ := X
  obtain ⟨s₂, o, hs, r⟩ := kk
  exact ⟨s₂, o, X0.lookupswitchHit c1.1 (g := mkF m pc L (.int i :: S)) rfl rfl (hb c1.2.1 hd) hso hf hp0 _ hs, r⟩
theorem o_lookMiss (X : St w Z a0 EL y bytes maxL ret p l e R s m args below meth c T h sf k n) {pc pc' len : Nat} {L : Array Slot} {S : List Value} {i : Int32} {dflt : Int} {pairs : Array (Int × Int)} (hd : decode bytes pc = .ok (.lookupswitch dflt pairs, len)) (hso : (pairs.toList.zip (pairs.toList.drop 1)).all (fun (a, next) => a.1 < next.1) = true) (hf : pairs.find? (·.1 == i.toInt) = none) (hp : 0 ≤ (pc : Int) + dflt ∧ ((pc : Int) + dflt).toNat = pc') (kk : Go w Z EL C N Q p e s below T (mkF m pc' L S)) : Go w Z EL C N Q p e s below T (mkF m pc L (.int i :: S)) := by
  obtain ⟨hp0, rfl⟩ := hp
  obtain ⟨c1, vm0, k0, locs, X0, -⟩ := X
  obtain ⟨s₂, o, hs, r⟩ := kk
  exact ⟨s₂, o, X0.lookupswitchMiss c1.1 (g := mkF m pc L (.int i :: S)) rfl rfl (hb c1.2.1 hd) hso hf hp0 _ hs, r⟩
theorem o_tswIn (X : St w Z a0 EL y bytes maxL ret p l e R s m args below meth c T h sf k n) {pc pc' len : Nat} {L : Array Slot} {S : List Value} {i : Int32} {dflt low high : Int} {offs : Array Int} (hd : decode bytes pc = .ok (.tableswitch dflt low high offs, len)) (hin : ¬ (i.toInt < low ∨ i.toInt > high)) {off : Int} (hf : offs[(i.toInt - low).toNat]? = some off) (hp : 0 ≤ (pc : Int) + off ∧ ((pc : Int) + off).toNat = pc') (kk : Go w Z EL C N Q p e s below T (mkF m pc' L S)) : Go w Z EL C N Q p e s below T (mkF m pc L (.int i :: S)) := by
  obtain ⟨hp0, rfl⟩ := hp
  obtain ⟨c1, vm0, k0, locs, X0, -⟩ := X
  obtain ⟨s₂, o, hs, r⟩ := kk
  exact ⟨s₂, o, X0.tableswitchIn c1.1 (g := mkF m pc L (.int i :: S)) rfl rfl (hb c1.2.1 hd) hin hf hp0 _ hs, r⟩
theorem o_tswOut (X : St w Z a0 EL y bytes maxL ret p l e R s m args below meth c T h sf k n) {pc pc' len : Nat} {L : Array Slot} {S : List Value} {i : Int32} {dflt low high : Int} {offs : Array Int} (hd : decode bytes pc = .ok (.tableswitch dflt low high offs, len)) (hout : i.toInt < low ∨ i.toInt > high) (hp : 0 ≤ (pc : Int) + dflt ∧ ((pc : Int) + dflt).toNat = pc') (kk : Go w Z EL C N Q p e s below T (mkF m pc' L S)) : Go w Z EL C N Q p e s below T (mkF m pc L (.int i :: S)) := by
  obtain ⟨hp0, rfl⟩ := hp
  obtain ⟨c1, vm0, k0, locs, X0, -⟩ := X
  obtain ⟨s₂, o, hs, r⟩ := kk
  exact ⟨s₂, o, X0.tableswitchOut c1.1 (g := mkF m pc L (.int i :: S)) rfl rfl (hb c1.2.1 hd) hout hp0 _ hs, r⟩
theorem o_anewarray (X : St w Z a0 EL y bytes maxL ret p l e R s m args below meth c T h sf k n) {pc pc' : Nat} {L : Array Slot} {S : List Value} {idx : Nat} {K : String} {z : Int32} (hd : decode bytes pc = .ok (.anewarray idx, 3)) (hp : pc + 3 = pc') (w1 : (Cond.classLink y.cls idx K).before a0 Z = true) (w2 : (Cond.arrayOver (.object K)).before a0 Z = true) (hz : ¬ z < 0) {cap : Nat} (hcap : z.toNatClampNeg ≤ cap) (hb8 : cap * 8 ≤ 536870912) (hc : k + 1 ≤ R.cells) (hl : n + cap ≤ R.slots)
    (kk : ∀ T' h' a kA, a = h.size → Z.heap.size ≤ a → Ext h h' → Arv Z h' a kA (.object K) z [] .null → Ovr Z kA K → St w Z a0 EL y bytes maxL ret p l e R s m args below meth c T' h' (a :: sf) (k + 1) (n + cap) → Go w Z EL C N Q p e s below T' (mkF m pc' L (.ref a :: S))) : Go w Z EL C N Q p e s below T (mkF m pc L (.int z :: S)) := by
  subst hp
  obtain ⟨c1, vm0, k0, locs, X0, eT, hS, hk, hZ, hown, N, E, hw, hC, hsf⟩ := X
  obtain ⟨T', h', kA, X', e', E2, A2, O2, st⟩ := newR (s := s.setVm vm0) X0 c1.1 hZ hown w1 w2 eT (g := mkF m pc L (.int z :: S)) rfl (hb c1.2.1 hd) rfl hz hcap hb8 hc hl
  obtain ⟨s₂, o, hs, r⟩ := kk T' h' h.size kA rfl E.1 E2 (Arv.new A2 hz) O2 (St.made c1 X' e' hS hk hZ hown N E hw hC hsf E2 A2.lt)
  exact ⟨s₂, o, st _ hs, r⟩
theorem o_castore (X : St w Z a0 EL y bytes maxL ret p l e R s m args below meth c T h sf k n) {pc pc' : Nat} {L : Array Slot} {S : List Value} {a : Addr} {kA : ClassId} {z j x : Int32} {vs : List Value} {d : Value} (hd : decode bytes pc = .ok (.castore, 1)) (hp : pc + 1 = pc') (A : Arv Z h a kA .char z vs d) (i : Nat) (hj : j.toNatClampNeg = i) (hjz : ¬ j < 0 ∧ j < z) (hi : i < vs.length) (ha : Z.heap.size ≤ a) (ok : Ok Z EL h sf a)
    (kk : ∀ T' h', Wr h h' a i (.int (nar .char x)) → Arv Z h' a kA .char z (vs.set i (.int (nar .char x))) d → St w Z a0 EL y bytes maxL ret p l e R s m args below meth c T' h' sf k n → Go w Z EL C N Q p e s below T' (mkF m pc' L S)) : Go w Z EL C N Q p e s below T (mkF m pc L (.int x :: .int j :: .ref a :: S)) := by
  subst hp
  obtain ⟨c1, vm0, k0, locs, X0, eT, hS, hk, hZ, hown, N, E, hw, hC, hsf⟩ := X
  obtain ⟨cl, Ar, q1, q2, q3, q4, q5⟩ := A
  have hin := inb_of (j := j) q2 hjz
  obtain ⟨T', h', X', e', W, st⟩ := stC (s := s.setVm vm0) X0 c1.1 hZ eT Ar hin (g := mkF m pc L (.int x :: .int j :: .ref a :: S)) rfl rfl (hb c1.2.1 hd)
  have V := Arv.set Ar q1 q2 q3 q4 q5 (fits_nar_char x) W i hj hi
  obtain ⟨s₂, o, hs, r⟩ := kk T' h' (hj ▸ W) V (St.wrote c1 X' e' hS hk hZ hown N E hw hC hsf W ha ok)
  exact ⟨s₂, o, st _ hs, r⟩
theorem o_bastore (X : St w Z a0 EL y bytes maxL ret p l e R s m args below meth c T h sf k n) {pc pc' : Nat} {L : Array Slot} {S : List Value} {a : Addr} {kA : ClassId} {z j x : Int32} {vs : List Value} {d : Value} (hd : decode bytes pc = .ok (.bastore, 1)) (hp : pc + 1 = pc') (A : Arv Z h a kA .byte z vs d) (i : Nat) (hj : j.toNatClampNeg = i) (hjz : ¬ j < 0 ∧ j < z) (hi : i < vs.length) (ha : Z.heap.size ≤ a) (ok : Ok Z EL h sf a)
    (kk : ∀ T' h', Wr h h' a i (.int (nar .byte x)) → Arv Z h' a kA .byte z (vs.set i (.int (nar .byte x))) d → St w Z a0 EL y bytes maxL ret p l e R s m args below meth c T' h' sf k n → Go w Z EL C N Q p e s below T' (mkF m pc' L S)) : Go w Z EL C N Q p e s below T (mkF m pc L (.int x :: .int j :: .ref a :: S)) := by
  subst hp
  obtain ⟨c1, vm0, k0, locs, X0, eT, hS, hk, hZ, hown, N, E, hw, hC, hsf⟩ := X
  obtain ⟨cl, Ar, q1, q2, q3, q4, q5⟩ := A
  have hin := inb_of (j := j) q2 hjz
  obtain ⟨T', h', X', e', W, st⟩ := stB (s := s.setVm vm0) X0 c1.1 hZ eT Ar hin (g := mkF m pc L (.int x :: .int j :: .ref a :: S)) rfl rfl (hb c1.2.1 hd)
  have V := Arv.set Ar q1 q2 q3 q4 q5 (fits_nar_byte x) W i hj hi
  obtain ⟨s₂, o, hs, r⟩ := kk T' h' (hj ▸ W) V (St.wrote c1 X' e' hS hk hZ hown N E hw hC hsf W ha ok)
  exact ⟨s₂, o, st _ hs, r⟩
theorem o_aastore (X : St w Z a0 EL y bytes maxL ret p l e R s m args below meth c T h sf k n) {pc pc' : Nat} {L : Array Slot} {S : List Value} {a b : Addr} {kA : ClassId} {K : String} {z j : Int32} {vs : List Value} {d : Value} (hd : decode bytes pc = .ok (.aastore, 1)) (hp : pc + 1 = pc') (A : Arv Z h a kA (.object K) z vs d) (O : Ovr Z kA K) (I : Ins Z h b K true) (i : Nat) (hj : j.toNatClampNeg = i) (hjz : ¬ j < 0 ∧ j < z) (hi : i < vs.length) (ha : Z.heap.size ≤ a) (ok : Ok Z EL h sf a)
    (kk : ∀ T' h', Wr h h' a i (.ref b) → Arv Z h' a kA (.object K) z (vs.set i (.ref b)) d → St w Z a0 EL y bytes maxL ret p l e R s m args below meth c T' h' sf k n → Go w Z EL C N Q p e s below T' (mkF m pc' L S)) : Go w Z EL C N Q p e s below T (mkF m pc L (.ref b :: .int j :: .ref a :: S)) := by
  subst hp
  obtain ⟨c1, vm0, k0, locs, X0, eT, hS, hk, hZ, hown, N, E, hw, hC, hsf⟩ := X
  obtain ⟨cl, Ar, q1, q2, q3, q4, q5⟩ := A
  have hin := inb_of (j := j) q2 hjz
  obtain ⟨T', h', X', e', W, st⟩ := stR (s := s.setVm vm0) X0 c1.1 hZ eT Ar hin rfl (Sto.ofV Ar q1 O I) (g := mkF m pc L (.ref b :: .int j :: .ref a :: S)) rfl rfl (hb c1.2.1 hd)
  have V := Arv.set Ar q1 q2 q3 q4 q5 rfl W i hj hi
  obtain ⟨s₂, o, hs, r⟩ := kk T' h' (hj ▸ W) V (St.wrote c1 X' e' hS hk hZ hown N E hw hC hsf W ha ok)
  exact ⟨s₂, o, st _ hs, r⟩
theorem o_caload (X : St w Z a0 EL y bytes maxL ret p l e R s m args below meth c T h sf k n) {pc pc' : Nat} {L : Array Slot} {S : List Value} {a : Addr} {kA : ClassId} {z j : Int32} {vs : List Value} {d v : Value} (hd : decode bytes pc = .ok (.caload, 1)) (hp : pc + 1 = pc') (A : Arv Z h a kA .char z vs d) (hjz : ¬ j < 0 ∧ j < z) (hv : vs.getD j.toNatClampNeg d = v)
    (kk : Go w Z EL C N Q p e s below T (mkF m pc' L (v :: S))) : Go w Z EL C N Q p e s below T (mkF m pc L (.int j :: .ref a :: S)) := by
  subst hp
  obtain ⟨c1, vm0, k0, locs, X0, eT, hS, hk, hZ, hown, N, E, hw, hC, hsf⟩ := X
  obtain ⟨cl, Ar, q1, q2, q3, q4, q5⟩ := A
  have hin := inb_of (j := j) q2 hjz
  obtain ⟨s₂, o, hs, r⟩ := kk
  exact ⟨s₂, o, X0.caload c1.1 (j := j) (v := v) (by rw [eT]; exact Ar.1) (State.isArrayOf_alike hZ.alike Ar.2.1) Ar.2.2 hin (q4.at hin hv) (g := mkF m pc L (.int j :: .ref a :: S)) rfl rfl (hb c1.2.1 hd) _ hs, r⟩
theorem o_baload (X : St w Z a0 EL y bytes maxL ret p l e R s m args below meth c T h sf k n) {pc pc' : Nat} {L : Array Slot} {S : List Value} {a : Addr} {kA : ClassId} {z j : Int32} {vs : List Value} {d v : Value} (hd : decode bytes pc = .ok (.baload, 1)) (hp : pc + 1 = pc') (A : Arv Z h a kA .byte z vs d) (hjz : ¬ j < 0 ∧ j < z) (hv : vs.getD j.toNatClampNeg d = v)
    (kk : Go w Z EL C N Q p e s below T (mkF m pc' L (v :: S))) : Go w Z EL C N Q p e s below T (mkF m pc L (.int j :: .ref a :: S)) := by
  subst hp
  obtain ⟨c1, vm0, k0, locs, X0, eT, hS, hk, hZ, hown, N, E, hw, hC, hsf⟩ := X
  obtain ⟨cl, Ar, q1, q2, q3, q4, q5⟩ := A
  have hin := inb_of (j := j) q2 hjz
  obtain ⟨s₂, o, hs, r⟩ := kk
  exact ⟨s₂, o, X0.baloadBytes c1.1 (j := j) (v := v) (by rw [eT]; exact Ar.1) (State.isArrayOf_alike hZ.alike Ar.2.1) Ar.2.2 hin (q4.at hin hv) (g := mkF m pc L (.int j :: .ref a :: S)) rfl rfl (hb c1.2.1 hd) _ hs, r⟩
theorem o_aaload (X : St w Z a0 EL y bytes maxL ret p l e R s m args below meth c T h sf k n) {pc pc' : Nat} {L : Array Slot} {S : List Value} {a : Addr} {kA : ClassId} {K : String} {z j : Int32} {vs : List Value} {d v : Value} (hd : decode bytes pc = .ok (.aaload, 1)) (hp : pc + 1 = pc') (A : Arv Z h a kA (.object K) z vs d) (hjz : ¬ j < 0 ∧ j < z) (hv : vs.getD j.toNatClampNeg d = v)
    (kk : Go w Z EL C N Q p e s below T (mkF m pc' L (v :: S))) : Go w Z EL C N Q p e s below T (mkF m pc L (.int j :: .ref a :: S)) := by
  subst hp
  obtain ⟨c1, vm0, k0, locs, X0, eT, hS, hk, hZ, hown, N, E, hw, hC, hsf⟩ := X
  obtain ⟨cl, Ar, q1, q2, q3, q4, q5⟩ := A
  have hin := inb_of (j := j) q2 hjz
  obtain ⟨s₂, o, hs, r⟩ := kk
  exact ⟨s₂, o, X0.aaload c1.1 (j := j) (v := v) (by rw [eT]; exact Ar.1) (State.isArrayOf_alike hZ.alike Ar.2.1) rfl Ar.2.2 hin (q4.at hin hv) (g := mkF m pc L (.int j :: .ref a :: S)) rfl rfl (hb c1.2.1 hd) _ hs, r⟩
theorem o_arraylength (X : St w Z a0 EL y bytes maxL ret p l e R s m args below meth c T h sf k n) {pc pc' : Nat} {L : Array Slot} {S : List Value} {a : Addr} {kA : ClassId} {ty : FieldType} {z : Int32} {vs : List Value} {d : Value} (hd : decode bytes pc = .ok (.arraylength, 1)) (hp : pc + 1 = pc') (A : Arv Z h a kA ty z vs d)
    (kk : Go w Z EL C N Q p e s below T (mkF m pc' L (.int z :: S))) : Go w Z EL C N Q p e s below T (mkF m pc L (.ref a :: S)) := by
  subst hp
  obtain ⟨c1, vm0, k0, locs, X0, eT, hS, hk, hZ, hown, N, E, hw, hC, hsf⟩ := X
  obtain ⟨cl, Ar, q1, q2, q3, q4, q5⟩ := A
  obtain ⟨s₂, o, hs, r⟩ := kk
  refine ⟨s₂, o, X0.arraylength c1.1 (by rw [eT]; exact Ar.1) (State.isArrayOf_alike hZ.alike Ar.2.1) (g := mkF m pc L (.ref a :: S)) rfl rfl (hb c1.2.1 hd) _ ?_, r⟩
  rw [len_of q2 q3]; exact hs
theorem o_checkcast (X : St w Z a0 EL y bytes maxL ret p l e R s m args below meth c T h sf k n) {pc pc' : Nat} {L : Array Slot} {S : List Value} {idx : Nat} {K : String} {a : Addr} (hd : decode bytes pc = .ok (.checkcast idx, 3)) (hp : pc + 3 = pc') (w1 : (Cond.classLink y.cls idx K).before a0 Z = true) (F : Ins Z h a K true)
    (kk : ∀ T', St w Z a0 EL y bytes maxL ret p l e R s m args below meth c T' h sf k n → Go w Z EL C N Q p e s below T' (mkF m pc' L (.ref a :: S))) : Go w Z EL C N Q p e s below T (mkF m pc L (.ref a :: S)) := by
  subst hp
  obtain ⟨⟨hx, hby, c1⟩, vm0, k0, locs, X0, eT, hS, hk, hZ, hown, N, E, hw, hC, hsf⟩ := X
  obtain ⟨T', X', e', st⟩ := castY (s := s.setVm vm0) X0 hx hZ hown w1 eT F (g := mkF m pc L (.ref a :: S)) rfl rfl (hb hby hd)
  obtain ⟨s₂, o, hs, r⟩ := kk T' ⟨⟨hx, hby, c1⟩, vm0, k0, locs, X', e', hS, hk, hZ, hown, N, E, hw, hC, hsf⟩
  exact ⟨s₂, o, st _ hs, r⟩
theorem o_instanceof_y (X : St w Z a0 EL y bytes maxL ret p l e R s m args below meth c T h sf k n) {pc pc' : Nat} {L : Array Slot} {S : List Value} {idx : Nat} {K : String} {a : Addr} (hd : decode bytes pc = .ok (.instanceof idx, 3)) (hp : pc + 3 = pc') (w1 : (Cond.classLink y.cls idx K).before a0 Z = true) (F : Ins Z h a K true)
    (kk : ∀ T', St w Z a0 EL y bytes maxL ret p l e R s m args below meth c T' h sf k n → Go w Z EL C N Q p e s below T' (mkF m pc' L (.int 1 :: S))) : Go w Z EL C N Q p e s below T (mkF m pc L (.ref a :: S)) := by
  subst hp
  obtain ⟨⟨hx, hby, c1⟩, vm0, k0, locs, X0, eT, hS, hk, hZ, hown, N, E, hw, hC, hsf⟩ := X
  obtain ⟨T', X', e', st⟩ := instY (s := s.setVm vm0) X0 hx hZ hown w1 eT F (g := mkF m pc L (.ref a :: S)) rfl rfl (hb hby hd)
  obtain ⟨s₂, o, hs, r⟩ := kk T' ⟨⟨hx, hby, c1⟩, vm0, k0, locs, X', e', hS, hk, hZ, hown, N, E, hw, hC, hsf⟩
  exact ⟨s₂, o, st _ hs, r⟩
theorem o_instanceof_n (X : St w Z a0 EL y bytes maxL ret p l e R s m args below meth c T h sf k n) {pc pc' : Nat} {L : Array Slot} {S : List Value} {idx : Nat} {K D : String} {a : Addr} (hd : decode bytes pc = .ok (.instanceof idx, 3)) (hp : pc + 3 = pc') (w1 : (Cond.classLink y.cls idx K).before a0 Z = true) (E0 : Exa Z h a D) (F : ∃ c t, Z.vm.findClass D = some c ∧ Z.vm.findClass K = some t ∧ Z.vm.assignable c t = false)
    (kk : ∀ T', St w Z a0 EL y bytes maxL ret p l e R s m args below meth c T' h sf k n → Go w Z EL C N Q p e s below T' (mkF m pc' L (.int 0 :: S))) : Go w Z EL C N Q p e s below T (mkF m pc L (.ref a :: S)) := by
  subst hp
  obtain ⟨⟨hx, hby, c1⟩, vm0, k0, locs, X0, eT, hS, hk, hZ, hown, N, E, hw, hC, hsf⟩ := X
  obtain ⟨T', X', e', st⟩ := instNo (s := s.setVm vm0) X0 hx hZ hown w1 eT E0 F (g := mkF m pc L (.ref a :: S)) rfl rfl (hb hby hd)
  obtain ⟨s₂, o, hs, r⟩ := kk T' ⟨⟨hx, hby, c1⟩, vm0, k0, locs, X', e', hS, hk, hZ, hown, N, E, hw, hC, hsf⟩
  exact ⟨s₂, o, st _ hs, r⟩
theorem o_instanceof_null (X : St w Z a0 EL y bytes maxL ret p l e R s m args below meth c T h sf k n) {pc pc' : Nat} {L : Array Slot} {S : List Value} {idx : Nat} (hd : decode bytes pc = .ok (.instanceof idx, 3)) (hp : pc + 3 = pc')
    (kk : Go w Z EL C N Q p e s below T (mkF m pc' L (.int 0 :: S))) : Go w Z EL C N Q p e s below T (mkF m pc L (.null :: S)) := by
  subst hp
  obtain ⟨⟨hx, hby, c1⟩, vm0, k0, locs, X0, -⟩ := X
  obtain ⟨s₂, o, hs, r⟩ := kk
  exact ⟨s₂, o, X0.instanceofNull hx (g := mkF m pc L (.null :: S)) rfl rfl (hb hby hd) _ hs, r⟩
theorem o_checkcast_null (X : St w Z a0 EL y bytes maxL ret p l e R s m args below meth c T h sf k n) {pc pc' : Nat} {L : Array Slot} {S : List Value} {idx : Nat} (hd : decode bytes pc = .ok (.checkcast idx, 3)) (hp : pc + 3 = pc')
    (kk : Go w Z EL C N Q p e s below T (mkF m pc' L (.null :: S))) : Go w Z EL C N Q p e s below T (mkF m pc L (.null :: S)) := by
  subst hp
  obtain ⟨⟨hx, hby, c1⟩, vm0, k0, locs, X0, -⟩ := X
  obtain ⟨s₂, o, hs, r⟩ := kk
  exact ⟨s₂, o, X0.checkcastNull hx (g := mkF m pc L (.null :: S)) rfl rfl (hb hby hd) _ hs, r⟩
theorem o_ldcI (X : St w Z a0 EL y bytes maxL ret p l e R s m args below meth c T h sf k n) {pc pc' : Nat} {L : Array Slot} {S : List Value} {idx : Nat} {v : Int32} (hd : decode bytes pc = .ok (.ldc idx, 2)) (hp : pc + 2 = pc') (w1 : (Cond.constant y.cls idx v).before a0 Z = true)
    (kk : Go w Z EL C N Q p e s below T (mkF m pc' L (.int v :: S))) : Go w Z EL C N Q p e s below T (mkF m pc L S) := by
  subst hp
  obtain ⟨⟨hx, hby, c1⟩, vm0, k0, locs, X0, eT, hS, hk, hZ, hown, -⟩ := X
  obtain ⟨s₂, o, hs, r⟩ := kk
  exact ⟨s₂, o, X0.ldcInt hx hown (mvT (s := s.setVm vm0) hZ w1) (g := mkF m pc L S) rfl (hb hby hd) _ hs, r⟩
/-- a String constant, its text not read -/
theorem o_ldcO (X : St w Z a0 EL y bytes maxL ret p l e R s m args below meth c T h sf k n) (hwt : w = true) {pc pc' : Nat} {L : Array Slot} {S : List Value} {idx nn : Nat} {text : String} (hd : decode bytes pc = .ok (.ldc idx, 2)) (hp : pc + 2 = pc') (w1 : (Cond.stringLink y.cls idx text).before a0 Z = true) (wS : ∀ a ∈ Bundle.stringAtoms, a.before a0 Z = true) (hn : 4 * text.toList.length ≤ nn) (hbig : nn ≤ 536870912) (hc : k + 2 ≤ R.cells) (hl : n + (nn + 4) ≤ R.slots)
    (kk : ∀ T' h' a, Ext h h' → St w Z a0 EL y bytes maxL ret p l e R s m args below meth c T' h' sf (k + 2) (n + (nn + 4)) → Go w Z EL C N Q p e s below T' (mkF m pc' L (.ref a :: S))) : Go w Z EL C N Q p e s below T (mkF m pc L S) := by
  subst hp
  obtain ⟨c1, vm0, k0, locs, X0, eT, hS, hk, hZ, hown, N, E, hw, hC, hsf⟩ := X
  obtain ⟨a, T', h', k1, X', e', E2, hS', hk', hZ', hown', hC', -, st⟩ := ldcOH X0 c1.1 hZ hown w1 wS eT hS hk c1.2.2.2.2.2.2 hC.1 (g := mkF m pc L S) rfl (hb c1.2.1 hd) hn hbig hc hl
  obtain ⟨s₂, o, hs, r⟩ := kk T' h' a E2 ⟨c1, T'.vm, k1, locs, X', e', hS', hk', hZ', hown', N, ⟨Nat.le_trans E.1 E2.1, fun a q r => E2.2 _ _ (E.2 _ _ r)⟩, (fun q => by rw [hwt] at q; cases q), hC.trans hC', fun x hx => ⟨Nat.lt_of_lt_of_le (hsf x hx).1 E2.1, hC'.safe (hsf x hx).1 (hsf x hx).2⟩⟩
  exact ⟨s₂, o, st _ hs, r⟩
/-- a String constant whose text is read -/
theorem o_ldcT (X : St w Z a0 EL y bytes maxL ret p l e R s m args below meth c T h sf k n) (hwt : w = true) {pc pc' : Nat} {L : Array Slot} {S : List Value} {idx nn : Nat} {text : String} (hd : decode bytes pc = .ok (.ldc idx, 2)) (hp : pc + 2 = pc') (w1 : (Cond.stringLink y.cls idx text).before a0 Z = true) (wS : ∀ a ∈ Bundle.stringAtoms, a.before a0 Z = true) (hmem : (y.cls, idx) ∈ EL) {vs : List Value} {z : Int32} (ht : (∀ c ∈ text.toList, c.toNat < 256) ∧ text.toList.map (fun c => Value.int (Jvm.Lit.byteI c.toNat.toUInt16)) = vs) (hz : ¬ z < 0) (hvl : z.toNatClampNeg = vs.length) (hn : 4 * text.toList.length ≤ nn) (hbig : nn ≤ 536870912) (hc : k + 2 ≤ R.cells) (hl : n + (nn + 4) ≤ R.slots)
    (kk : ∀ T' h' a b kA, Ext h h' → Exa Z h' a "java/lang/String" → Fld Z h' a "java/lang/String" "coder" "B" (.int 0) → Fld Z h' a "java/lang/String" "value" "[B" (.ref b) → Arv Z h' b kA .byte z vs (.int 0) → (∀ x ∈ sf, x ≠ a ∧ x ≠ b) → St w Z a0 EL y bytes maxL ret p l e R s m args below meth c T' h' sf (k + 2) (n + (nn + 4)) → Go w Z EL C N Q p e s below T' (mkF m pc' L (.ref a :: S))) : Go w Z EL C N Q p e s below T (mkF m pc L S) := by
  subst hp
  obtain ⟨c1, vm0, k0, locs, X0, eT, hS, hk, hZ, hown, N, E, hw, hC, hsf⟩ := X
  obtain ⟨a, T', h', k1, b, kA, X', e', E2, hS', hk', hZ', hown', hE, hF1, hF2, hA, -, -, hC', -, hne, st⟩ := ldcCH X0 c1.1 hZ hown w1 wS eT hS hk c1.2.2.2.2.2.2 hmem hC.1 ht hz hvl (g := mkF m pc L S) rfl (hb c1.2.1 hd) hn hbig hc hl
  have hsf' : ∀ x ∈ sf, x < h'.size ∧ Safe Z EL T'.vm h' x := fun x hx => ⟨Nat.lt_of_lt_of_le (hsf x hx).1 E2.1, hC'.safe (hsf x hx).1 (hsf x hx).2⟩
  obtain ⟨s₂, o, hs, r⟩ := kk T' h' a b kA E2 hE hF1 hF2 hA (fun x hx => hne x (hsf' x hx).2) ⟨c1, T'.vm, k1, locs, X', e', hS', hk', hZ', hown', N, ⟨Nat.le_trans E.1 E2.1, fun a q r => E2.2 _ _ (E.2 _ _ r)⟩, (fun q => by rw [hwt] at q; cases q), hC.trans hC', hsf'⟩
  exact ⟨s₂, o, st _ hs, r⟩
theorem o_initO (X : St w Z a0 EL y bytes maxL ret p l e R s m args below meth c T h sf k n) {pc pc' : Nat} {L : Array Slot} {S : List Value} {idx : Nat} {a : Addr} (hd : decode bytes pc = .ok (.invokespecial idx, 3)) (hp : pc + 3 = pc') (w1 : (Cond.methodLink y.cls idx Lib.objectInit).before a0 Z = true) (w2 : (Cond.instanceMethod Lib.objectInit).before a0 Z = true) (w3 : (Cond.code Lib.objectInit ⟨#[0xb1]⟩ 1 none).before a0 Z = true) (hsz : L.size = maxL) (hf : 1 ≤ R.frames) (hl : (S.map fun v => v.category).sum + 12 ≤ R.locals)
    (kk : ∀ T', St w Z a0 EL y bytes maxL ret p l e R s m args below meth c T' h sf k n → Go w Z EL C N Q p e s below T' (mkF m pc' L S)) : Go w Z EL C N Q p e s below T (mkF m pc L (.ref a :: S)) := by
  subst hp
  obtain ⟨c1, vm0, k0, locs, X0, eT, hS, hk, hZ, hown, N, E, hw, hC, hsf⟩ := X
  obtain ⟨T', X', e', st⟩ := initO (s := s.setVm vm0) X0 c1.1 hZ hown w1 w2 w3 eT (g := mkF m pc L (.ref a :: S)) rfl (hsz.trans c1.2.2.1.symm) rfl (hb c1.2.1 hd) hf (W := (S.map fun v => v.category).sum) (by show 2 * 0 + _ ≤ _; omega) hl
  obtain ⟨s₂, o, hs, r⟩ := kk T' ⟨c1, vm0, k0, locs, X', e', hS, hk, hZ, hown, N, E, hw, hC, hsf⟩
  exact ⟨s₂, o, st _ hs, r⟩
theorem EndAt.mono {o : Outcome} {t : State} {L : List Loc} {k1 n1 : Nat} (q : EndAt w s o t L k n) (hk : k ≤ k1) (hn : n ≤ n1) : EndAt w s o t L k1 n1 := by
  cases w
  · exact (show FrameEnd s o t L k1 n1 from ⟨(show FrameEnd s o t L k n from q).1, (show FrameEnd s o t L k n from q).2.1, (show FrameEnd s o t L k n from q).2.2.mono hk hn⟩)
  · obtain ⟨a, b, d, f⟩ := (show ReturnedEndW s o t L k n from q)
    exact (show ReturnedEndW s o t L k1 n1 from ⟨a, b, d, f.mono hk hn⟩)
/-- the way out, whatever is returned -/
theorem leaveG (X : St w Z a0 EL y bytes maxL ret p l e R s m args below meth c T h sf k n) {v : Option Value} {g : JFrame} (hv : ret = none → v = none) (hC : k ≤ C) (hN : n ≤ N) (q : ∀ P : Addr → Prop, (∀ x ∈ sf, P x) → Q v h P)
    (f : ∀ (vm0 : Vm) (locs : List Loc) (fs : List Frame), Stand p l e R (s.setVm vm0) m args below meth c T locs k n → p.tables.exec = Jvm.exec → meth.sig.returnType = ret → c.code = bytes → (∀ (f : JFrame) (acts : List Action), f.method = m → f.locked = none → f.entered = [] → (doReturn e (T.setTop f) acts v).1 = T.setFrames fs) → Steps p.tables e below (T.setTop g) (T.setFrames fs)) : Go w Z EL C N Q p e s below T g := by
  obtain ⟨⟨hx, hby, hml, hret, hlk, hnm, hEW⟩, vm0, k0, locs, X0, eT, hS, hk, hZ, hown, NN, E, hw, hCH, hsf⟩ := X
  have A := CHv.at X0 hZ hEW hCH.1
  have hq : Q v T.heap (Safe Z EL T.vm T.heap) := by
    rw [eT]; exact q _ fun x hx => A.safe (hsf x hx).1 (hsf x hx).2
  have hCe : CHr Z EL s.vm s.heap T.vm T.heap := by rw [eT]; exact hCH.trans A
  have hE : Ext Z.heap T.heap := by rw [eT]; exact E
  cases w with
  | true =>
    obtain ⟨fs, hr, hrun, hended, hW⟩ := X0.leaveW hS (by rw [eT]; exact hk) (v := v) (fun z => hv (hret.symm.trans z)) hlk
    exact ⟨_, _, f vm0 locs fs X0 hx hret hby hr, hrun, hended, v, locs, rfl, ⟨NN, hE, hCe, hq⟩, EndAt.mono (w := true) hW hC hN⟩
  | false =>
    have e0 := (hw rfl).1
    subst e0
    obtain ⟨fs, hr, hrun, hended, hW, hsame⟩ := Stand.leave (s := s) X0 (v := v) (fun z => hv (hret.symm.trans z)) hlk
    exact ⟨_, _, f s.vm locs fs X0 hx hret hby hr, hrun, hended, v, locs, rfl, ⟨NN, hE, hCe, hq⟩, EndAt.mono (w := false) (show FrameEnd s _ _ _ _ _ from ⟨⟨v, rfl⟩, hW, hsame⟩) hC hN⟩
theorem o_return (X : St w Z a0 EL y bytes maxL none p l e R s m args below meth c T h sf k n) {pc : Nat} {L : Array Slot} (hd : decode bytes pc = .ok (.return_, 1)) (hC : k ≤ C) (hN : n ≤ N) (q : ∀ P : Addr → Prop, (∀ x ∈ sf, P x) → Q none h P) : Go w Z EL C N Q p e s below T (mkF m pc L []) :=
  leaveG X (v := none) (fun _ => rfl) hC hN q fun vm0 locs fs X0 hx hret hby hr => X0.returnOut hx hret (hb hby hd) hr
theorem o_areturn (X : St w Z a0 EL y bytes maxL ret p l e R s m args below meth c T h sf k n) {pc : Nat} {L : Array Slot} {v : Value} {S : List Value} {t : FieldType} (hd : decode bytes pc = .ok (.areturn, 1)) (ht : ret = some t) (htr : t.isReference = true) (hv : v.isRef = true) (hC : k ≤ C) (hN : n ≤ N) (q : ∀ P : Addr → Prop, (∀ x ∈ sf, P x) → Q (some v) h P) : Go w Z EL C N Q p e s below T (mkF m pc L (v :: S)) :=
  leaveG X (v := some v) (fun z => by rw [ht] at z; cases z) hC hN q fun vm0 locs fs X0 hx hret hby hr => retOut X0 hx (hret.trans ht) (by cases t <;> cases v <;> first | rfl | (simp [FieldType.isReference] at htr; done) | (simp [Value.isRef] at hv; done)) (Or.inr (Or.inr (Or.inr (Or.inr ⟨rfl, htr, hv⟩)))) (hb hby hd) hr
theorem o_ireturn (X : St w Z a0 EL y bytes maxL ret p l e R s m args below meth c T h sf k n) {pc : Nat} {L : Array Slot} {x v : Int32} {S : List Value} {t : FieldType} (hd : decode bytes pc = .ok (.ireturn, 1)) (ht : ret = some t) (htr : t = .boolean ∨ t = .byte ∨ t = .char ∨ t = .short) (hv : nar t x = v) (hC : k ≤ C) (hN : n ≤ N) (q : ∀ P : Addr → Prop, (∀ x ∈ sf, P x) → Q (some (.int v)) h P) : Go w Z EL C N Q p e s below T (mkF m pc L (.int x :: S)) := by
  subst hv
  exact leaveG X (v := some (.int (nar t x))) (fun z => by rw [ht] at z; cases z) hC hN q fun vm0 locs fs X0 hx hret hby hr => retN X0 hx (hret.trans ht) htr (hb hby hd) hr
theorem o_ireturnI (X : St w Z a0 EL y bytes maxL ret p l e R s m args below meth c T h sf k n) {pc : Nat} {L : Array Slot} {x : Int32} {S : List Value} (hd : decode bytes pc = .ok (.ireturn, 1)) (ht : ret = some .int) (hC : k ≤ C) (hN : n ≤ N) (q : ∀ P : Addr → Prop, (∀ x ∈ sf, P x) → Q (some (.int x)) h P) : Go w Z EL C N Q p e s below T (mkF m pc L (.int x :: S)) :=
  leaveG X (v := some (.int x)) (fun z => by rw [ht] at z; cases z) hC hN q fun vm0 locs fs X0 hx hret hby hr => retOut X0 hx (hret.trans ht) rfl (Or.inl ⟨rfl, Or.inl rfl, x, rfl⟩) (hb hby hd) hr
theorem o_lreturn (X : St w Z a0 EL y bytes maxL ret p l e R s m args below meth c T h sf k n) {pc : Nat} {L : Array Slot} {x : Int64} {S : List Value} (hd : decode bytes pc = .ok (.lreturn, 1)) (ht : ret = some .long) (hC : k ≤ C) (hN : n ≤ N) (q : ∀ P : Addr → Prop, (∀ x ∈ sf, P x) → Q (some (.long x)) h P) : Go w Z EL C N Q p e s below T (mkF m pc L (.long x :: S)) :=
  leaveG X (v := some (.long x)) (fun z => by rw [ht] at z; cases z) hC hN q fun vm0 locs fs X0 hx hret hby hr => retOut X0 hx (hret.trans ht) rfl (Or.inr (Or.inl ⟨rfl, rfl, x, rfl⟩)) (hb hby hd) hr
/-- what a callee's contract says of the point behind the call -/
def PostC (Z : State) (EL : List (String × Nat)) (rm : Room) (Q' : Option Value → Heap → (Addr → Prop) → Prop) (vmB : Vm) (h : Heap) (A : Pt) (v : Option Value) (B : Pt) : Prop :=
  ∃ L, (Fr Z.heap.size L ∧ Ext Z.heap B.U.heap ∧ Q' v B.U.heap (Safe Z EL B.U.vm B.U.heap)) ∧ B.locs = A.locs ++ L ∧ B.cells = A.cells + rm.cells ∧ B.slots = A.slots + rm.slots ∧ CHr Z EL vmB h B.U.vm B.U.heap
def PreC (as : Array Value) (rm R : Room) (h : Heap) (A : Pt) (a : Array Value) : Prop := a = as ∧ A.U.heap = h ∧ A.cells + rm.cells ≤ R.cells ∧ A.slots + rm.slots ≤ R.slots
theorem Ct.backW {vm0 : Vm} {len W : Nat} (hC : Ct true Z a0 EL l y bytes maxL ret rm as h sf0 Q) (hext : Ext Z.heap h) (hZ : Z.Warmed39 vm0) (wc : (Cond.code y bytes maxL ret).before a0 Z = true) (wz : (Cond.initialized y.cls).before a0 Z = true) (hf : rm.frames + 1 ≤ R.frames) (hl : W + (maxL + 11) + rm.locals ≤ R.locals) (hEL : EW Z a0 EL) (H : CHv Z EL vm0 h) (hsf : ∀ x ∈ sf0, x < h.size ∧ Safe Z EL vm0 h x) :
    BackS l R p e below (s.setVm vm0) args y len W (PreC as rm R h) (fun A _ v B => PostC Z EL rm Q vm0 h A v B) :=
  BackS.of_freeW (bytes := bytes) (maxL := maxL) (ret := ret) (E := fun _ first o t L k n => k = rm.cells ∧ n = rm.slots ∧ (∃ v, o = .returned v ∧ Fr Z.heap.size L ∧ Ext Z.heap t.heap ∧ Q v t.heap (Safe Z EL t.vm t.heap)) ∧ CHr Z EL first.vm first.heap t.vm t.heap) (hC [] hEL hext) hf hl
    (fun m meth c A a Y hp => have hU : Z.Warmed39 A.U.vm := wtrans (s := s.setVm vm0) hZ Y.warmed
      ⟨by show (Cond.and _ .tt).before a A.U = true; rw [Cond.before_and, mv hU wc]; rfl, mv hU wc, mv hU wz, hp.2.2.1, hp.2.2.2⟩)
    (fun m meth c A a g mk Y hp => ⟨hp.1, wtrans (s := s.setVm vm0) hZ Y.warmed, hp.2.1, (CHv.at Y hZ hEL H).1, fun x hx => ⟨(hsf x hx).1, (CHv.at Y hZ hEL H).safe (hsf x hx).1 (hsf x hx).2⟩⟩) (fun _ _ _ _ _ _ _ _ _ => trivial)
    (fun _ _ _ _ ⟨v, L, h1, ⟨n1, n2, n3, n4⟩, h4⟩ => ⟨L, _, _, h4, rfl, rfl, ⟨v, h1, n1, n2, n4⟩, n3⟩)
    (fun m meth c A a g mk v t L k n Y hp _ _ ⟨e1, e2, ⟨v', e3, e4⟩, e5⟩ => by
      cases e3; subst e1 e2
      refine ⟨L, e4, rfl, rfl, rfl, (CHv.at Y hZ hEL H).trans ?_⟩
      rw [← hp.2.1]; exact e5)
theorem Ct.backP {len W : Nat} (hC : Ct false Z a0 EL l y bytes maxL ret rm as h sf0 Q) (hext : Ext Z.heap h) (hZ : Z.Warmed39 s.vm) (wc : (Cond.code y bytes maxL ret).before a0 Z = true) (wz : (Cond.initialized y.cls).before a0 Z = true) (hf : rm.frames + 1 ≤ R.frames) (hl : W + (maxL + 11) + rm.locals ≤ R.locals) (hEL : EW Z a0 EL) (H : CHv Z EL s.vm h) (hsf : ∀ x ∈ sf0, x < h.size ∧ Safe Z EL s.vm h x) :
    Back l R p e below s args y len W (PreC as rm R h) (fun A _ v B => PostC Z EL rm Q s.vm h A v B) :=
  Back.of_free (bytes := bytes) (maxL := maxL) (ret := ret) (E := fun _ first o t L k n => k = rm.cells ∧ n = rm.slots ∧ (∃ v, o = .returned v ∧ Fr Z.heap.size L ∧ Ext Z.heap t.heap ∧ Q v t.heap (Safe Z EL t.vm t.heap)) ∧ CHr Z EL first.vm first.heap t.vm t.heap) (hC [] hEL hext) hf hl
    (fun m meth c A a Y hp => have hU : Z.Warmed39 A.U.vm := wtrans hZ Y.warmed
      ⟨by show (Cond.and _ .tt).before a A.U = true; rw [Cond.before_and, mv hU wc]; rfl, mv hU wc, mv hU wz, hp.2.2.1, hp.2.2.2⟩)
    (fun m meth c A a g mk Y hp => ⟨hp.1, wtrans hZ Y.warmed, hp.2.1, (CHv.at (vm0 := s.vm) Y hZ hEL H).1, fun x hx => ⟨(hsf x hx).1, (CHv.at (vm0 := s.vm) Y hZ hEL H).safe (hsf x hx).1 (hsf x hx).2⟩⟩) (fun _ _ _ _ _ _ _ _ _ => trivial)
    (fun _ _ _ _ ⟨v, L, h1, ⟨n1, n2, n3, n4⟩, h4⟩ => ⟨L, _, _, h4, rfl, rfl, ⟨v, h1, n1, n2, n4⟩, n3⟩)
    (fun m meth c A a g mk v t L k n Y hp _ _ ⟨e1, e2, ⟨v', e3, e4⟩, e5⟩ => by
      cases e3; subst e1 e2
      refine ⟨L, e4, rfl, rfl, rfl, (CHv.at (vm0 := s.vm) Y hZ hEL H).trans ?_⟩
      rw [← hp.2.1]; exact e5)
/-- what is handed on behind a call -/
def After (w : Bool) (Z : State) (a0 : Array Value) (EL : List (String × Nat)) (y : MethodName) (bytes : ByteArray) (maxL : Nat) (ret : Option FieldType) (p : Program) (l : Launch) (e : Env) (R : Room) (s : State) (m : MethodId) (args : Array Value) (below : List Frame) (meth : Method) (c : Code) (sf : List Addr) (k n : Nat) (Q' : Option Value → Heap → (Addr → Prop) → Prop) (v : Option Value) (T' : State) : Prop :=
  ∃ (h' : Heap) (S : Addr → Prop), Q' v h' S ∧ ∀ xs : List Addr, (∀ x ∈ xs, x < h'.size ∧ S x) → St w Z a0 EL y bytes maxL ret p l e R s m args below meth c T' h' (xs ++ sf) k n
theorem After.wide {vm0 : Vm} {k0 : Nat} {locs : List Loc} {v : Option Value} {Q' : Option Value → Heap → (Addr → Prop) → Prop} {B : Pt} (c1 : p.tables.exec = Jvm.exec ∧ c.code = bytes ∧ c.maxLocals = maxL ∧ meth.sig.returnType = ret ∧ meth.locks = false ∧ meth.name = y.name ∧ EW Z a0 EL)
    (eT : T.heap = h) (hS : s.Since vm0 k0) (hk : k0 ≤ h.size) (hZ : Z.Warmed39 vm0) (hown : vm0.findClass y.cls = some m.cls) (N : Fr Z.heap.size locs) (hC : CHr Z EL s.vm s.heap vm0 h) (hsf : ∀ x ∈ sf, x < h.size ∧ Safe Z EL vm0 h x) {vm1 : Vm}
    (X' : Stand p l e R ((s.setVm vm0).setVm B.U.vm) m args below meth c B.U B.locs B.cells B.slots) (h2 : (s.setVm vm0).Since B.U.vm B.U.heap.size) (gr : T.heap.size ≤ B.U.heap.size) (post : PostC Z EL rm Q' vm0 h ⟨T.setVm vm1, locs, k, n⟩ v B) : After true Z a0 EL y bytes maxL ret p l e R s m args below meth c sf (k + rm.cells) (n + rm.slots) Q' v B.U := by
  obtain ⟨L, ⟨q1, q2, q3⟩, q4, q5, q6, q7⟩ := post
  obtain ⟨Y, hS2, hZ2, hown2⟩ := rebS hS hk X' h2 (eT ▸ gr) hZ hown
  refine ⟨_, _, q3, fun xs hxs => ⟨c1, B.U.vm, B.U.heap.size, B.locs, ?_, rfl, hS2, Nat.le_refl _, hZ2, hown2, ?_, q2, fun q => Bool.noConfusion q, hC.trans q7, fun x hx => ?_⟩⟩
  · rw [q5, q6] at Y; exact Y
  · rw [q4]; exact N.app q1
  · rcases List.mem_append.mp hx with hx | hx
    · exact hxs x hx
    · exact ⟨Nat.lt_of_lt_of_le (hsf x hx).1 q7.2.1, q7.safe (hsf x hx).1 (hsf x hx).2⟩
theorem After.plain {locs : List Loc} {k0 : Nat} {v : Option Value} {Q' : Option Value → Heap → (Addr → Prop) → Prop} {B : Pt} (hE0 : EL = []) (c1 : p.tables.exec = Jvm.exec ∧ c.code = bytes ∧ c.maxLocals = maxL ∧ meth.sig.returnType = ret ∧ meth.locks = false ∧ meth.name = y.name ∧ EW Z a0 EL)
    (hS : s.Since s.vm k0) (hk : k0 ≤ h.size) (hZ : Z.Warmed39 s.vm) (hown : s.vm.findClass y.cls = some m.cls) (N : Fr Z.heap.size locs) (hC : CHr Z EL s.vm s.heap s.vm h) (hsf : ∀ x ∈ sf, x < h.size ∧ Safe Z EL s.vm h x) {vm1 : Vm}
    (X' : Stand p l e R s m args below meth c B.U B.locs B.cells B.slots) (post : PostC Z EL rm Q' s.vm h ⟨T.setVm vm1, locs, k, n⟩ v B) : After false Z a0 EL y bytes maxL ret p l e R s m args below meth c sf (k + rm.cells) (n + rm.slots) Q' v B.U := by
  obtain ⟨L, ⟨q1, q2, q3⟩, q4, q5, q6, q7⟩ := post
  have sz : h.size ≤ B.U.heap.size := q7.2.1
  subst hE0
  refine ⟨_, _, q3, fun xs hxs => ⟨c1, s.vm, k0, B.locs, ?_, rfl, hS, Nat.le_trans hk sz, hZ, hown, ?_, q2, fun q => ⟨rfl, rfl⟩, ⟨fun p hp => (nomatch hp), Nat.le_trans hC.2.1 sz, fun y ⟨p, hp, _⟩ => (nomatch hp)⟩, fun x hx => ⟨?_, fun ⟨p, hp, _⟩ => (nomatch hp)⟩⟩⟩
  · rw [q5, q6] at X'; exact X'
  · rw [q4]; exact N.app q1
  · rcases List.mem_append.mp hx with hx | hx
    · exact (hxs x hx).1
    · exact Nat.lt_of_lt_of_le (hsf x hx).1 sz
theorem o_static (X : St w Z a0 EL y bytes maxL ret p l e R s m args below meth c T h sf k n) {pc pc' : Nat} {L : Array Slot} {rest : List Value} {idx : Nat} {z : MethodName} {bz : ByteArray} {mz : Nat} {rz : Option FieldType} {Q' : Option Value → Heap → (Addr → Prop) → Prop} (hd : decode bytes pc = .ok (.invokestatic idx, 3)) (hp : pc + 3 = pc')
    (w1 : (Cond.methodLink y.cls idx z).before a0 Z = true) (w2 : (Cond.static z).before a0 Z = true) (w3 : (Cond.initialized z.cls).before a0 Z = true) (w4 : (Cond.code z bz mz rz).before a0 Z = true) (hy : z.cls ≠ "java/lang/invoke/MethodHandle" ∧ z.cls ≠ "java/lang/invoke/VarHandle")
    (hC' : Ct w Z a0 EL l z bz mz rz rm as h sf0 Q') (hok : ∀ x ∈ sf0, x < h.size ∧ Ok Z EL h sf x) (argsL : List Value) (hargs : argsL.toArray = as) {S0 : List Value} (hst : S0 = argsL.reverse ++ rest) {ps : List FieldType} {rr : Option FieldType} (hpd : parseMethodDescriptor z.desc = some ⟨ps, rr⟩) (hlen : argsL.length = ps.length) (hsz : L.size = maxL)
    (hf : rm.frames + 1 ≤ R.frames) (hl : (rest.map fun v => v.category).sum + (mz + 11) + rm.locals ≤ R.locals) (hc : k + rm.cells ≤ R.cells) (hs : n + rm.slots ≤ R.slots)
    (kk : ∀ (v : Option Value) (T' : State), After w Z a0 EL y bytes maxL ret p l e R s m args below meth c sf (k + rm.cells) (n + rm.slots) Q' v T' → Go w Z EL C N Q p e s below T' (mkF m pc' L (v.toList ++ rest))) : Go w Z EL C N Q p e s below T (mkF m pc L S0) := by
  subst hp hargs hst
  obtain ⟨c1, vm0, k0, locs, X0, eT, hS, hk, hZ, hown, NN, E, hw, hC, hsf⟩ := X
  have hso : ∀ x ∈ sf0, x < h.size ∧ Safe Z EL vm0 h x := fun x hx => ⟨(hok x hx).1, (hok x hx).2.safe hZ.alike hsf⟩
  cases w with
  | true =>
    obtain ⟨v, vm1, B, -, X', h2, gr, post, st⟩ := callSS (s := s.setVm vm0) X0 c1.1 hown (mvT (s := s.setVm vm0) hZ w1) (mvT (s := s.setVm vm0) hZ w2) (mvT (s := s.setVm vm0) hZ w3) (mvT (s := s.setVm vm0) hZ w4) hy (hC'.backW E hZ w4 w3 hf hl c1.2.2.2.2.2.2 hC.1 hso) (g := mkF m pc L (argsL.reverse ++ rest)) rfl (hsz.trans c1.2.2.1.symm) (lenOf hpd hlen) rfl (by show 2 * 0 + _ ≤ _; omega) (hb c1.2.1 hd) (fun _ _ => ⟨rfl, eT, hc, hs⟩)
    obtain ⟨s₂, o, hs, r⟩ := kk v B.U (After.wide c1 eT hS hk hZ hown NN hC hsf X' h2 gr post)
    exact ⟨s₂, o, st.trans hs, r⟩
  | false =>
    obtain ⟨e0, hE0⟩ := hw rfl
    subst e0
    obtain ⟨v, vm1, B, -, X', post, st⟩ := Jvm.LawKit.callS (s := s) X0 c1.1 hown (mvT hZ w1) (mvT hZ w2) (mvT hZ w3) (mvT hZ w4) hy (hC'.backP E hZ w4 w3 hf hl c1.2.2.2.2.2.2 hC.1 hso) (g := mkF m pc L (argsL.reverse ++ rest)) rfl (hsz.trans c1.2.2.1.symm) (lenOf hpd hlen) rfl (by show 2 * 0 + _ ≤ _; omega) (hb c1.2.1 hd) (fun _ _ => ⟨rfl, eT, hc, hs⟩)
    obtain ⟨s₂, o, hs, r⟩ := kk v B.U (After.plain (T := T) hE0 c1 hS hk hZ hown NN hC hsf X' post)
    exact ⟨s₂, o, st _ hs, r⟩
theorem o_special (X : St w Z a0 EL y bytes maxL ret p l e R s m args below meth c T h sf k n) {pc pc' : Nat} {L : Array Slot} {rest : List Value} {idx : Nat} {z : MethodName} {bz : ByteArray} {mz : Nat} {Q' : Option Value → Heap → (Addr → Prop) → Prop} {a : Addr} (hd : decode bytes pc = .ok (.invokespecial idx, 3)) (hp : pc + 3 = pc') (hz : z.name = "<init>")
    (w1 : (Cond.methodLink y.cls idx z).before a0 Z = true) (w2 : (Cond.instanceMethod z).before a0 Z = true) (w3 : (Cond.initialized z.cls).before a0 Z = true) (w4 : (Cond.code z bz mz none).before a0 Z = true) (hy : z.cls ≠ "java/lang/invoke/MethodHandle" ∧ z.cls ≠ "java/lang/invoke/VarHandle")
    (hC' : Ct w Z a0 EL l z bz mz none rm as h sf0 Q') (hok : ∀ x ∈ sf0, x < h.size ∧ Ok Z EL h sf x) (argsL : List Value) (hargs : (.ref a :: argsL).toArray = as) {S0 : List Value} (hst : S0 = argsL.reverse ++ .ref a :: rest) {ps : List FieldType} {rr : Option FieldType} (hpd : parseMethodDescriptor z.desc = some ⟨ps, rr⟩) (hlen : argsL.length = ps.length) (hsz : L.size = maxL)
    (hf : rm.frames + 1 ≤ R.frames) (hl : (rest.map fun v => v.category).sum + (mz + 11) + rm.locals ≤ R.locals) (hc : k + rm.cells ≤ R.cells) (hs : n + rm.slots ≤ R.slots)
    (kk : ∀ (v : Option Value) (T' : State), After w Z a0 EL y bytes maxL ret p l e R s m args below meth c sf (k + rm.cells) (n + rm.slots) Q' v T' → Go w Z EL C N Q p e s below T' (mkF m pc' L (v.toList ++ rest))) : Go w Z EL C N Q p e s below T (mkF m pc L S0) := by
  subst hp hargs hst
  obtain ⟨c1, vm0, k0, locs, X0, eT, hS, hk, hZ, hown, NN, E, hw, hC, hsf⟩ := X
  have hso : ∀ x ∈ sf0, x < h.size ∧ Safe Z EL vm0 h x := fun x hx => ⟨(hok x hx).1, (hok x hx).2.safe hZ.alike hsf⟩
  cases w with
  | true =>
    obtain ⟨v, vm1, B, -, X', h2, gr, post, st⟩ := Stand.specialBackS (s := s.setVm vm0) X0 c1.1 hz hown (mvT (s := s.setVm vm0) hZ w1) (mvT (s := s.setVm vm0) hZ w2) (mvT (s := s.setVm vm0) hZ w4) hy (hC'.backW E hZ w4 w3 hf hl c1.2.2.2.2.2.2 hC.1 hso) (g := mkF m pc L (argsL.reverse ++ .ref a :: rest)) rfl (hsz.trans c1.2.2.1.symm) (Steps.refl _) (lenOf hpd hlen) rfl (by show 2 * 0 + _ ≤ _; omega) (hb c1.2.1 hd) (fun _ _ => ⟨rfl, eT, hc, hs⟩)
    obtain ⟨s₂, o, hs, r⟩ := kk v B.U (After.wide c1 eT hS hk hZ hown NN hC hsf X' h2 gr post)
    exact ⟨s₂, o, st.trans hs, r⟩
  | false =>
    obtain ⟨e0, hE0⟩ := hw rfl
    subst e0
    obtain ⟨v, vm1, B, -, X', post, st⟩ := Stand.specialBack (s := s) X0 c1.1 hz hown (mvT hZ w1) (mvT hZ w2) (mvT hZ w4) hy (hC'.backP E hZ w4 w3 hf hl c1.2.2.2.2.2.2 hC.1 hso) (g := mkF m pc L (argsL.reverse ++ .ref a :: rest)) rfl (hsz.trans c1.2.2.1.symm) (Steps.refl _) (lenOf hpd hlen) rfl (by show 2 * 0 + _ ≤ _; omega) (hb c1.2.1 hd) (fun _ _ => ⟨rfl, eT, hc, hs⟩)
    obtain ⟨s₂, o, hs, r⟩ := kk v B.U (After.plain (T := T) hE0 c1 hS hk hZ hown NN hC hsf X' post)
    exact ⟨s₂, o, st.trans hs, r⟩
theorem o_virtual (X : St w Z a0 EL y bytes maxL ret p l e R s m args below meth c T h sf k n) {pc pc' : Nat} {L : Array Slot} {rest : List Value} {idx : Nat} {u z : MethodName} {K : String} {bz : ByteArray} {mz : Nat} {rz : Option FieldType} {Q' : Option Value → Heap → (Addr → Prop) → Prop} {a : Addr} (hd : decode bytes pc = .ok (.invokevirtual idx, 3)) (hp : pc + 3 = pc')
    (w1 : (Cond.methodLink y.cls idx u).before a0 Z = true) (w2 : (Cond.declares u).before a0 Z = true) (nf : ∀ s' : State, Z.Warmed39 s'.vm → NotFace s' u) (w5 : (Cond.selects K u z).before a0 Z = true) (w6 : (Cond.instanceMethod z).before a0 Z = true) (w3 : (Cond.initialized z.cls).before a0 Z = true) (w4 : (Cond.code z bz mz rz).before a0 Z = true) (hy : u.cls ≠ "java/lang/invoke/MethodHandle" ∧ u.cls ≠ "java/lang/invoke/VarHandle") (E0 : Exa Z h a K)
    (hC' : Ct w Z a0 EL l z bz mz rz rm as h sf0 Q') (hok : ∀ x ∈ sf0, x < h.size ∧ Ok Z EL h sf x) (argsL : List Value) (hargs : (.ref a :: argsL).toArray = as) {S0 : List Value} (hst : S0 = argsL.reverse ++ .ref a :: rest) {ps : List FieldType} {rr : Option FieldType} (hpd : parseMethodDescriptor u.desc = some ⟨ps, rr⟩) (hlen : argsL.length = ps.length) (hsz : L.size = maxL)
    (hf : rm.frames + 1 ≤ R.frames) (hl : (rest.map fun v => v.category).sum + (mz + 11) + rm.locals ≤ R.locals) (hc : k + rm.cells ≤ R.cells) (hs : n + rm.slots ≤ R.slots)
    (kk : ∀ (v : Option Value) (T' : State), After w Z a0 EL y bytes maxL ret p l e R s m args below meth c sf (k + rm.cells) (n + rm.slots) Q' v T' → Go w Z EL C N Q p e s below T' (mkF m pc' L (v.toList ++ rest))) : Go w Z EL C N Q p e s below T (mkF m pc L S0) := by
  subst hp hargs hst
  obtain ⟨c1, vm0, k0, locs, X0, eT, hS, hk, hZ, hown, NN, E, hw, hC, hsf⟩ := X
  have hso : ∀ x ∈ sf0, x < h.size ∧ Safe Z EL vm0 h x := fun x hx => ⟨(hok x hx).1, (hok x hx).2.safe hZ.alike hsf⟩
  obtain ⟨cq, kq, qa, qb, qc⟩ := isOf (s := s.setVm vm0) hZ eT E0
  cases w with
  | true =>
    obtain ⟨v, vm1, B, -, X', h2, gr, post, st⟩ := Stand.virtualBackS (s := s.setVm vm0) X0 c1.1 hown (mvT (s := s.setVm vm0) hZ w1) (mvT (s := s.setVm vm0) hZ w2) (nf _ hZ) (mvT (s := s.setVm vm0) hZ w5) (mvT (s := s.setVm vm0) hZ w6) hy (hC'.backW E hZ w4 w3 hf hl c1.2.2.2.2.2.2 hC.1 hso) qa qc (g := mkF m pc L (argsL.reverse ++ .ref a :: rest)) rfl (hsz.trans c1.2.2.1.symm) (Steps.refl _) (lenOf hpd hlen) rfl (by show 2 * 0 + _ ≤ _; omega) (hb c1.2.1 hd) (fun _ _ => ⟨rfl, eT, hc, hs⟩)
    obtain ⟨s₂, o, hs, r⟩ := kk v B.U (After.wide c1 eT hS hk hZ hown NN hC hsf X' h2 gr post)
    exact ⟨s₂, o, st.trans hs, r⟩
  | false =>
    obtain ⟨e0, hE0⟩ := hw rfl
    subst e0
    obtain ⟨v, vm1, B, -, X', post, st⟩ := Stand.virtualBack (s := s) X0 c1.1 hown (mvT hZ w1) (mvT hZ w2) (nf _ hZ) (mvT hZ w5) (mvT hZ w6) hy (hC'.backP E hZ w4 w3 hf hl c1.2.2.2.2.2.2 hC.1 hso) qa qc (g := mkF m pc L (argsL.reverse ++ .ref a :: rest)) rfl (hsz.trans c1.2.2.1.symm) (Steps.refl _) (lenOf hpd hlen) rfl (by show 2 * 0 + _ ≤ _; omega) (hb c1.2.1 hd) (fun _ _ => ⟨rfl, eT, hc, hs⟩)
    obtain ⟨s₂, o, hs, r⟩ := kk v B.U (After.plain (T := T) hE0 c1 hS hk hZ hown NN hC hsf X' post)
    exact ⟨s₂, o, st.trans hs, r⟩
theorem okArr {a : Addr} {kA : ClassId} {ty : FieldType} {z : Int32} {vs : List Value} {d : Value} (A : Arv Z h a kA ty z vs d) (q : ty ≠ .byte) : ∃ (cl : Cell) (ty : FieldType), Arr Z h a cl ty ∧ ty ≠ .byte := by
  obtain ⟨cl, Ar, -⟩ := A
  exact ⟨cl, ty, Ar, q⟩
theorem St.mono (X : St w Z a0 EL y bytes maxL ret p l e R s m args below meth c T h sf k n) {k1 n1 : Nat} (hk1 : k ≤ k1) (hn1 : n ≤ n1) : St w Z a0 EL y bytes maxL ret p l e R s m args below meth c T h sf k1 n1 := by
  obtain ⟨c0, vm0, k0, locs, X0, r⟩ := X
  exact ⟨c0, vm0, k0, locs, ⟨X0.admits, X0.cas, X0.clock, X0.frames, X0.room, X0.hears, X0.method, X0.code, X0.here, X0.tail, X0.warmed, X0.limits, X0.bytes, X0.same.mono hk1 hn1⟩, r⟩
theorem o_pop2L (X : St w Z a0 EL y bytes maxL ret p l e R s m args below meth c T h sf k n) {pc pc' : Nat} {L : Array Slot} {S : List Value} {v : Int64} (hd : decode bytes pc = .ok (.pop2, 1)) (hp : pc + 1 = pc') (kk : Go w Z EL C N Q p e s below T (mkF m pc' L S)) : Go w Z EL C N Q p e s below T (mkF m pc L (.long v :: S)) := by
  subst hp
  exact ps X (fun H hx hby _ q => by
    have hd' := hb hby hd
    show Steps p.tables e below (T.setTop { method := m, pc := pc, locals := L, stack := .long v :: S, locked := none }) _
    jvm_step H [H.top, hx, hd', Value.category]
    exact q) kk

theorem St.kept {vm0 : Vm} {k0 : Nat} {locs : List Loc} {T' : State} {h' : Heap} {b : Addr} {k1 n1 : Nat} (c1 : p.tables.exec = Jvm.exec ∧ c.code = bytes ∧ c.maxLocals = maxL ∧ meth.sig.returnType = ret ∧ meth.locks = false ∧ meth.name = y.name ∧ EW Z a0 EL)
    (X' : Stand p l e R (s.setVm vm0) m args below meth c T' locs k1 n1) (e' : T'.heap = h') (hS : s.Since vm0 k0) (hk : k0 ≤ h.size) (hZ : Z.Warmed39 vm0) (hown : vm0.findClass y.cls = some m.cls) (N : Fr Z.heap.size locs) (E : Ext Z.heap h) (hw : w = false → vm0 = s.vm ∧ EL = []) (hC : CHr Z EL s.vm s.heap vm0 h) (hsf : ∀ x ∈ sf, x < h.size ∧ Safe Z EL vm0 h x)
    (K : Keep h h' [b]) (ha : Z.heap.size ≤ b) (ok : Ok Z EL h sf b) : St w Z a0 EL y bytes maxL ret p l e R s m args below meth c T' h' sf k1 n1 := by
  have S := ok.safe hZ.alike hsf
  have hs : ∀ x ∈ [b], Safe Z EL vm0 h x := fun x hx => by rw [List.mem_singleton.mp hx]; exact S
  refine ⟨c1, vm0, k0, locs, X', e', hS, Nat.le_trans hk K.1, hZ, hown, N, ⟨Nat.le_trans E.1 K.1, fun a q r => K.2.1 _ _ (E.2 _ _ r) fun hm => ?_⟩, hw, hC.trans (CHr.keep K hs hC.1), fun x hx => ⟨Nat.lt_of_lt_of_le (hsf x hx).1 K.1, Safe.keep K hs hC.1 (hsf x hx).2⟩⟩
  have := List.mem_singleton.mp hm
  subst this
  exact absurd (Array.getElem?_eq_some_iff.mp r).1 (Nat.not_lt.mpr ha)
theorem o_arraycopy (X : St w Z a0 EL y bytes maxL ret p l e R s m args below meth c T h sf k n) {pc pc' : Nat} {L : Array Slot} {S : List Value} {idx : Nat} {a b : Addr} {kA kB : ClassId} {ty : FieldType} {z z' sp dp nn : Int32} {vs vd us : List Value} {dv dd : Value} (hd : decode bytes pc = .ok (.invokestatic idx, 3)) (hp : pc + 3 = pc')
    (w1 : (Cond.methodLink y.cls idx Jvm.Stand.acN).before a0 Z = true) (w2 : (Cond.native Jvm.Stand.acN).before a0 Z = true) (w3 : (Cond.static Jvm.Stand.acN).before a0 Z = true) (w4 : (Cond.initialized "java/lang/System").before a0 Z = true) (A : Arv Z h a kA ty z vs dv) (B : Arv Z h b kB ty z' vd dd) (hty : refKind ty = false)
    (h1 : ¬ sp < 0) (h2 : ¬ dp < 0) (h3 : ¬ nn < 0) (h4 : sp.toNatClampNeg + nn.toNatClampNeg ≤ z.toNatClampNeg) (h5 : dp.toNatClampNeg + nn.toNatClampNeg ≤ z'.toNatClampNeg) (hus : us = (List.range nn.toNatClampNeg).map fun i => vs.getD (sp.toNatClampNeg + i) dv) (hl0 : dp.toNatClampNeg + nn.toNatClampNeg ≤ vd.length) (ge : Z.heap.size ≤ b) (ok : Ok Z EL h sf b) (hsz : L.size = maxL)
    (hf : 1 ≤ R.frames) (hlo : (S.map fun v => v.category).sum + 18 ≤ R.locals)
    (kk : ∀ T' h', Keep h h' [b] → Arv Z h' b kB ty z' (vd.take dp.toNatClampNeg ++ us ++ vd.drop (dp.toNatClampNeg + nn.toNatClampNeg)) dd → St w Z a0 EL y bytes maxL ret p l e R s m args below meth c T' h' sf k n → Go w Z EL C N Q p e s below T' (mkF m pc' L S)) : Go w Z EL C N Q p e s below T (mkF m pc L (.int nn :: .int dp :: .ref b :: .int sp :: .ref a :: S)) := by
  subst hp
  obtain ⟨c1, vm0, k0, locs, X0, eT, hS, hk, hZ, hown, NN, E, hw, hC, hsf⟩ := X
  obtain ⟨T', h', L2, X', e', N2, K2, A2, st⟩ := cpA (s := s.setVm vm0) X0 c1.1 hZ hown w1 w2 w3 w4 eT A B (Or.inl ⟨rfl, hty⟩) h1 h2 h3 h4 h5 hus hl0 NN ge (g := mkF m pc L (.int nn :: .int dp :: .ref b :: .int sp :: .ref a :: S)) rfl (hsz.trans c1.2.2.1.symm) rfl (hb c1.2.1 hd) hf (W := (S.map fun v => v.category).sum) (by show 2 * 0 + _ ≤ _; omega) hlo
  obtain ⟨s₂, o, hs, r⟩ := kk T' h' K2 A2 (St.kept c1 X' e' hS hk hZ hown N2 E hw hC hsf K2 ge ok)
  exact ⟨s₂, o, st _ hs, r⟩
theorem o_clone (X : St w Z a0 EL y bytes maxL ret p l e R s m args below meth c T h sf k n) {pc pc' : Nat} {L : Array Slot} {S : List Value} {idx : Nat} {a : Addr} {kA : ClassId} {ty : FieldType} {z : Int32} {vs : List Value} {dv : Value} {ad : String} (hd : decode bytes pc = .ok (.invokevirtual idx, 3)) (hp : pc + 3 = pc')
    (w1 : (Cond.methodLink y.cls idx ⟨ad, "clone", "()Ljava/lang/Object;"⟩).before a0 Z = true) (w2 : (Cond.sameMethod ad "java/lang/Object" "clone" "()Ljava/lang/Object;").before a0 Z = true) (w3 : (Cond.native ⟨"java/lang/Object", "clone", "()Ljava/lang/Object;"⟩).before a0 Z = true) (w4 : (Cond.instanceMethod ⟨"java/lang/Object", "clone", "()Ljava/lang/Object;"⟩).before a0 Z = true)
    (w5 : (Cond.selects ad ⟨ad, "clone", "()Ljava/lang/Object;"⟩ ⟨"java/lang/Object", "clone", "()Ljava/lang/Object;"⟩).before a0 Z = true) (w6 : (Cond.castable ad "java/lang/Cloneable").before a0 Z = true) (A : Arv Z h a kA ty z vs dv) (D : Exa Z h a ad) (hsz : L.size = maxL) {cap : Nat} (hcap : z.toNatClampNeg ≤ cap)
    (hf : 1 ≤ R.frames) (hlo : (S.map fun v => v.category).sum + 14 ≤ R.locals) (hc : k + 1 ≤ R.cells) (hl : n + cap ≤ R.slots)
    (kk : ∀ T' h' b, b = h.size → Z.heap.size ≤ b → Ext h h' → Arv Z h' b kA ty z vs dv → Exa Z h' b ad → St w Z a0 EL y bytes maxL ret p l e R s m args below meth c T' h' (b :: sf) (k + 1) (n + cap) → Go w Z EL C N Q p e s below T' (mkF m pc' L (.ref b :: S))) : Go w Z EL C N Q p e s below T (mkF m pc L (.ref a :: S)) := by
  subst hp
  obtain ⟨c1, vm0, k0, locs, X0, eT, hS, hk, hZ, hown, NN, E, hw, hC, hsf⟩ := X
  obtain ⟨T', h', X', e', E2, A2, D2, st⟩ := cloneH (s := s.setVm vm0) X0 c1.1 hZ hown w1 w2 w3 w4 w5 w6 eT A.arh D (g := mkF m pc L (.ref a :: S)) rfl (hsz.trans c1.2.2.1.symm) rfl (hb c1.2.1 hd) hf (W := (S.map fun v => v.category).sum) (by show 2 * 0 + _ ≤ _; omega) hlo hcap hc hl
  obtain ⟨s₂, o, hs, r⟩ := kk T' h' h.size rfl E.1 E2 A2 D2 (St.made c1 X' e' hS hk hZ hown NN E hw hC hsf E2 D2.lt)
  exact ⟨s₂, o, st _ hs, r⟩
theorem o_super (X : St true Z a0 EL y bytes maxL ret p l e R s m args below meth c T h sf k n) {pc pc' : Nat} {L : Array Slot} {rest : List Value} {idx : Nat} {K : String} {z : MethodName} {bz : ByteArray} {mz : Nat} {rz : Option FieldType} {Q' : Option Value → Heap → (Addr → Prop) → Prop} {a : Addr} (hd : decode bytes pc = .ok (.invokespecial idx, 3)) (hp : pc + 3 = pc') (hz : z.name ≠ "<init>")
    (w1 : (Cond.methodLink y.cls idx z).before a0 Z = true) (w2 : (Cond.sameMethod z.cls z.cls z.name z.desc).before a0 Z = true) (w6 : (Cond.instanceMethod z).before a0 Z = true) (w5 : (Cond.superclass y.cls z.cls).before a0 Z = true) (w3 : (Cond.initialized z.cls).before a0 Z = true) (w4 : (Cond.code z bz mz rz).before a0 Z = true) (F : Ins Z h a K true)
    (hC' : Ct true Z a0 EL l z bz mz rz rm as h sf0 Q') (hok : ∀ x ∈ sf0, x < h.size ∧ Ok Z EL h sf x) (argsL : List Value) (hargs : (.ref a :: argsL).toArray = as) {S0 : List Value} (hst : S0 = argsL.reverse ++ .ref a :: rest) {ps : List FieldType} {rr : Option FieldType} (hpd : parseMethodDescriptor z.desc = some ⟨ps, rr⟩) (hlen : argsL.length = ps.length) (hsz : L.size = maxL)
    (hf : rm.frames + 1 ≤ R.frames) (hl : (rest.map fun v => v.category).sum + (mz + 11) + rm.locals ≤ R.locals) (hc : k + rm.cells ≤ R.cells) (hs : n + rm.slots ≤ R.slots)
    (kk : ∀ (v : Option Value) (T' : State), After true Z a0 EL y bytes maxL ret p l e R s m args below meth c sf (k + rm.cells) (n + rm.slots) Q' v T' → Go true Z EL C N Q p e s below T' (mkF m pc' L (v.toList ++ rest))) : Go true Z EL C N Q p e s below T (mkF m pc L S0) := by
  subst hp hargs hst
  obtain ⟨c1, vm0, k0, locs, X0, eT, hS, hk, hZ, hown, NN, E, hw, hC, hsf⟩ := X
  have hso : ∀ x ∈ sf0, x < h.size ∧ Safe Z EL vm0 h x := fun x hx => ⟨(hok x hx).1, (hok x hx).2.safe hZ.alike hsf⟩
  obtain ⟨v, vm1, B, -, X', h2, gr, post, st⟩ := superBackS (s := s.setVm vm0) X0 c1.1 hZ hown w1 w2 w6 w5 hz (hC'.backW E hZ w4 w3 hf hl c1.2.2.2.2.2.2 hC.1 hso) eT F (g := mkF m pc L (argsL.reverse ++ .ref a :: rest)) rfl (hsz.trans c1.2.2.1.symm) w4 (lenOf hpd hlen) rfl (by show 2 * 0 + _ ≤ _; omega) (hb c1.2.1 hd) (fun _ _ => ⟨rfl, eT, hc, hs⟩)
  obtain ⟨s₂, o, hs, r⟩ := kk v B.U (After.wide c1 eT hS hk hZ hown NN hC hsf X' h2 gr post)
  exact ⟨s₂, o, st.trans hs, r⟩
end
end W
end Jvm.Pilot.@@N@@
namespace Jvm.Pilot.@@N@@
open Jvm Jvm.ClassFile Sem Op Lib Jvm.Free Jvm.Stand Jvm.LawKit Jvm.RoadKit Bundle Jvm.Pilot.@@N@@.Jvm.D
theorem o32_toInt (n : Nat) (h : n < 2147483648) : (Int32.ofNat n).toInt = n := by
  rw [Int32.toInt_ofNat_of_lt]; simpa using h
theorem o32_lt {i n : Nat} (h : i < n) (hn : n < 2147483648) : ¬ (Int32.ofNat i) < 0 ∧ Int32.ofNat i < Int32.ofNat n := by
  have e1 := o32_toInt i (by omega)
  have e2 := o32_toInt n hn
  refine ⟨?_, ?_⟩
  · rw [Int32.lt_iff_toInt_lt, e1]; show ¬ ((i : Int) < 0); omega
  · rw [Int32.lt_iff_toInt_lt, e1, e2]; omega
theorem o32_clamp {i : Nat} (h : i < 2147483648) : (Int32.ofNat i).toNatClampNeg = i := by
  have e1 := o32_toInt i h
  show (Int32.ofNat i).toInt.toNat = i
  rw [e1]; rfl
theorem o32_succ (i : Nat) : Int32.ofNat i + 1 = Int32.ofNat (i + 1) := by
  rw [Int32.ofNat_add]; rfl
theorem o32_nn {i : Nat} (hn : i < 2147483648) : ¬ Int32.ofNat i < 0 := by
  rw [Int32.lt_iff_toInt_lt, o32_toInt i hn]; show ¬ ((i : Int) < 0); omega
theorem o32_ge {i n : Nat} (h : n ≤ i) (hn : i < 2147483648) : ¬ Int32.ofNat i < Int32.ofNat n := by
  rw [Int32.lt_iff_toInt_lt, o32_toInt i hn, o32_toInt n (by omega)]; omega
theorem o32_inj {i n : Nat} (hi : i < 2147483648) (hn : n < 2147483648) (h : Int32.ofNat i = Int32.ofNat n) : i = n := by
  have := congrArg Int32.toInt h
  rw [o32_toInt i hi, o32_toInt n hn] at this; omega
def lay {α : Type} (f : Int32 → α) (z : α) (cs : List Int32) (j : Nat) : List α := (cs.take j).map f ++ List.replicate (cs.length - j) z
theorem lay_len {α : Type} (f : Int32 → α) (z : α) (cs : List Int32) (j : Nat) (h : j ≤ cs.length) : (lay f z cs j).length = cs.length := by
  simp [lay]; omega
theorem lay_set {α : Type} (f : Int32 → α) (z : α) (cs : List Int32) (j : Nat) (h : j < cs.length) : (lay f z cs j).set j (f cs[j]) = lay f z cs (j + 1) := by
  apply List.ext_getElem
  · simp [lay]; omega
  · intro i h1 h2
    simp only [lay, List.getElem_set, List.getElem_append, List.length_map, List.length_take, List.getElem_map, List.getElem_take, List.getElem_replicate]
    by_cases e : j = i
    · subst e; simp; omega
    · rw [if_neg e]
      by_cases q : i < j
      · rw [dif_pos (by omega), dif_pos (by omega)]
      · rw [dif_neg (by omega), dif_neg (by omega)]
theorem lay_all {α : Type} (f : Int32 → α) (z : α) (cs : List Int32) : lay f z cs cs.length = cs.map f := by simp [lay]
theorem lay_zero {α : Type} (f : Int32 → α) (z : α) (cs : List Int32) : lay f z cs 0 = List.replicate cs.length z := by simp [lay]
def big (c : Int32) : Bool := decide (255 < c)
/-- a char's low byte, as a byte[] holds it -/
def lo (c : Int32) : Value := .int c.toInt8.toInt32
theorem nar_bb (x : Int32) : nar .byte x.toInt8.toInt32 = x.toInt8.toInt32 := by simp [nar]
theorem nar_ch {x : Int32} (h0 : ¬ x < 0) (h1 : ¬ 65535 < x) : nar .char x = x := by
  show x.toUInt32.toUInt16.toUInt32.toInt32 = x
  have q := c_i2c x
  apply Int32.toInt_inj.mp
  rw [Int32.lt_iff_toInt_lt] at h0 h1
  have z0 : (0 : Int32).toInt = 0 := rfl
  have z1 : (65535 : Int32).toInt = 65535 := rfl
  omega
theorem and_ch (x : Int32) : ¬ (x &&& 255).toUInt32.toUInt16.toUInt32.toInt32 < 0 ∧ ¬ 255 < (x &&& 255).toUInt32.toUInt16.toUInt32.toInt32 := by
  have q := c_i2c (x &&& 255)
  have r := c_and x 255 (by decide)
  have z0 : (0 : Int32).toInt = 0 := rfl
  have z1 : (255 : Int32).toInt = 255 := rfl
  rw [Int32.lt_iff_toInt_lt, Int32.lt_iff_toInt_lt]
  omega
theorem no_big {c : Int32} (h : ¬ 255 < c) : ¬ 65535 < c := by
  rw [Int32.lt_iff_toInt_lt] at h ⊢
  have z0 : (255 : Int32).toInt = 255 := rfl
  have z1 : (65535 : Int32).toInt = 65535 := rfl
  omega
theorem getD_map {cs : List Int32} {j : Nat} (h : j < cs.length) (d : Value) : (cs.map Value.int).getD j d = .int cs[j] := by simp [List.getD, h]
/-- a Latin-1 String: its class, its two fields, its bytes -/
def Str (Z : State) (h : Heap) (a t : Addr) (cs : List Int32) : Prop :=
  Exa Z h a "java/lang/String" ∧ Fld Z h a "java/lang/String" "coder" "B" (.int 0) ∧ Fld Z h a "java/lang/String" "value" "[B" (.ref t) ∧ (∃ kt, Arv Z h t kt .byte (Int32.ofNat cs.length) (cs.map lo) (.int 0)) ∧ cs.length ≤ 1000 ∧ ∀ c ∈ cs, ¬ c < 0 ∧ ¬ 255 < c
theorem Str.ext {Z : State} {h h' : Heap} {a t : Addr} {cs : List Int32} (F : Str Z h a t cs) (E : Ext h h') : Str Z h' a t cs := by
  obtain ⟨h1, h2, h3, ⟨kt, h4⟩, r⟩ := F; exact ⟨h1.ext E, h2.ext E, h3.ext E, ⟨kt, h4.ext E⟩, r⟩
theorem Str.keep {Z : State} {h h' : Heap} {a t : Addr} {cs : List Int32} {ws : List Addr} (F : Str Z h a t cs) (K : Keep h h' ws) (q : a ∉ ws) (r : t ∉ ws) : Str Z h' a t cs := by
  obtain ⟨h1, h2, h3, ⟨kt, h4⟩, r'⟩ := F; exact ⟨h1.keep K, h2.keep K q, h3.keep K q, ⟨kt, h4.keep K r⟩, r'⟩
theorem Str.other {Z : State} {h h' : Heap} {a t x : Addr} {sl : Nat} {v : Value} {cs : List Int32} (F : Str Z h a t cs) (W : Wr h h' x sl v) (q : a ≠ x) (r : t ≠ x) : Str Z h' a t cs := by
  obtain ⟨h1, h2, h3, ⟨kt, h4⟩, r'⟩ := F; exact ⟨h1.wr W, h2.other W (Or.inl q), h3.other W (Or.inl q), ⟨kt, h4.other W r⟩, r'⟩
theorem Str.lt {Z : State} {h : Heap} {a t : Addr} {cs : List Int32} (F : Str Z h a t cs) : a < h.size := F.1.lt
theorem Str.lt' {Z : State} {h : Heap} {a t : Addr} {cs : List Int32} (F : Str Z h a t cs) : t < h.size := by obtain ⟨-, -, -, ⟨kt, h4⟩, -⟩ := F; exact h4.lt
theorem allI {P : Int32 → Prop} {y : Int32} {L : List Int32} (q : P y) (r : ∀ x ∈ L, P x) : ∀ x ∈ y :: L, P x := fun x z => (List.mem_cons.mp z).elim (fun u => u ▸ q) (r x)
theorem lo255 {c : Int32} (h0 : ¬ c < 0) (h1 : ¬ 255 < c) : (c.toInt8.toInt32 &&& 255).toUInt32.toUInt16.toUInt32.toInt32 = c := by
  rw [Int32.lt_iff_toInt_lt] at h0 h1
  have z0 : (0 : Int32).toInt = 0 := rfl
  have z1 : (255 : Int32).toInt = 255 := rfl
  have b1 := c_i2b c
  have m1 := c_mask c.toInt8.toInt32 255 8 (by decide) rfl
  have f := c_i2c (c.toInt8.toInt32 &&& 255)
  apply Int32.toInt_inj.mp
  omega
def b2i (b : Bool) : Int32 := if b then 1 else 0
theorem b2i_0 {b : Bool} (h : b2i b = 0) : b = false := by cases b <;> simp_all [b2i]
theorem b2i_n {b : Bool} (h : ¬ b2i b = 0) : b = true := by cases b <;> simp_all [b2i]
theorem nar_b2i (b : Bool) : nar .boolean (b2i b) = b2i b := by cases b <;> rfl
theorem lo_inj {c d : Int32} (hc : ¬ c < 0 ∧ ¬ 255 < c) (hd : ¬ d < 0 ∧ ¬ 255 < d) (h : c.toInt8.toInt32 = d.toInt8.toInt32) : c = d := by rw [← lo255 hc.1 hc.2, ← lo255 hd.1 hd.2, h]
theorem getD_lo {cs : List Int32} {j : Nat} (h : j < cs.length) (d : Value) : (cs.map lo).getD j d = .int cs[j].toInt8.toInt32 := by simp [List.getD, h, lo]
theorem Str.neObj {Z : State} {h : Heap} {a t x : Addr} {cs : List Int32} {C : String} {a0 : Array Value} {n : Nat} (F : Str Z h a t cs) (E : Exa Z h x C) (w : (Cond.instantiable C n).before a0 Z = true) : t ≠ x := by
  obtain ⟨-, -, -, ⟨kt, h4⟩, -⟩ := F
  exact Ne.symm (Exa.neArv E h4 w)
theorem i2c_id {x : Int32} (h0 : ¬ x < 0) (h1 : ¬ 65535 < x) : x.toUInt32.toUInt16.toUInt32.toInt32 = x := nar_ch h0 h1
abbrev wd : Bool := true
abbrev el : List (String × Nat) := [("com/example/kindling/kindling/Environment$Value", 26), ("com/example/kindling/kindling/Environment$Value", 28), ("com/example/kindling/kindling/Environment$Value", 30), ("java/lang/String", 7)]
theorem hwe : wd = false → el = [] := fun q => by cases q
set_option maxRecDepth 65536 in
theorem hwS0 : ∀ a ∈ Bundle.stringAtoms, a ∈ tables_1 := by decide +kernel
theorem d_jdk_52_method_21_0 : decode jdk_52_method_21_code 0 = .ok (.iconst 0, 1) := by decide +kernel
theorem d_jdk_52_method_21_1 : decode jdk_52_method_21_code 1 = .ok (.istore 5, 2) := by decide +kernel
theorem pn_java_lang_StringUTF16 : plainName "java/lang/StringUTF16" = true := by first | (simp [plainName, overriddenIn]; done) | decide +kernel
theorem d_jdk_52_method_21_3 : decode jdk_52_method_21_code 3 = .ok (.iload 5, 2) := by decide +kernel
theorem d_jdk_52_method_21_5 : decode jdk_52_method_21_code 5 = .ok (.iload 4, 2) := by decide +kernel
theorem d_jdk_52_method_21_7 : decode jdk_52_method_21_code 7 = .ok (.if_icmp .ge 37, 3) := by decide +kernel
theorem d_jdk_52_method_21_44 : decode jdk_52_method_21_code 44 = .ok (.iload 4, 2) := by decide +kernel
theorem d_jdk_52_method_21_46 : decode jdk_52_method_21_code 46 = .ok (.ireturn, 1) := by decide +kernel
theorem d_jdk_52_method_21_10 : decode jdk_52_method_21_code 10 = .ok (.aload_n 0, 1) := by decide +kernel
theorem d_jdk_52_method_21_11 : decode jdk_52_method_21_code 11 = .ok (.iload_n 1, 1) := by decide +kernel
theorem d_jdk_52_method_21_12 : decode jdk_52_method_21_code 12 = .ok (.caload, 1) := by decide +kernel
theorem d_jdk_52_method_21_13 : decode jdk_52_method_21_code 13 = .ok (.istore 6, 2) := by decide +kernel
theorem d_jdk_52_method_21_15 : decode jdk_52_method_21_code 15 = .ok (.iload 6, 2) := by decide +kernel
theorem d_jdk_52_method_21_17 : decode jdk_52_method_21_code 17 = .ok (.sipush 255, 3) := by decide +kernel
theorem d_jdk_52_method_21_20 : decode jdk_52_method_21_code 20 = .ok (.if_icmp .le 6, 3) := by decide +kernel
theorem d_jdk_52_method_21_26 : decode jdk_52_method_21_code 26 = .ok (.aload_n 2, 1) := by decide +kernel
theorem d_jdk_52_method_21_27 : decode jdk_52_method_21_code 27 = .ok (.iload_n 3, 1) := by decide +kernel
theorem d_jdk_52_method_21_28 : decode jdk_52_method_21_code 28 = .ok (.iload 6, 2) := by decide +kernel
theorem d_jdk_52_method_21_30 : decode jdk_52_method_21_code 30 = .ok (.i2b, 1) := by decide +kernel
theorem d_jdk_52_method_21_31 : decode jdk_52_method_21_code 31 = .ok (.bastore, 1) := by decide +kernel
theorem d_jdk_52_method_21_32 : decode jdk_52_method_21_code 32 = .ok (.iinc 1 1, 3) := by decide +kernel
theorem d_jdk_52_method_21_35 : decode jdk_52_method_21_code 35 = .ok (.iinc 3 1, 3) := by decide +kernel
theorem d_jdk_52_method_21_38 : decode jdk_52_method_21_code 38 = .ok (.iinc 5 1, 3) := by decide +kernel
theorem d_jdk_52_method_21_41 : decode jdk_52_method_21_code 41 = .ok (.goto (-38), 3) := by decide +kernel
theorem d_jdk_52_method_21_23 : decode jdk_52_method_21_code 23 = .ok (.iload 5, 2) := by decide +kernel
theorem d_jdk_52_method_21_25 : decode jdk_52_method_21_code 25 = .ok (.ireturn, 1) := by decide +kernel
theorem d_jdk_52_method_16_0 : decode jdk_52_method_16_code 0 = .ok (.iload_n 2, 1) := by decide +kernel
theorem d_jdk_52_method_16_1 : decode jdk_52_method_16_code 1 = .ok (.newarray .byte, 2) := by decide +kernel
theorem d_jdk_52_method_16_3 : decode jdk_52_method_16_code 3 = .ok (.astore_n 3, 1) := by decide +kernel
theorem d_jdk_52_method_16_4 : decode jdk_52_method_16_code 4 = .ok (.aload_n 0, 1) := by decide +kernel
theorem d_jdk_52_method_16_5 : decode jdk_52_method_16_code 5 = .ok (.iload_n 1, 1) := by decide +kernel
theorem d_jdk_52_method_16_6 : decode jdk_52_method_16_code 6 = .ok (.aload_n 3, 1) := by decide +kernel
theorem d_jdk_52_method_16_7 : decode jdk_52_method_16_code 7 = .ok (.iconst 0, 1) := by decide +kernel
theorem d_jdk_52_method_16_8 : decode jdk_52_method_16_code 8 = .ok (.iload_n 2, 1) := by decide +kernel
theorem d_jdk_52_method_16_9 : decode jdk_52_method_16_code 9 = .ok (.invokestatic 115, 3) := by decide +kernel
theorem pd___CI_BII_I : parseMethodDescriptor "([CI[BII)I" = some ⟨[(.array .char), .int, (.array .byte), .int, .int], some .int⟩ := by decide +kernel
theorem d_jdk_52_method_16_12 : decode jdk_52_method_16_code 12 = .ok (.istore 4, 2) := by decide +kernel
theorem d_jdk_52_method_16_14 : decode jdk_52_method_16_code 14 = .ok (.iload 4, 2) := by decide +kernel
theorem d_jdk_52_method_16_16 : decode jdk_52_method_16_code 16 = .ok (.iload_n 2, 1) := by decide +kernel
theorem d_jdk_52_method_16_17 : decode jdk_52_method_16_code 17 = .ok (.if_icmp .eq 40, 3) := by decide +kernel
theorem d_jdk_52_method_16_57 : decode jdk_52_method_16_code 57 = .ok (.aload_n 3, 1) := by decide +kernel
theorem d_jdk_52_method_16_58 : decode jdk_52_method_16_code 58 = .ok (.areturn, 1) := by decide +kernel
theorem d_jdk_52_method_15_0 : decode jdk_52_method_15_code 0 = .ok (.iload_n 1, 1) := by decide +kernel
theorem d_jdk_52_method_15_1 : decode jdk_52_method_15_code 1 = .ok (.aload_n 0, 1) := by decide +kernel
theorem d_jdk_52_method_15_2 : decode jdk_52_method_15_code 2 = .ok (.arraylength, 1) := by decide +kernel
theorem d_jdk_52_method_15_3 : decode jdk_52_method_15_code 3 = .ok (.isub, 1) := by decide +kernel
theorem d_jdk_52_method_15_4 : decode jdk_52_method_15_code 4 = .ok (.bipush 31, 2) := by decide +kernel
theorem d_jdk_52_method_15_6 : decode jdk_52_method_15_code 6 = .ok (.iushr, 1) := by decide +kernel
theorem d_jdk_52_method_15_7 : decode jdk_52_method_15_code 7 = .ok (.i2b, 1) := by decide +kernel
theorem d_jdk_52_method_15_8 : decode jdk_52_method_15_code 8 = .ok (.ireturn, 1) := by decide +kernel
theorem d_jdk_42_method_149_0 : decode jdk_42_method_149_code 0 = .ok (.aload_n 0, 1) := by decide +kernel
theorem d_jdk_42_method_149_1 : decode jdk_42_method_149_code 1 = .ok (.invokespecial 1, 3) := by decide +kernel
theorem d_jdk_42_method_149_4 : decode jdk_42_method_149_code 4 = .ok (.iload_n 3, 1) := by decide +kernel
theorem d_jdk_42_method_149_5 : decode jdk_42_method_149_code 5 = .ok (.ifCond .ne 22, 3) := by decide +kernel
theorem d_jdk_42_method_149_27 : decode jdk_42_method_149_code 27 = .ok (.getstatic 38, 3) := by decide +kernel
theorem d_jdk_42_method_149_30 : decode jdk_42_method_149_code 30 = .ok (.ifCond .eq 28, 3) := by decide +kernel
theorem d_jdk_42_method_149_33 : decode jdk_42_method_149_code 33 = .ok (.aload_n 1, 1) := by decide +kernel
theorem d_jdk_42_method_149_34 : decode jdk_42_method_149_code 34 = .ok (.iload_n 2, 1) := by decide +kernel
theorem d_jdk_42_method_149_35 : decode jdk_42_method_149_code 35 = .ok (.iload_n 3, 1) := by decide +kernel
theorem d_jdk_42_method_149_36 : decode jdk_42_method_149_code 36 = .ok (.invokestatic 177, 3) := by decide +kernel
theorem pd___CII__B : parseMethodDescriptor "([CII)[B" = some ⟨[(.array .char), .int, .int], some (.array .byte)⟩ := by decide +kernel
theorem d_jdk_42_method_149_39 : decode jdk_42_method_149_code 39 = .ok (.astore 5, 2) := by decide +kernel
theorem d_jdk_42_method_149_41 : decode jdk_42_method_149_code 41 = .ok (.aload_n 0, 1) := by decide +kernel
theorem d_jdk_42_method_149_42 : decode jdk_42_method_149_code 42 = .ok (.aload 5, 2) := by decide +kernel
theorem d_jdk_42_method_149_44 : decode jdk_42_method_149_code 44 = .ok (.iload_n 3, 1) := by decide +kernel
theorem d_jdk_42_method_149_45 : decode jdk_42_method_149_code 45 = .ok (.invokestatic 47, 3) := by decide +kernel
theorem pd___BI_B : parseMethodDescriptor "([BI)B" = some ⟨[(.array .byte), .int], some .byte⟩ := by decide +kernel
theorem d_jdk_42_method_149_48 : decode jdk_42_method_149_code 48 = .ok (.putfield 15, 3) := by decide +kernel
theorem d_jdk_42_method_149_51 : decode jdk_42_method_149_code 51 = .ok (.aload_n 0, 1) := by decide +kernel
theorem d_jdk_42_method_149_52 : decode jdk_42_method_149_code 52 = .ok (.aload 5, 2) := by decide +kernel
theorem d_jdk_42_method_149_54 : decode jdk_42_method_149_code 54 = .ok (.putfield 9, 3) := by decide +kernel
theorem d_jdk_42_method_149_57 : decode jdk_42_method_149_code 57 = .ok (.return_, 1) := by decide +kernel
theorem pn_java_lang_String : plainName "java/lang/String" = true := by first | (simp [plainName, overriddenIn]; done) | decide +kernel
theorem d_jdk_42_method_3_0 : decode jdk_42_method_3_code 0 = .ok (.aload_n 0, 1) := by decide +kernel
theorem d_jdk_42_method_3_1 : decode jdk_42_method_3_code 1 = .ok (.aload_n 1, 1) := by decide +kernel
theorem d_jdk_42_method_3_2 : decode jdk_42_method_3_code 2 = .ok (.iconst 0, 1) := by decide +kernel
theorem d_jdk_42_method_3_3 : decode jdk_42_method_3_code 3 = .ok (.aload_n 1, 1) := by decide +kernel
theorem d_jdk_42_method_3_4 : decode jdk_42_method_3_code 4 = .ok (.arraylength, 1) := by decide +kernel
theorem d_jdk_42_method_3_5 : decode jdk_42_method_3_code 5 = .ok (.aconst_null, 1) := by decide +kernel
theorem d_jdk_42_method_3_6 : decode jdk_42_method_3_code 6 = .ok (.invokespecial 27, 3) := by decide +kernel
theorem pd___CIILjava_lang_Void__V : parseMethodDescriptor "([CIILjava/lang/Void;)V" = some ⟨[(.array .char), .int, .int, (.object "java/lang/Void")], none⟩ := by decide +kernel
theorem d_jdk_42_method_3_9 : decode jdk_42_method_3_code 9 = .ok (.return_, 1) := by decide +kernel
theorem d_jdk_42_method_149_8 : decode jdk_42_method_149_code 8 = .ok (.aload_n 0, 1) := by decide +kernel
theorem d_jdk_42_method_149_9 : decode jdk_42_method_149_code 9 = .ok (.ldc 7, 2) := by decide +kernel
theorem d_jdk_42_method_149_11 : decode jdk_42_method_149_code 11 = .ok (.getfield 9, 3) := by decide +kernel
theorem d_jdk_42_method_149_14 : decode jdk_42_method_149_code 14 = .ok (.putfield 9, 3) := by decide +kernel
theorem d_jdk_42_method_149_17 : decode jdk_42_method_149_code 17 = .ok (.aload_n 0, 1) := by decide +kernel
theorem d_jdk_42_method_149_18 : decode jdk_42_method_149_code 18 = .ok (.ldc 7, 2) := by decide +kernel
theorem d_jdk_42_method_149_20 : decode jdk_42_method_149_code 20 = .ok (.getfield 15, 3) := by decide +kernel
theorem d_jdk_42_method_149_23 : decode jdk_42_method_149_code 23 = .ok (.putfield 15, 3) := by decide +kernel
theorem d_jdk_42_method_149_26 : decode jdk_42_method_149_code 26 = .ok (.return_, 1) := by decide +kernel
theorem d_jdk_43_method_13_0 : decode jdk_43_method_13_code 0 = .ok (.aload_n 0, 1) := by decide +kernel
theorem d_jdk_43_method_13_1 : decode jdk_43_method_13_code 1 = .ok (.arraylength, 1) := by decide +kernel
theorem d_jdk_43_method_13_2 : decode jdk_43_method_13_code 2 = .ok (.aload_n 1, 1) := by decide +kernel
theorem d_jdk_43_method_13_3 : decode jdk_43_method_13_code 3 = .ok (.arraylength, 1) := by decide +kernel
theorem d_jdk_43_method_13_4 : decode jdk_43_method_13_code 4 = .ok (.if_icmp .ne 30, 3) := by decide +kernel
theorem d_jdk_43_method_13_34 : decode jdk_43_method_13_code 34 = .ok (.iconst 0, 1) := by decide +kernel
theorem d_jdk_43_method_13_35 : decode jdk_43_method_13_code 35 = .ok (.ireturn, 1) := by decide +kernel
theorem d_jdk_43_method_13_7 : decode jdk_43_method_13_code 7 = .ok (.iconst 0, 1) := by decide +kernel
theorem d_jdk_43_method_13_8 : decode jdk_43_method_13_code 8 = .ok (.istore_n 2, 1) := by decide +kernel
theorem d_jdk_43_method_13_9 : decode jdk_43_method_13_code 9 = .ok (.iload_n 2, 1) := by decide +kernel
theorem d_jdk_43_method_13_10 : decode jdk_43_method_13_code 10 = .ok (.aload_n 0, 1) := by decide +kernel
theorem d_jdk_43_method_13_11 : decode jdk_43_method_13_code 11 = .ok (.arraylength, 1) := by decide +kernel
theorem d_jdk_43_method_13_12 : decode jdk_43_method_13_code 12 = .ok (.if_icmp .ge 20, 3) := by decide +kernel
theorem d_jdk_43_method_13_32 : decode jdk_43_method_13_code 32 = .ok (.iconst 1, 1) := by decide +kernel
theorem d_jdk_43_method_13_33 : decode jdk_43_method_13_code 33 = .ok (.ireturn, 1) := by decide +kernel
theorem d_jdk_43_method_13_15 : decode jdk_43_method_13_code 15 = .ok (.aload_n 0, 1) := by decide +kernel
theorem d_jdk_43_method_13_16 : decode jdk_43_method_13_code 16 = .ok (.iload_n 2, 1) := by decide +kernel
theorem d_jdk_43_method_13_17 : decode jdk_43_method_13_code 17 = .ok (.baload, 1) := by decide +kernel
theorem d_jdk_43_method_13_18 : decode jdk_43_method_13_code 18 = .ok (.aload_n 1, 1) := by decide +kernel
theorem d_jdk_43_method_13_19 : decode jdk_43_method_13_code 19 = .ok (.iload_n 2, 1) := by decide +kernel
theorem d_jdk_43_method_13_20 : decode jdk_43_method_13_code 20 = .ok (.baload, 1) := by decide +kernel
theorem d_jdk_43_method_13_21 : decode jdk_43_method_13_code 21 = .ok (.if_icmp .eq 5, 3) := by decide +kernel
theorem d_jdk_43_method_13_26 : decode jdk_43_method_13_code 26 = .ok (.iinc 2 1, 3) := by decide +kernel
theorem d_jdk_43_method_13_29 : decode jdk_43_method_13_code 29 = .ok (.goto (-20), 3) := by decide +kernel
theorem d_jdk_43_method_13_24 : decode jdk_43_method_13_code 24 = .ok (.iconst 0, 1) := by decide +kernel
theorem d_jdk_43_method_13_25 : decode jdk_43_method_13_code 25 = .ok (.ireturn, 1) := by decide +kernel
theorem pn_java_lang_StringLatin1 : plainName "java/lang/StringLatin1" = true := by first | (simp [plainName, overriddenIn]; done) | decide +kernel
theorem d_jdk_42_method_66_0 : decode jdk_42_method_66_code 0 = .ok (.aload_n 0, 1) := by decide +kernel
theorem d_jdk_42_method_66_1 : decode jdk_42_method_66_code 1 = .ok (.aload_n 1, 1) := by decide +kernel
theorem d_jdk_42_method_66_2 : decode jdk_42_method_66_code 2 = .ok (.if_acmp .ne 5, 3) := by decide +kernel
theorem d_jdk_42_method_66_5 : decode jdk_42_method_66_code 5 = .ok (.iconst 1, 1) := by decide +kernel
theorem d_jdk_42_method_66_6 : decode jdk_42_method_66_code 6 = .ok (.ireturn, 1) := by decide +kernel
theorem d_jdk_42_method_66_7 : decode jdk_42_method_66_code 7 = .ok (.aload_n 1, 1) := by decide +kernel
theorem d_jdk_42_method_66_8 : decode jdk_42_method_66_code 8 = .ok (.instanceof 10, 3) := by decide +kernel
theorem d_jdk_42_method_66_11 : decode jdk_42_method_66_code 11 = .ok (.ifCond .eq 43, 3) := by decide +kernel
theorem d_jdk_42_method_66_14 : decode jdk_42_method_66_code 14 = .ok (.aload_n 1, 1) := by decide +kernel
theorem d_jdk_42_method_66_15 : decode jdk_42_method_66_code 15 = .ok (.checkcast 10, 3) := by decide +kernel
theorem d_jdk_42_method_66_18 : decode jdk_42_method_66_code 18 = .ok (.astore_n 2, 1) := by decide +kernel
theorem d_jdk_42_method_66_19 : decode jdk_42_method_66_code 19 = .ok (.getstatic 38, 3) := by decide +kernel
theorem d_jdk_42_method_66_22 : decode jdk_42_method_66_code 22 = .ok (.ifCond .eq 14, 3) := by decide +kernel
theorem d_jdk_42_method_66_25 : decode jdk_42_method_66_code 25 = .ok (.aload_n 0, 1) := by decide +kernel
theorem d_jdk_42_method_66_26 : decode jdk_42_method_66_code 26 = .ok (.getfield 15, 3) := by decide +kernel
theorem d_jdk_42_method_66_29 : decode jdk_42_method_66_code 29 = .ok (.aload_n 2, 1) := by decide +kernel
theorem d_jdk_42_method_66_30 : decode jdk_42_method_66_code 30 = .ok (.getfield 15, 3) := by decide +kernel
theorem d_jdk_42_method_66_33 : decode jdk_42_method_66_code 33 = .ok (.if_icmp .ne 21, 3) := by decide +kernel
theorem d_jdk_42_method_66_36 : decode jdk_42_method_66_code 36 = .ok (.aload_n 0, 1) := by decide +kernel
theorem d_jdk_42_method_66_37 : decode jdk_42_method_66_code 37 = .ok (.getfield 9, 3) := by decide +kernel
theorem d_jdk_42_method_66_40 : decode jdk_42_method_66_code 40 = .ok (.aload_n 2, 1) := by decide +kernel
theorem d_jdk_42_method_66_41 : decode jdk_42_method_66_code 41 = .ok (.getfield 9, 3) := by decide +kernel
theorem d_jdk_42_method_66_44 : decode jdk_42_method_66_code 44 = .ok (.invokestatic 541, 3) := by decide +kernel
theorem pd___B_B_Z : parseMethodDescriptor "([B[B)Z" = some ⟨[(.array .byte), (.array .byte)], some .boolean⟩ := by decide +kernel
theorem d_jdk_42_method_66_47 : decode jdk_42_method_66_code 47 = .ok (.ifCond .eq 7, 3) := by decide +kernel
theorem d_jdk_42_method_66_54 : decode jdk_42_method_66_code 54 = .ok (.iconst 0, 1) := by decide +kernel
theorem d_jdk_42_method_66_55 : decode jdk_42_method_66_code 55 = .ok (.ireturn, 1) := by decide +kernel
theorem d_jdk_42_method_66_50 : decode jdk_42_method_66_code 50 = .ok (.iconst 1, 1) := by decide +kernel
theorem d_jdk_42_method_66_51 : decode jdk_42_method_66_code 51 = .ok (.goto 4, 3) := by decide +kernel
theorem d_jdk_42_method_154_0 : decode jdk_42_method_154_code 0 = .ok (.getstatic 38, 3) := by decide +kernel
theorem d_jdk_42_method_154_3 : decode jdk_42_method_154_code 3 = .ok (.ifCond .eq 14, 3) := by decide +kernel
theorem d_jdk_42_method_154_6 : decode jdk_42_method_154_code 6 = .ok (.aload_n 0, 1) := by decide +kernel
theorem d_jdk_42_method_154_7 : decode jdk_42_method_154_code 7 = .ok (.getfield 15, 3) := by decide +kernel
theorem d_jdk_42_method_154_10 : decode jdk_42_method_154_code 10 = .ok (.ifCond .ne 7, 3) := by decide +kernel
theorem d_jdk_42_method_154_17 : decode jdk_42_method_154_code 17 = .ok (.iconst 0, 1) := by decide +kernel
theorem d_jdk_42_method_154_18 : decode jdk_42_method_154_code 18 = .ok (.ireturn, 1) := by decide +kernel
theorem d_jdk_42_method_154_13 : decode jdk_42_method_154_code 13 = .ok (.iconst 1, 1) := by decide +kernel
theorem d_jdk_42_method_154_14 : decode jdk_42_method_154_code 14 = .ok (.goto 4, 3) := by decide +kernel
theorem d_jdk_42_method_152_0 : decode jdk_42_method_152_code 0 = .ok (.getstatic 38, 3) := by decide +kernel
theorem d_jdk_42_method_152_3 : decode jdk_42_method_152_code 3 = .ok (.ifCond .eq 10, 3) := by decide +kernel
theorem d_jdk_42_method_152_6 : decode jdk_42_method_152_code 6 = .ok (.aload_n 0, 1) := by decide +kernel
theorem d_jdk_42_method_152_7 : decode jdk_42_method_152_code 7 = .ok (.getfield 15, 3) := by decide +kernel
theorem d_jdk_42_method_152_10 : decode jdk_42_method_152_code 10 = .ok (.goto 4, 3) := by decide +kernel
theorem d_jdk_42_method_152_14 : decode jdk_42_method_152_code 14 = .ok (.ireturn, 1) := by decide +kernel
theorem d_jdk_29_method_69_0 : decode jdk_29_method_69_code 0 = .ok (.iload_n 0, 1) := by decide +kernel
theorem d_jdk_29_method_69_1 : decode jdk_29_method_69_code 1 = .ok (.iload_n 1, 1) := by decide +kernel
theorem d_jdk_29_method_69_2 : decode jdk_29_method_69_code 2 = .ok (.if_icmp .gt 7, 3) := by decide +kernel
theorem d_jdk_29_method_69_9 : decode jdk_29_method_69_code 9 = .ok (.iload_n 1, 1) := by decide +kernel
theorem d_jdk_29_method_69_10 : decode jdk_29_method_69_code 10 = .ok (.ireturn, 1) := by decide +kernel
theorem d_jdk_29_method_69_5 : decode jdk_29_method_69_code 5 = .ok (.iload_n 0, 1) := by decide +kernel
theorem d_jdk_29_method_69_6 : decode jdk_29_method_69_code 6 = .ok (.goto 4, 3) := by decide +kernel
theorem d_jdk_29_method_65_0 : decode jdk_29_method_65_code 0 = .ok (.iload_n 0, 1) := by decide +kernel
theorem d_jdk_29_method_65_1 : decode jdk_29_method_65_code 1 = .ok (.iload_n 1, 1) := by decide +kernel
theorem d_jdk_29_method_65_2 : decode jdk_29_method_65_code 2 = .ok (.if_icmp .lt 7, 3) := by decide +kernel
theorem d_jdk_29_method_65_9 : decode jdk_29_method_65_code 9 = .ok (.iload_n 1, 1) := by decide +kernel
theorem d_jdk_29_method_65_10 : decode jdk_29_method_65_code 10 = .ok (.ireturn, 1) := by decide +kernel
theorem d_jdk_29_method_65_5 : decode jdk_29_method_65_code 5 = .ok (.iload_n 0, 1) := by decide +kernel
theorem d_jdk_29_method_65_6 : decode jdk_29_method_65_code 6 = .ok (.goto 4, 3) := by decide +kernel
theorem d_jdk_42_method_54_0 : decode jdk_42_method_54_code 0 = .ok (.aload_n 0, 1) := by decide +kernel
theorem d_jdk_42_method_54_1 : decode jdk_42_method_54_code 1 = .ok (.getfield 9, 3) := by decide +kernel
theorem d_jdk_42_method_54_4 : decode jdk_42_method_54_code 4 = .ok (.arraylength, 1) := by decide +kernel
theorem d_jdk_42_method_54_5 : decode jdk_42_method_54_code 5 = .ok (.aload_n 0, 1) := by decide +kernel
theorem d_jdk_42_method_54_6 : decode jdk_42_method_54_code 6 = .ok (.invokevirtual 335, 3) := by decide +kernel
theorem pd___B : parseMethodDescriptor "()B" = some ⟨[], some .byte⟩ := by decide +kernel
theorem d_jdk_42_method_54_9 : decode jdk_42_method_54_code 9 = .ok (.ishr, 1) := by decide +kernel
theorem d_jdk_42_method_54_10 : decode jdk_42_method_54_code 10 = .ok (.ireturn, 1) := by decide +kernel
theorem d_jdk_68_method_2_0 : decode jdk_68_method_2_code 0 = .ok (.aload_n 0, 1) := by decide +kernel
theorem d_jdk_68_method_2_1 : decode jdk_68_method_2_code 1 = .ok (.invokespecial 3, 3) := by decide +kernel
theorem d_jdk_68_method_2_4 : decode jdk_68_method_2_code 4 = .ok (.getstatic 18, 3) := by decide +kernel
theorem d_jdk_68_method_2_7 : decode jdk_68_method_2_code 7 = .ok (.ifCond .eq 18, 3) := by decide +kernel
theorem d_jdk_68_method_2_10 : decode jdk_68_method_2_code 10 = .ok (.aload_n 0, 1) := by decide +kernel
theorem d_jdk_68_method_2_11 : decode jdk_68_method_2_code 11 = .ok (.iload_n 1, 1) := by decide +kernel
theorem d_jdk_68_method_2_12 : decode jdk_68_method_2_code 12 = .ok (.newarray .byte, 2) := by decide +kernel
theorem d_jdk_68_method_2_14 : decode jdk_68_method_2_code 14 = .ok (.putfield 15, 3) := by decide +kernel
theorem d_jdk_68_method_2_17 : decode jdk_68_method_2_code 17 = .ok (.aload_n 0, 1) := by decide +kernel
theorem d_jdk_68_method_2_18 : decode jdk_68_method_2_code 18 = .ok (.iconst 0, 1) := by decide +kernel
theorem d_jdk_68_method_2_19 : decode jdk_68_method_2_code 19 = .ok (.putfield 22, 3) := by decide +kernel
theorem d_jdk_68_method_2_22 : decode jdk_68_method_2_code 22 = .ok (.goto 16, 3) := by decide +kernel
theorem d_jdk_68_method_2_38 : decode jdk_68_method_2_code 38 = .ok (.return_, 1) := by decide +kernel
theorem pn_java_lang_AbstractStringBuilder : plainName "java/lang/AbstractStringBuilder" = true := by first | (simp [plainName, overriddenIn]; done) | decide +kernel
theorem d_jdk_67_method_1_0 : decode jdk_67_method_1_code 0 = .ok (.aload_n 0, 1) := by decide +kernel
theorem d_jdk_67_method_1_1 : decode jdk_67_method_1_code 1 = .ok (.bipush 16, 2) := by decide +kernel
theorem d_jdk_67_method_1_3 : decode jdk_67_method_1_code 3 = .ok (.invokespecial 1, 3) := by decide +kernel
theorem pd__I_V : parseMethodDescriptor "(I)V" = some ⟨[.int], none⟩ := by decide +kernel
theorem d_jdk_67_method_1_6 : decode jdk_67_method_1_code 6 = .ok (.return_, 1) := by decide +kernel
theorem pn_java_lang_StringBuilder : plainName "java/lang/StringBuilder" = true := by first | (simp [plainName, overriddenIn]; done) | decide +kernel
theorem d_jdk_48_method_27_0 : decode jdk_48_method_27_code 0 = .ok (.iload_n 0, 1) := by decide +kernel
theorem d_jdk_48_method_27_1 : decode jdk_48_method_27_code 1 = .ok (.iload_n 1, 1) := by decide +kernel
theorem d_jdk_48_method_27_2 : decode jdk_48_method_27_code 2 = .ok (.iload_n 2, 1) := by decide +kernel
theorem d_jdk_48_method_27_3 : decode jdk_48_method_27_code 3 = .ok (.invokestatic 194, 3) := by decide +kernel
theorem pd__II_I : parseMethodDescriptor "(II)I" = some ⟨[.int, .int], some .int⟩ := by decide +kernel
theorem d_jdk_48_method_27_6 : decode jdk_48_method_27_code 6 = .ok (.iadd, 1) := by decide +kernel
theorem d_jdk_48_method_27_7 : decode jdk_48_method_27_code 7 = .ok (.istore_n 3, 1) := by decide +kernel
theorem d_jdk_48_method_27_8 : decode jdk_48_method_27_code 8 = .ok (.iconst 0, 1) := by decide +kernel
theorem d_jdk_48_method_27_9 : decode jdk_48_method_27_code 9 = .ok (.iload_n 3, 1) := by decide +kernel
theorem d_jdk_48_method_27_10 : decode jdk_48_method_27_code 10 = .ok (.if_icmp .ge 11, 3) := by decide +kernel
theorem d_jdk_48_method_27_13 : decode jdk_48_method_27_code 13 = .ok (.iload_n 3, 1) := by decide +kernel
theorem d_jdk_48_method_27_14 : decode jdk_48_method_27_code 14 = .ok (.ldc 200, 2) := by decide +kernel
theorem d_jdk_48_method_27_16 : decode jdk_48_method_27_code 16 = .ok (.if_icmp .gt 5, 3) := by decide +kernel
theorem d_jdk_48_method_27_19 : decode jdk_48_method_27_code 19 = .ok (.iload_n 3, 1) := by decide +kernel
theorem d_jdk_48_method_27_20 : decode jdk_48_method_27_code 20 = .ok (.ireturn, 1) := by decide +kernel
theorem pn_jdk_internal_util_ArraysSupport : plainName "jdk/internal/util/ArraysSupport" = true := by first | (simp [plainName, overriddenIn]; done) | decide +kernel
theorem d_jdk_68_method_10_0 : decode jdk_68_method_10_code 0 = .ok (.aload_n 0, 1) := by decide +kernel
theorem d_jdk_68_method_10_1 : decode jdk_68_method_10_code 1 = .ok (.getfield 15, 3) := by decide +kernel
theorem d_jdk_68_method_10_4 : decode jdk_68_method_10_code 4 = .ok (.arraylength, 1) := by decide +kernel
theorem d_jdk_68_method_10_5 : decode jdk_68_method_10_code 5 = .ok (.istore_n 2, 1) := by decide +kernel
theorem d_jdk_68_method_10_6 : decode jdk_68_method_10_code 6 = .ok (.iload_n 1, 1) := by decide +kernel
theorem d_jdk_68_method_10_7 : decode jdk_68_method_10_code 7 = .ok (.aload_n 0, 1) := by decide +kernel
theorem d_jdk_68_method_10_8 : decode jdk_68_method_10_code 8 = .ok (.getfield 22, 3) := by decide +kernel
theorem d_jdk_68_method_10_11 : decode jdk_68_method_10_code 11 = .ok (.ishl, 1) := by decide +kernel
theorem d_jdk_68_method_10_12 : decode jdk_68_method_10_code 12 = .ok (.istore_n 3, 1) := by decide +kernel
theorem d_jdk_68_method_10_13 : decode jdk_68_method_10_code 13 = .ok (.iload_n 3, 1) := by decide +kernel
theorem d_jdk_68_method_10_14 : decode jdk_68_method_10_code 14 = .ok (.iload_n 2, 1) := by decide +kernel
theorem d_jdk_68_method_10_15 : decode jdk_68_method_10_code 15 = .ok (.isub, 1) := by decide +kernel
theorem d_jdk_68_method_10_16 : decode jdk_68_method_10_code 16 = .ok (.istore 4, 2) := by decide +kernel
theorem d_jdk_68_method_10_18 : decode jdk_68_method_10_code 18 = .ok (.iload_n 2, 1) := by decide +kernel
theorem d_jdk_68_method_10_19 : decode jdk_68_method_10_code 19 = .ok (.iload 4, 2) := by decide +kernel
theorem d_jdk_68_method_10_21 : decode jdk_68_method_10_code 21 = .ok (.iload_n 2, 1) := by decide +kernel
theorem d_jdk_68_method_10_22 : decode jdk_68_method_10_code 22 = .ok (.iconst 2, 1) := by decide +kernel
theorem d_jdk_68_method_10_23 : decode jdk_68_method_10_code 23 = .ok (.aload_n 0, 1) := by decide +kernel
theorem d_jdk_68_method_10_24 : decode jdk_68_method_10_code 24 = .ok (.getfield 22, 3) := by decide +kernel
theorem d_jdk_68_method_10_27 : decode jdk_68_method_10_code 27 = .ok (.ishl, 1) := by decide +kernel
theorem d_jdk_68_method_10_28 : decode jdk_68_method_10_code 28 = .ok (.iadd, 1) := by decide +kernel
theorem d_jdk_68_method_10_29 : decode jdk_68_method_10_code 29 = .ok (.invokestatic 114, 3) := by decide +kernel
theorem pd__III_I : parseMethodDescriptor "(III)I" = some ⟨[.int, .int, .int], some .int⟩ := by decide +kernel
theorem d_jdk_68_method_10_32 : decode jdk_68_method_10_code 32 = .ok (.istore 5, 2) := by decide +kernel
theorem d_jdk_68_method_10_34 : decode jdk_68_method_10_code 34 = .ok (.iload 5, 2) := by decide +kernel
theorem d_jdk_68_method_10_36 : decode jdk_68_method_10_code 36 = .ok (.ldc 39, 2) := by decide +kernel
theorem d_jdk_68_method_10_38 : decode jdk_68_method_10_code 38 = .ok (.if_icmp .ne 13, 3) := by decide +kernel
theorem d_jdk_68_method_10_51 : decode jdk_68_method_10_code 51 = .ok (.iload 5, 2) := by decide +kernel
theorem d_jdk_68_method_10_53 : decode jdk_68_method_10_code 53 = .ok (.aload_n 0, 1) := by decide +kernel
theorem d_jdk_68_method_10_54 : decode jdk_68_method_10_code 54 = .ok (.getfield 22, 3) := by decide +kernel
theorem d_jdk_68_method_10_57 : decode jdk_68_method_10_code 57 = .ok (.ishr, 1) := by decide +kernel
theorem d_jdk_68_method_10_58 : decode jdk_68_method_10_code 58 = .ok (.ireturn, 1) := by decide +kernel
theorem d_jdk_65_method_121_0 : decode jdk_65_method_121_code 0 = .ok (.iload_n 1, 1) := by decide +kernel
theorem d_jdk_65_method_121_1 : decode jdk_65_method_121_code 1 = .ok (.aload_n 0, 1) := by decide +kernel
theorem d_jdk_65_method_121_2 : decode jdk_65_method_121_code 2 = .ok (.arraylength, 1) := by decide +kernel
theorem d_jdk_65_method_121_3 : decode jdk_65_method_121_code 3 = .ok (.if_icmp .ne 11, 3) := by decide +kernel
theorem d_jdk_65_method_121_14 : decode jdk_65_method_121_code 14 = .ok (.iload_n 1, 1) := by decide +kernel
theorem d_jdk_65_method_121_15 : decode jdk_65_method_121_code 15 = .ok (.newarray .byte, 2) := by decide +kernel
theorem d_jdk_65_method_121_17 : decode jdk_65_method_121_code 17 = .ok (.astore_n 2, 1) := by decide +kernel
theorem d_jdk_65_method_121_18 : decode jdk_65_method_121_code 18 = .ok (.aload_n 0, 1) := by decide +kernel
theorem d_jdk_65_method_121_19 : decode jdk_65_method_121_code 19 = .ok (.iconst 0, 1) := by decide +kernel
theorem d_jdk_65_method_121_20 : decode jdk_65_method_121_code 20 = .ok (.aload_n 2, 1) := by decide +kernel
theorem d_jdk_65_method_121_21 : decode jdk_65_method_121_code 21 = .ok (.iconst 0, 1) := by decide +kernel
theorem d_jdk_65_method_121_22 : decode jdk_65_method_121_code 22 = .ok (.aload_n 0, 1) := by decide +kernel
theorem d_jdk_65_method_121_23 : decode jdk_65_method_121_code 23 = .ok (.arraylength, 1) := by decide +kernel
theorem d_jdk_65_method_121_24 : decode jdk_65_method_121_code 24 = .ok (.iload_n 1, 1) := by decide +kernel
theorem d_jdk_65_method_121_25 : decode jdk_65_method_121_code 25 = .ok (.invokestatic 304, 3) := by decide +kernel
theorem d_jdk_65_method_121_28 : decode jdk_65_method_121_code 28 = .ok (.invokestatic 150, 3) := by decide +kernel
theorem d_jdk_65_method_121_31 : decode jdk_65_method_121_code 31 = .ok (.aload_n 2, 1) := by decide +kernel
theorem d_jdk_65_method_121_32 : decode jdk_65_method_121_code 32 = .ok (.areturn, 1) := by decide +kernel
theorem pn_java_util_Arrays : plainName "java/util/Arrays" = true := by first | (simp [plainName, overriddenIn]; done) | decide +kernel
theorem d_jdk_68_method_9_0 : decode jdk_68_method_9_code 0 = .ok (.aload_n 0, 1) := by decide +kernel
theorem d_jdk_68_method_9_1 : decode jdk_68_method_9_code 1 = .ok (.getfield 15, 3) := by decide +kernel
theorem d_jdk_68_method_9_4 : decode jdk_68_method_9_code 4 = .ok (.arraylength, 1) := by decide +kernel
theorem d_jdk_68_method_9_5 : decode jdk_68_method_9_code 5 = .ok (.aload_n 0, 1) := by decide +kernel
theorem d_jdk_68_method_9_6 : decode jdk_68_method_9_code 6 = .ok (.getfield 22, 3) := by decide +kernel
theorem d_jdk_68_method_9_9 : decode jdk_68_method_9_code 9 = .ok (.ishr, 1) := by decide +kernel
theorem d_jdk_68_method_9_10 : decode jdk_68_method_9_code 10 = .ok (.istore_n 2, 1) := by decide +kernel
theorem d_jdk_68_method_9_11 : decode jdk_68_method_9_code 11 = .ok (.iload_n 1, 1) := by decide +kernel
theorem d_jdk_68_method_9_12 : decode jdk_68_method_9_code 12 = .ok (.iload_n 2, 1) := by decide +kernel
theorem d_jdk_68_method_9_13 : decode jdk_68_method_9_code 13 = .ok (.isub, 1) := by decide +kernel
theorem d_jdk_68_method_9_14 : decode jdk_68_method_9_code 14 = .ok (.ifCond .le 24, 3) := by decide +kernel
theorem d_jdk_68_method_9_38 : decode jdk_68_method_9_code 38 = .ok (.return_, 1) := by decide +kernel
theorem d_jdk_68_method_9_17 : decode jdk_68_method_9_code 17 = .ok (.aload_n 0, 1) := by decide +kernel
theorem d_jdk_68_method_9_18 : decode jdk_68_method_9_code 18 = .ok (.aload_n 0, 1) := by decide +kernel
theorem d_jdk_68_method_9_19 : decode jdk_68_method_9_code 19 = .ok (.getfield 15, 3) := by decide +kernel
theorem d_jdk_68_method_9_22 : decode jdk_68_method_9_code 22 = .ok (.aload_n 0, 1) := by decide +kernel
theorem d_jdk_68_method_9_23 : decode jdk_68_method_9_code 23 = .ok (.iload_n 1, 1) := by decide +kernel
theorem d_jdk_68_method_9_24 : decode jdk_68_method_9_code 24 = .ok (.invokevirtual 104, 3) := by decide +kernel
theorem pd__I_I : parseMethodDescriptor "(I)I" = some ⟨[.int], some .int⟩ := by decide +kernel
theorem d_jdk_68_method_9_27 : decode jdk_68_method_9_code 27 = .ok (.aload_n 0, 1) := by decide +kernel
theorem d_jdk_68_method_9_28 : decode jdk_68_method_9_code 28 = .ok (.getfield 22, 3) := by decide +kernel
theorem d_jdk_68_method_9_31 : decode jdk_68_method_9_code 31 = .ok (.ishl, 1) := by decide +kernel
theorem d_jdk_68_method_9_32 : decode jdk_68_method_9_code 32 = .ok (.invokestatic 108, 3) := by decide +kernel
theorem pd___BI__B : parseMethodDescriptor "([BI)[B" = some ⟨[(.array .byte), .int], some (.array .byte)⟩ := by decide +kernel
theorem d_jdk_68_method_9_35 : decode jdk_68_method_9_code 35 = .ok (.putfield 15, 3) := by decide +kernel
theorem d_jdk_68_method_71_0 : decode jdk_68_method_71_code 0 = .ok (.getstatic 18, 3) := by decide +kernel
theorem d_jdk_68_method_71_3 : decode jdk_68_method_71_code 3 = .ok (.ifCond .eq 18, 3) := by decide +kernel
theorem d_jdk_68_method_71_6 : decode jdk_68_method_71_code 6 = .ok (.aload_n 0, 1) := by decide +kernel
theorem d_jdk_68_method_71_7 : decode jdk_68_method_71_code 7 = .ok (.getfield 22, 3) := by decide +kernel
theorem d_jdk_68_method_71_10 : decode jdk_68_method_71_code 10 = .ok (.aload_n 1, 1) := by decide +kernel
theorem d_jdk_68_method_71_11 : decode jdk_68_method_71_code 11 = .ok (.invokevirtual 40, 3) := by decide +kernel
theorem d_jdk_68_method_71_14 : decode jdk_68_method_71_code 14 = .ok (.if_icmp .eq 7, 3) := by decide +kernel
theorem d_jdk_68_method_71_21 : decode jdk_68_method_71_code 21 = .ok (.return_, 1) := by decide +kernel
theorem d_jdk_42_method_147_0 : decode jdk_42_method_147_code 0 = .ok (.aload_n 0, 1) := by decide +kernel
theorem d_jdk_42_method_147_1 : decode jdk_42_method_147_code 1 = .ok (.invokevirtual 335, 3) := by decide +kernel
theorem d_jdk_42_method_147_4 : decode jdk_42_method_147_code 4 = .ok (.iload_n 3, 1) := by decide +kernel
theorem d_jdk_42_method_147_5 : decode jdk_42_method_147_code 5 = .ok (.if_icmp .ne 23, 3) := by decide +kernel
theorem d_jdk_42_method_147_8 : decode jdk_42_method_147_code 8 = .ok (.aload_n 0, 1) := by decide +kernel
theorem d_jdk_42_method_147_9 : decode jdk_42_method_147_code 9 = .ok (.getfield 9, 3) := by decide +kernel
theorem d_jdk_42_method_147_12 : decode jdk_42_method_147_code 12 = .ok (.iconst 0, 1) := by decide +kernel
theorem d_jdk_42_method_147_13 : decode jdk_42_method_147_code 13 = .ok (.aload_n 1, 1) := by decide +kernel
theorem d_jdk_42_method_147_14 : decode jdk_42_method_147_code 14 = .ok (.iload_n 2, 1) := by decide +kernel
theorem d_jdk_42_method_147_15 : decode jdk_42_method_147_code 15 = .ok (.iload_n 3, 1) := by decide +kernel
theorem d_jdk_42_method_147_16 : decode jdk_42_method_147_code 16 = .ok (.ishl, 1) := by decide +kernel
theorem d_jdk_42_method_147_17 : decode jdk_42_method_147_code 17 = .ok (.aload_n 0, 1) := by decide +kernel
theorem d_jdk_42_method_147_18 : decode jdk_42_method_147_code 18 = .ok (.getfield 9, 3) := by decide +kernel
theorem d_jdk_42_method_147_21 : decode jdk_42_method_147_code 21 = .ok (.arraylength, 1) := by decide +kernel
theorem d_jdk_42_method_147_22 : decode jdk_42_method_147_code 22 = .ok (.invokestatic 212, 3) := by decide +kernel
theorem d_jdk_42_method_147_25 : decode jdk_42_method_147_code 25 = .ok (.goto 18, 3) := by decide +kernel
theorem d_jdk_42_method_147_43 : decode jdk_42_method_147_code 43 = .ok (.return_, 1) := by decide +kernel
theorem d_jdk_68_method_73_0 : decode jdk_68_method_73_code 0 = .ok (.aload_n 0, 1) := by decide +kernel
theorem d_jdk_68_method_73_1 : decode jdk_68_method_73_code 1 = .ok (.aload_n 2, 1) := by decide +kernel
theorem d_jdk_68_method_73_2 : decode jdk_68_method_73_code 2 = .ok (.invokevirtual 397, 3) := by decide +kernel
theorem pd__Ljava_lang_String__V : parseMethodDescriptor "(Ljava/lang/String;)V" = some ⟨[(.object "java/lang/String")], none⟩ := by decide +kernel
theorem d_jdk_68_method_73_5 : decode jdk_68_method_73_code 5 = .ok (.aload_n 2, 1) := by decide +kernel
theorem d_jdk_68_method_73_6 : decode jdk_68_method_73_code 6 = .ok (.aload_n 0, 1) := by decide +kernel
theorem d_jdk_68_method_73_7 : decode jdk_68_method_73_code 7 = .ok (.getfield 15, 3) := by decide +kernel
theorem d_jdk_68_method_73_10 : decode jdk_68_method_73_code 10 = .ok (.iload_n 1, 1) := by decide +kernel
theorem d_jdk_68_method_73_11 : decode jdk_68_method_73_code 11 = .ok (.aload_n 0, 1) := by decide +kernel
theorem d_jdk_68_method_73_12 : decode jdk_68_method_73_code 12 = .ok (.getfield 22, 3) := by decide +kernel
theorem d_jdk_68_method_73_15 : decode jdk_68_method_73_code 15 = .ok (.invokevirtual 399, 3) := by decide +kernel
theorem pd___BIB_V : parseMethodDescriptor "([BIB)V" = some ⟨[(.array .byte), .int, .byte], none⟩ := by decide +kernel
theorem d_jdk_68_method_73_18 : decode jdk_68_method_73_code 18 = .ok (.return_, 1) := by decide +kernel
theorem d_jdk_68_method_22_0 : decode jdk_68_method_22_code 0 = .ok (.aload_n 1, 1) := by decide +kernel
theorem d_jdk_68_method_22_1 : decode jdk_68_method_22_code 1 = .ok (.ifnonnull 8, 3) := by decide +kernel
theorem d_jdk_68_method_22_9 : decode jdk_68_method_22_code 9 = .ok (.aload_n 1, 1) := by decide +kernel
theorem d_jdk_68_method_22_10 : decode jdk_68_method_22_code 10 = .ok (.invokevirtual 32, 3) := by decide +kernel
theorem pd___I : parseMethodDescriptor "()I" = some ⟨[], some .int⟩ := by decide +kernel
theorem d_jdk_68_method_22_13 : decode jdk_68_method_22_code 13 = .ok (.istore_n 2, 1) := by decide +kernel
theorem d_jdk_68_method_22_14 : decode jdk_68_method_22_code 14 = .ok (.aload_n 0, 1) := by decide +kernel
theorem d_jdk_68_method_22_15 : decode jdk_68_method_22_code 15 = .ok (.aload_n 0, 1) := by decide +kernel
theorem d_jdk_68_method_22_16 : decode jdk_68_method_22_code 16 = .ok (.getfield 79, 3) := by decide +kernel
theorem d_jdk_68_method_22_19 : decode jdk_68_method_22_code 19 = .ok (.iload_n 2, 1) := by decide +kernel
theorem d_jdk_68_method_22_20 : decode jdk_68_method_22_code 20 = .ok (.iadd, 1) := by decide +kernel
theorem d_jdk_68_method_22_21 : decode jdk_68_method_22_code 21 = .ok (.invokevirtual 100, 3) := by decide +kernel
theorem d_jdk_68_method_22_24 : decode jdk_68_method_22_code 24 = .ok (.aload_n 0, 1) := by decide +kernel
theorem d_jdk_68_method_22_25 : decode jdk_68_method_22_code 25 = .ok (.aload_n 0, 1) := by decide +kernel
theorem d_jdk_68_method_22_26 : decode jdk_68_method_22_code 26 = .ok (.getfield 79, 3) := by decide +kernel
theorem d_jdk_68_method_22_29 : decode jdk_68_method_22_code 29 = .ok (.aload_n 1, 1) := by decide +kernel
theorem d_jdk_68_method_22_30 : decode jdk_68_method_22_code 30 = .ok (.invokevirtual 208, 3) := by decide +kernel
theorem pd__ILjava_lang_String__V : parseMethodDescriptor "(ILjava/lang/String;)V" = some ⟨[.int, (.object "java/lang/String")], none⟩ := by decide +kernel
theorem d_jdk_68_method_22_33 : decode jdk_68_method_22_code 33 = .ok (.aload_n 0, 1) := by decide +kernel
theorem d_jdk_68_method_22_34 : decode jdk_68_method_22_code 34 = .ok (.dup, 1) := by decide +kernel
theorem d_jdk_68_method_22_35 : decode jdk_68_method_22_code 35 = .ok (.getfield 79, 3) := by decide +kernel
theorem d_jdk_68_method_22_38 : decode jdk_68_method_22_code 38 = .ok (.iload_n 2, 1) := by decide +kernel
theorem d_jdk_68_method_22_39 : decode jdk_68_method_22_code 39 = .ok (.iadd, 1) := by decide +kernel
theorem d_jdk_68_method_22_40 : decode jdk_68_method_22_code 40 = .ok (.putfield 79, 3) := by decide +kernel
theorem d_jdk_68_method_22_43 : decode jdk_68_method_22_code 43 = .ok (.aload_n 0, 1) := by decide +kernel
theorem d_jdk_68_method_22_44 : decode jdk_68_method_22_code 44 = .ok (.areturn, 1) := by decide +kernel
theorem d_jdk_67_method_7_0 : decode jdk_67_method_7_code 0 = .ok (.aload_n 0, 1) := by decide +kernel
theorem d_jdk_67_method_7_1 : decode jdk_67_method_7_code 1 = .ok (.aload_n 1, 1) := by decide +kernel
theorem d_jdk_67_method_7_2 : decode jdk_67_method_7_code 2 = .ok (.invokespecial 29, 3) := by decide +kernel
theorem pd__Ljava_lang_String__Ljava_lang_AbstractStringBuilder_ : parseMethodDescriptor "(Ljava/lang/String;)Ljava/lang/AbstractStringBuilder;" = some ⟨[(.object "java/lang/String")], some (.object "java/lang/AbstractStringBuilder")⟩ := by decide +kernel
theorem d_jdk_67_method_7_5 : decode jdk_67_method_7_code 5 = .ok (.pop, 1) := by decide +kernel
theorem d_jdk_67_method_7_6 : decode jdk_67_method_7_code 6 = .ok (.aload_n 0, 1) := by decide +kernel
theorem d_jdk_67_method_7_7 : decode jdk_67_method_7_code 7 = .ok (.areturn, 1) := by decide +kernel
theorem d_jdk_68_method_64_0 : decode jdk_68_method_64_code 0 = .ok (.aload_n 0, 1) := by decide +kernel
theorem d_jdk_68_method_64_1 : decode jdk_68_method_64_code 1 = .ok (.getfield 15, 3) := by decide +kernel
theorem d_jdk_68_method_64_4 : decode jdk_68_method_64_code 4 = .ok (.areturn, 1) := by decide +kernel
theorem d_jdk_68_method_6_0 : decode jdk_68_method_6_code 0 = .ok (.aload_n 0, 1) := by decide +kernel
theorem d_jdk_68_method_6_1 : decode jdk_68_method_6_code 1 = .ok (.getfield 79, 3) := by decide +kernel
theorem d_jdk_68_method_6_4 : decode jdk_68_method_6_code 4 = .ok (.ireturn, 1) := by decide +kernel
theorem d_jdk_67_method_93_0 : decode jdk_67_method_93_code 0 = .ok (.aload_n 0, 1) := by decide +kernel
theorem d_jdk_67_method_93_1 : decode jdk_67_method_93_code 1 = .ok (.invokespecial 343, 3) := by decide +kernel
theorem d_jdk_67_method_93_4 : decode jdk_67_method_93_code 4 = .ok (.ireturn, 1) := by decide +kernel
theorem d_jdk_68_method_68_0 : decode jdk_68_method_68_code 0 = .ok (.getstatic 18, 3) := by decide +kernel
theorem d_jdk_68_method_68_3 : decode jdk_68_method_68_code 3 = .ok (.ifCond .eq 14, 3) := by decide +kernel
theorem d_jdk_68_method_68_6 : decode jdk_68_method_68_code 6 = .ok (.aload_n 0, 1) := by decide +kernel
theorem d_jdk_68_method_68_7 : decode jdk_68_method_68_code 7 = .ok (.getfield 22, 3) := by decide +kernel
theorem d_jdk_68_method_68_10 : decode jdk_68_method_68_code 10 = .ok (.ifCond .ne 7, 3) := by decide +kernel
theorem d_jdk_68_method_68_13 : decode jdk_68_method_68_code 13 = .ok (.iconst 1, 1) := by decide +kernel
theorem d_jdk_68_method_68_14 : decode jdk_68_method_68_code 14 = .ok (.goto 4, 3) := by decide +kernel
theorem d_jdk_68_method_68_18 : decode jdk_68_method_68_code 18 = .ok (.ireturn, 1) := by decide +kernel
theorem d_jdk_65_method_131_0 : decode jdk_65_method_131_code 0 = .ok (.iload_n 1, 1) := by decide +kernel
theorem d_jdk_65_method_131_1 : decode jdk_65_method_131_code 1 = .ok (.iload_n 0, 1) := by decide +kernel
theorem d_jdk_65_method_131_2 : decode jdk_65_method_131_code 2 = .ok (.if_icmp .ge 35, 3) := by decide +kernel
theorem d_jdk_65_method_131_37 : decode jdk_65_method_131_code 37 = .ok (.return_, 1) := by decide +kernel
theorem d_jdk_65_method_133_0 : decode jdk_65_method_133_code 0 = .ok (.iload_n 1, 1) := by decide +kernel
theorem d_jdk_65_method_133_1 : decode jdk_65_method_133_code 1 = .ok (.iload_n 2, 1) := by decide +kernel
theorem d_jdk_65_method_133_2 : decode jdk_65_method_133_code 2 = .ok (.invokestatic 343, 3) := by decide +kernel
theorem pd__II_V : parseMethodDescriptor "(II)V" = some ⟨[.int, .int], none⟩ := by decide +kernel
theorem d_jdk_65_method_133_5 : decode jdk_65_method_133_code 5 = .ok (.iload_n 2, 1) := by decide +kernel
theorem d_jdk_65_method_133_6 : decode jdk_65_method_133_code 6 = .ok (.iload_n 1, 1) := by decide +kernel
theorem d_jdk_65_method_133_7 : decode jdk_65_method_133_code 7 = .ok (.isub, 1) := by decide +kernel
theorem d_jdk_65_method_133_8 : decode jdk_65_method_133_code 8 = .ok (.istore_n 3, 1) := by decide +kernel
theorem d_jdk_65_method_133_9 : decode jdk_65_method_133_code 9 = .ok (.iload_n 3, 1) := by decide +kernel
theorem d_jdk_65_method_133_10 : decode jdk_65_method_133_code 10 = .ok (.newarray .byte, 2) := by decide +kernel
theorem d_jdk_65_method_133_12 : decode jdk_65_method_133_code 12 = .ok (.astore 4, 2) := by decide +kernel
theorem d_jdk_65_method_133_14 : decode jdk_65_method_133_code 14 = .ok (.aload_n 0, 1) := by decide +kernel
theorem d_jdk_65_method_133_15 : decode jdk_65_method_133_code 15 = .ok (.iload_n 1, 1) := by decide +kernel
theorem d_jdk_65_method_133_16 : decode jdk_65_method_133_code 16 = .ok (.aload 4, 2) := by decide +kernel
theorem d_jdk_65_method_133_18 : decode jdk_65_method_133_code 18 = .ok (.iconst 0, 1) := by decide +kernel
theorem d_jdk_65_method_133_19 : decode jdk_65_method_133_code 19 = .ok (.aload_n 0, 1) := by decide +kernel
theorem d_jdk_65_method_133_20 : decode jdk_65_method_133_code 20 = .ok (.arraylength, 1) := by decide +kernel
theorem d_jdk_65_method_133_21 : decode jdk_65_method_133_code 21 = .ok (.iload_n 1, 1) := by decide +kernel
theorem d_jdk_65_method_133_22 : decode jdk_65_method_133_code 22 = .ok (.isub, 1) := by decide +kernel
theorem d_jdk_65_method_133_23 : decode jdk_65_method_133_code 23 = .ok (.iload_n 3, 1) := by decide +kernel
theorem d_jdk_65_method_133_24 : decode jdk_65_method_133_code 24 = .ok (.invokestatic 304, 3) := by decide +kernel
theorem d_jdk_65_method_133_27 : decode jdk_65_method_133_code 27 = .ok (.invokestatic 150, 3) := by decide +kernel
theorem d_jdk_65_method_133_30 : decode jdk_65_method_133_code 30 = .ok (.aload 4, 2) := by decide +kernel
theorem d_jdk_65_method_133_32 : decode jdk_65_method_133_code 32 = .ok (.areturn, 1) := by decide +kernel
theorem d_jdk_65_method_132_0 : decode jdk_65_method_132_code 0 = .ok (.iload_n 1, 1) := by decide +kernel
theorem d_jdk_65_method_132_1 : decode jdk_65_method_132_code 1 = .ok (.ifCond .ne 9, 3) := by decide +kernel
theorem d_jdk_65_method_132_4 : decode jdk_65_method_132_code 4 = .ok (.iload_n 2, 1) := by decide +kernel
theorem d_jdk_65_method_132_5 : decode jdk_65_method_132_code 5 = .ok (.aload_n 0, 1) := by decide +kernel
theorem d_jdk_65_method_132_6 : decode jdk_65_method_132_code 6 = .ok (.arraylength, 1) := by decide +kernel
theorem d_jdk_65_method_132_7 : decode jdk_65_method_132_code 7 = .ok (.if_icmp .eq 10, 3) := by decide +kernel
theorem d_jdk_65_method_132_17 : decode jdk_65_method_132_code 17 = .ok (.aload_n 0, 1) := by decide +kernel
theorem d_jdk_65_method_132_18 : decode jdk_65_method_132_code 18 = .ok (.invokevirtual 310, 3) := by decide +kernel
theorem d_jdk_65_method_132_21 : decode jdk_65_method_132_code 21 = .ok (.checkcast 311, 3) := by decide +kernel
theorem d_jdk_65_method_132_24 : decode jdk_65_method_132_code 24 = .ok (.areturn, 1) := by decide +kernel
theorem d_jdk_65_method_132_10 : decode jdk_65_method_132_code 10 = .ok (.aload_n 0, 1) := by decide +kernel
theorem d_jdk_65_method_132_11 : decode jdk_65_method_132_code 11 = .ok (.iload_n 1, 1) := by decide +kernel
theorem d_jdk_65_method_132_12 : decode jdk_65_method_132_code 12 = .ok (.iload_n 2, 1) := by decide +kernel
theorem d_jdk_65_method_132_13 : decode jdk_65_method_132_code 13 = .ok (.invokestatic 339, 3) := by decide +kernel
theorem pd___BII__B : parseMethodDescriptor "([BII)[B" = some ⟨[(.array .byte), .int, .int], some (.array .byte)⟩ := by decide +kernel
theorem d_jdk_65_method_132_16 : decode jdk_65_method_132_code 16 = .ok (.areturn, 1) := by decide +kernel
theorem d_jdk_42_method_150_0 : decode jdk_42_method_150_code 0 = .ok (.aload_n 0, 1) := by decide +kernel
theorem d_jdk_42_method_150_1 : decode jdk_42_method_150_code 1 = .ok (.invokespecial 1, 3) := by decide +kernel
theorem d_jdk_42_method_150_4 : decode jdk_42_method_150_code 4 = .ok (.aload_n 1, 1) := by decide +kernel
theorem d_jdk_42_method_150_5 : decode jdk_42_method_150_code 5 = .ok (.invokevirtual 552, 3) := by decide +kernel
theorem pd____B : parseMethodDescriptor "()[B" = some ⟨[], some (.array .byte)⟩ := by decide +kernel
theorem d_jdk_42_method_150_8 : decode jdk_42_method_150_code 8 = .ok (.astore_n 3, 1) := by decide +kernel
theorem d_jdk_42_method_150_9 : decode jdk_42_method_150_code 9 = .ok (.aload_n 1, 1) := by decide +kernel
theorem d_jdk_42_method_150_10 : decode jdk_42_method_150_code 10 = .ok (.invokevirtual 549, 3) := by decide +kernel
theorem d_jdk_42_method_150_13 : decode jdk_42_method_150_code 13 = .ok (.istore 4, 2) := by decide +kernel
theorem d_jdk_42_method_150_15 : decode jdk_42_method_150_code 15 = .ok (.aload_n 1, 1) := by decide +kernel
theorem d_jdk_42_method_150_16 : decode jdk_42_method_150_code 16 = .ok (.invokevirtual 1047, 3) := by decide +kernel
theorem pd___Z : parseMethodDescriptor "()Z" = some ⟨[], some .boolean⟩ := by decide +kernel
theorem d_jdk_42_method_150_19 : decode jdk_42_method_150_code 19 = .ok (.ifCond .eq 22, 3) := by decide +kernel
theorem d_jdk_42_method_150_22 : decode jdk_42_method_150_code 22 = .ok (.aload_n 0, 1) := by decide +kernel
theorem d_jdk_42_method_150_23 : decode jdk_42_method_150_code 23 = .ok (.iconst 0, 1) := by decide +kernel
theorem d_jdk_42_method_150_24 : decode jdk_42_method_150_code 24 = .ok (.putfield 15, 3) := by decide +kernel
theorem d_jdk_42_method_150_27 : decode jdk_42_method_150_code 27 = .ok (.aload_n 0, 1) := by decide +kernel
theorem d_jdk_42_method_150_28 : decode jdk_42_method_150_code 28 = .ok (.aload_n 3, 1) := by decide +kernel
theorem d_jdk_42_method_150_29 : decode jdk_42_method_150_code 29 = .ok (.iconst 0, 1) := by decide +kernel
theorem d_jdk_42_method_150_30 : decode jdk_42_method_150_code 30 = .ok (.iload 4, 2) := by decide +kernel
theorem d_jdk_42_method_150_32 : decode jdk_42_method_150_code 32 = .ok (.invokestatic 54, 3) := by decide +kernel
theorem d_jdk_42_method_150_35 : decode jdk_42_method_150_code 35 = .ok (.putfield 9, 3) := by decide +kernel
theorem d_jdk_42_method_150_38 : decode jdk_42_method_150_code 38 = .ok (.goto 59, 3) := by decide +kernel
theorem d_jdk_42_method_150_97 : decode jdk_42_method_150_code 97 = .ok (.return_, 1) := by decide +kernel
theorem d_jdk_42_method_53_0 : decode jdk_42_method_53_code 0 = .ok (.aload_n 0, 1) := by decide +kernel
theorem d_jdk_42_method_53_1 : decode jdk_42_method_53_code 1 = .ok (.aload_n 1, 1) := by decide +kernel
theorem d_jdk_42_method_53_2 : decode jdk_42_method_53_code 2 = .ok (.aconst_null, 1) := by decide +kernel
theorem d_jdk_42_method_53_3 : decode jdk_42_method_53_code 3 = .ok (.invokespecial 489, 3) := by decide +kernel
theorem pd__Ljava_lang_AbstractStringBuilder_Ljava_lang_Void__V : parseMethodDescriptor "(Ljava/lang/AbstractStringBuilder;Ljava/lang/Void;)V" = some ⟨[(.object "java/lang/AbstractStringBuilder"), (.object "java/lang/Void")], none⟩ := by decide +kernel
theorem d_jdk_42_method_53_6 : decode jdk_42_method_53_code 6 = .ok (.return_, 1) := by decide +kernel
theorem d_jdk_67_method_42_0 : decode jdk_67_method_42_code 0 = .ok (.new 18, 3) := by decide +kernel
theorem d_jdk_67_method_42_3 : decode jdk_67_method_42_code 3 = .ok (.dup, 1) := by decide +kernel
theorem d_jdk_67_method_42_4 : decode jdk_67_method_42_code 4 = .ok (.aload_n 0, 1) := by decide +kernel
theorem d_jdk_67_method_42_5 : decode jdk_67_method_42_code 5 = .ok (.invokespecial 137, 3) := by decide +kernel
theorem pd__Ljava_lang_StringBuilder__V : parseMethodDescriptor "(Ljava/lang/StringBuilder;)V" = some ⟨[(.object "java/lang/StringBuilder")], none⟩ := by decide +kernel
theorem d_jdk_67_method_42_8 : decode jdk_67_method_42_code 8 = .ok (.areturn, 1) := by decide +kernel
theorem d_jdk_30_method_1_0 : decode jdk_30_method_1_code 0 = .ok (.aload_n 0, 1) := by decide +kernel
theorem d_jdk_30_method_1_1 : decode jdk_30_method_1_code 1 = .ok (.invokespecial 1, 3) := by decide +kernel
theorem d_jdk_30_method_1_4 : decode jdk_30_method_1_code 4 = .ok (.return_, 1) := by decide +kernel
theorem pn_java_lang_Record : plainName "java/lang/Record" = true := by first | (simp [plainName, overriddenIn]; done) | decide +kernel
theorem d_prog_9_method_1_0 : decode prog_9_method_1_code 0 = .ok (.aload_n 0, 1) := by decide +kernel
theorem d_prog_9_method_1_1 : decode prog_9_method_1_code 1 = .ok (.invokespecial 1, 3) := by decide +kernel
theorem pd___V : parseMethodDescriptor "()V" = some ⟨[], none⟩ := by decide +kernel
theorem d_prog_9_method_1_4 : decode prog_9_method_1_code 4 = .ok (.aload_n 0, 1) := by decide +kernel
theorem d_prog_9_method_1_5 : decode prog_9_method_1_code 5 = .ok (.aload_n 1, 1) := by decide +kernel
theorem d_prog_9_method_1_6 : decode prog_9_method_1_code 6 = .ok (.putfield 7, 3) := by decide +kernel
theorem d_prog_9_method_1_9 : decode prog_9_method_1_code 9 = .ok (.aload_n 0, 1) := by decide +kernel
theorem d_prog_9_method_1_10 : decode prog_9_method_1_code 10 = .ok (.aload_n 2, 1) := by decide +kernel
theorem d_prog_9_method_1_11 : decode prog_9_method_1_code 11 = .ok (.putfield 13, 3) := by decide +kernel
theorem d_prog_9_method_1_14 : decode prog_9_method_1_code 14 = .ok (.aload_n 0, 1) := by decide +kernel
theorem d_prog_9_method_1_15 : decode prog_9_method_1_code 15 = .ok (.aload_n 3, 1) := by decide +kernel
theorem d_prog_9_method_1_16 : decode prog_9_method_1_code 16 = .ok (.putfield 16, 3) := by decide +kernel
theorem d_prog_9_method_1_19 : decode prog_9_method_1_code 19 = .ok (.return_, 1) := by decide +kernel
theorem pn_com_example_kindling_kindling_Environment_Value : plainName "com/example/kindling/kindling/Environment$Value" = true := by first | (simp [plainName, overriddenIn]; done) | decide +kernel
theorem d_prog_9_method_2_0 : decode prog_9_method_2_code 0 = .ok (.new 19, 3) := by decide +kernel
theorem d_prog_9_method_2_3 : decode prog_9_method_2_code 3 = .ok (.dup, 1) := by decide +kernel
theorem d_prog_9_method_2_4 : decode prog_9_method_2_code 4 = .ok (.invokespecial 21, 3) := by decide +kernel
theorem d_prog_9_method_2_7 : decode prog_9_method_2_code 7 = .ok (.aload_n 0, 1) := by decide +kernel
theorem d_prog_9_method_2_8 : decode prog_9_method_2_code 8 = .ok (.getfield 7, 3) := by decide +kernel
theorem d_prog_9_method_2_11 : decode prog_9_method_2_code 11 = .ok (.invokevirtual 22, 3) := by decide +kernel
theorem pd__Ljava_lang_String__Ljava_lang_StringBuilder_ : parseMethodDescriptor "(Ljava/lang/String;)Ljava/lang/StringBuilder;" = some ⟨[(.object "java/lang/String")], some (.object "java/lang/StringBuilder")⟩ := by decide +kernel
theorem d_prog_9_method_2_14 : decode prog_9_method_2_code 14 = .ok (.ldc 26, 2) := by decide +kernel
theorem d_prog_9_method_2_16 : decode prog_9_method_2_code 16 = .ok (.invokevirtual 22, 3) := by decide +kernel
theorem d_prog_9_method_2_19 : decode prog_9_method_2_code 19 = .ok (.aload_n 0, 1) := by decide +kernel
theorem d_prog_9_method_2_20 : decode prog_9_method_2_code 20 = .ok (.getfield 13, 3) := by decide +kernel
theorem d_prog_9_method_2_23 : decode prog_9_method_2_code 23 = .ok (.invokevirtual 22, 3) := by decide +kernel
theorem d_prog_9_method_2_26 : decode prog_9_method_2_code 26 = .ok (.ldc 28, 2) := by decide +kernel
theorem d_prog_9_method_2_28 : decode prog_9_method_2_code 28 = .ok (.invokevirtual 22, 3) := by decide +kernel
theorem d_prog_9_method_2_31 : decode prog_9_method_2_code 31 = .ok (.aload_n 0, 1) := by decide +kernel
theorem d_prog_9_method_2_32 : decode prog_9_method_2_code 32 = .ok (.getfield 16, 3) := by decide +kernel
theorem d_prog_9_method_2_35 : decode prog_9_method_2_code 35 = .ok (.invokevirtual 22, 3) := by decide +kernel
theorem d_prog_9_method_2_38 : decode prog_9_method_2_code 38 = .ok (.ldc 30, 2) := by decide +kernel
theorem d_prog_9_method_2_40 : decode prog_9_method_2_code 40 = .ok (.invokevirtual 22, 3) := by decide +kernel
theorem d_prog_9_method_2_43 : decode prog_9_method_2_code 43 = .ok (.invokevirtual 32, 3) := by decide +kernel
theorem pd___Ljava_lang_String_ : parseMethodDescriptor "()Ljava/lang/String;" = some ⟨[], some (.object "java/lang/String")⟩ := by decide +kernel
theorem d_prog_9_method_2_46 : decode prog_9_method_2_code 46 = .ok (.areturn, 1) := by decide +kernel
theorem d_method_2_0 : decode method_2_code 0 = .ok (.iload_n 0, 1) := by decide +kernel
theorem d_method_2_1 : decode method_2_code 1 = .ok (.bipush 24, 2) := by decide +kernel
theorem d_method_2_3 : decode method_2_code 3 = .ok (.iushr, 1) := by decide +kernel
theorem d_method_2_4 : decode method_2_code 4 = .ok (.sipush 255, 3) := by decide +kernel
theorem d_method_2_7 : decode method_2_code 7 = .ok (.iand, 1) := by decide +kernel
theorem d_method_2_8 : decode method_2_code 8 = .ok (.iconst 4, 1) := by decide +kernel
theorem d_method_2_9 : decode method_2_code 9 = .ok (.irem, 1) := by decide +kernel
theorem d_method_2_10 : decode method_2_code 10 = .ok (.istore_n 1, 1) := by decide +kernel
theorem d_method_2_11 : decode method_2_code 11 = .ok (.iload_n 1, 1) := by decide +kernel
theorem d_method_2_12 : decode method_2_code 12 = .ok (.newarray .char, 2) := by decide +kernel
theorem d_method_2_14 : decode method_2_code 14 = .ok (.astore_n 2, 1) := by decide +kernel
theorem d_method_2_15 : decode method_2_code 15 = .ok (.iload_n 1, 1) := by decide +kernel
theorem d_method_2_16 : decode method_2_code 16 = .ok (.ifCond .le 12, 3) := by decide +kernel
theorem d_method_2_28 : decode method_2_code 28 = .ok (.iload_n 1, 1) := by decide +kernel
theorem d_method_2_29 : decode method_2_code 29 = .ok (.iconst 1, 1) := by decide +kernel
theorem d_method_2_30 : decode method_2_code 30 = .ok (.if_icmp .le 15, 3) := by decide +kernel
theorem d_method_2_45 : decode method_2_code 45 = .ok (.iload_n 1, 1) := by decide +kernel
theorem d_method_2_46 : decode method_2_code 46 = .ok (.iconst 2, 1) := by decide +kernel
theorem d_method_2_47 : decode method_2_code 47 = .ok (.if_icmp .le 15, 3) := by decide +kernel
theorem d_method_2_62 : decode method_2_code 62 = .ok (.new 7, 3) := by decide +kernel
theorem d_method_2_65 : decode method_2_code 65 = .ok (.dup, 1) := by decide +kernel
theorem d_method_2_66 : decode method_2_code 66 = .ok (.aload_n 2, 1) := by decide +kernel
theorem d_method_2_67 : decode method_2_code 67 = .ok (.invokespecial 9, 3) := by decide +kernel
theorem pd___C_V : parseMethodDescriptor "([C)V" = some ⟨[(.array .char)], none⟩ := by decide +kernel
theorem d_method_2_70 : decode method_2_code 70 = .ok (.areturn, 1) := by decide +kernel
theorem d_method_2_19 : decode method_2_code 19 = .ok (.aload_n 2, 1) := by decide +kernel
theorem d_method_2_20 : decode method_2_code 20 = .ok (.iconst 0, 1) := by decide +kernel
theorem d_method_2_21 : decode method_2_code 21 = .ok (.iload_n 0, 1) := by decide +kernel
theorem d_method_2_22 : decode method_2_code 22 = .ok (.sipush 255, 3) := by decide +kernel
theorem d_method_2_25 : decode method_2_code 25 = .ok (.iand, 1) := by decide +kernel
theorem d_method_2_26 : decode method_2_code 26 = .ok (.i2c, 1) := by decide +kernel
theorem d_method_2_27 : decode method_2_code 27 = .ok (.castore, 1) := by decide +kernel
theorem d_method_2_33 : decode method_2_code 33 = .ok (.aload_n 2, 1) := by decide +kernel
theorem d_method_2_34 : decode method_2_code 34 = .ok (.iconst 1, 1) := by decide +kernel
theorem d_method_2_35 : decode method_2_code 35 = .ok (.iload_n 0, 1) := by decide +kernel
theorem d_method_2_36 : decode method_2_code 36 = .ok (.bipush 8, 2) := by decide +kernel
theorem d_method_2_38 : decode method_2_code 38 = .ok (.iushr, 1) := by decide +kernel
theorem d_method_2_39 : decode method_2_code 39 = .ok (.sipush 255, 3) := by decide +kernel
theorem d_method_2_42 : decode method_2_code 42 = .ok (.iand, 1) := by decide +kernel
theorem d_method_2_43 : decode method_2_code 43 = .ok (.i2c, 1) := by decide +kernel
theorem d_method_2_44 : decode method_2_code 44 = .ok (.castore, 1) := by decide +kernel
theorem d_method_2_50 : decode method_2_code 50 = .ok (.aload_n 2, 1) := by decide +kernel
theorem d_method_2_51 : decode method_2_code 51 = .ok (.iconst 2, 1) := by decide +kernel
theorem d_method_2_52 : decode method_2_code 52 = .ok (.iload_n 0, 1) := by decide +kernel
theorem d_method_2_53 : decode method_2_code 53 = .ok (.bipush 16, 2) := by decide +kernel
theorem d_method_2_55 : decode method_2_code 55 = .ok (.iushr, 1) := by decide +kernel
theorem d_method_2_56 : decode method_2_code 56 = .ok (.sipush 255, 3) := by decide +kernel
theorem d_method_2_59 : decode method_2_code 59 = .ok (.iand, 1) := by decide +kernel
theorem d_method_2_60 : decode method_2_code 60 = .ok (.i2c, 1) := by decide +kernel
theorem d_method_2_61 : decode method_2_code 61 = .ok (.castore, 1) := by decide +kernel
theorem pn_com_example_kindling_kindling_ValueDescribedPinLaw : plainName "com/example/kindling/kindling/ValueDescribedPinLaw" = true := by first | (simp [plainName, overriddenIn]; done) | decide +kernel
theorem d_jdk_41_method_11_0 : decode jdk_41_method_11_code 0 = .ok (.iload_n 0, 1) := by decide +kernel
theorem d_jdk_41_method_11_1 : decode jdk_41_method_11_code 1 = .ok (.ifCond .lt 8, 3) := by decide +kernel
theorem d_jdk_41_method_11_4 : decode jdk_41_method_11_code 4 = .ok (.iload_n 0, 1) := by decide +kernel
theorem d_jdk_41_method_11_5 : decode jdk_41_method_11_code 5 = .ok (.iload_n 1, 1) := by decide +kernel
theorem d_jdk_41_method_11_6 : decode jdk_41_method_11_code 6 = .ok (.if_icmp .lt 10, 3) := by decide +kernel
theorem d_jdk_41_method_11_16 : decode jdk_41_method_11_code 16 = .ok (.iload_n 0, 1) := by decide +kernel
theorem d_jdk_41_method_11_17 : decode jdk_41_method_11_code 17 = .ok (.ireturn, 1) := by decide +kernel
theorem pn_jdk_internal_util_Preconditions : plainName "jdk/internal/util/Preconditions" = true := by first | (simp [plainName, overriddenIn]; done) | decide +kernel
theorem d_jdk_42_method_155_0 : decode jdk_42_method_155_code 0 = .ok (.iload_n 0, 1) := by decide +kernel
theorem d_jdk_42_method_155_1 : decode jdk_42_method_155_code 1 = .ok (.iload_n 1, 1) := by decide +kernel
theorem d_jdk_42_method_155_2 : decode jdk_42_method_155_code 2 = .ok (.getstatic 1053, 3) := by decide +kernel
theorem d_jdk_42_method_155_5 : decode jdk_42_method_155_code 5 = .ok (.invokestatic 1059, 3) := by decide +kernel
theorem pd__IILjava_util_function_BiFunction__I : parseMethodDescriptor "(IILjava/util/function/BiFunction;)I" = some ⟨[.int, .int, (.object "java/util/function/BiFunction")], some .int⟩ := by decide +kernel
theorem d_jdk_42_method_155_8 : decode jdk_42_method_155_code 8 = .ok (.pop, 1) := by decide +kernel
theorem d_jdk_42_method_155_9 : decode jdk_42_method_155_code 9 = .ok (.return_, 1) := by decide +kernel
theorem d_jdk_43_method_2_0 : decode jdk_43_method_2_code 0 = .ok (.iload_n 1, 1) := by decide +kernel
theorem d_jdk_43_method_2_1 : decode jdk_43_method_2_code 1 = .ok (.aload_n 0, 1) := by decide +kernel
theorem d_jdk_43_method_2_2 : decode jdk_43_method_2_code 2 = .ok (.arraylength, 1) := by decide +kernel
theorem d_jdk_43_method_2_3 : decode jdk_43_method_2_code 3 = .ok (.invokestatic 9, 3) := by decide +kernel
theorem d_jdk_43_method_2_6 : decode jdk_43_method_2_code 6 = .ok (.aload_n 0, 1) := by decide +kernel
theorem d_jdk_43_method_2_7 : decode jdk_43_method_2_code 7 = .ok (.iload_n 1, 1) := by decide +kernel
theorem d_jdk_43_method_2_8 : decode jdk_43_method_2_code 8 = .ok (.baload, 1) := by decide +kernel
theorem d_jdk_43_method_2_9 : decode jdk_43_method_2_code 9 = .ok (.sipush 255, 3) := by decide +kernel
theorem d_jdk_43_method_2_12 : decode jdk_43_method_2_code 12 = .ok (.iand, 1) := by decide +kernel
theorem d_jdk_43_method_2_13 : decode jdk_43_method_2_code 13 = .ok (.i2c, 1) := by decide +kernel
theorem d_jdk_43_method_2_14 : decode jdk_43_method_2_code 14 = .ok (.ireturn, 1) := by decide +kernel
theorem d_jdk_42_method_56_0 : decode jdk_42_method_56_code 0 = .ok (.aload_n 0, 1) := by decide +kernel
theorem d_jdk_42_method_56_1 : decode jdk_42_method_56_code 1 = .ok (.invokevirtual 492, 3) := by decide +kernel
theorem d_jdk_42_method_56_4 : decode jdk_42_method_56_code 4 = .ok (.ifCond .eq 12, 3) := by decide +kernel
theorem d_jdk_42_method_56_7 : decode jdk_42_method_56_code 7 = .ok (.aload_n 0, 1) := by decide +kernel
theorem d_jdk_42_method_56_8 : decode jdk_42_method_56_code 8 = .ok (.getfield 9, 3) := by decide +kernel
theorem d_jdk_42_method_56_11 : decode jdk_42_method_56_code 11 = .ok (.iload_n 1, 1) := by decide +kernel
theorem d_jdk_42_method_56_12 : decode jdk_42_method_56_code 12 = .ok (.invokestatic 495, 3) := by decide +kernel
theorem pd___BI_C : parseMethodDescriptor "([BI)C" = some ⟨[(.array .byte), .int], some .char⟩ := by decide +kernel
theorem d_jdk_42_method_56_15 : decode jdk_42_method_56_code 15 = .ok (.ireturn, 1) := by decide +kernel
theorem d_method_3_0 : decode method_3_code 0 = .ok (.aload_n 2, 1) := by decide +kernel
theorem d_method_3_1 : decode method_3_code 1 = .ok (.invokevirtual 12, 3) := by decide +kernel
theorem d_method_3_4 : decode method_3_code 4 = .ok (.istore_n 3, 1) := by decide +kernel
theorem d_method_3_5 : decode method_3_code 5 = .ok (.iload_n 3, 1) := by decide +kernel
theorem d_method_3_6 : decode method_3_code 6 = .ok (.ifCond .le 11, 3) := by decide +kernel
theorem d_method_3_17 : decode method_3_code 17 = .ok (.iload_n 3, 1) := by decide +kernel
theorem d_method_3_18 : decode method_3_code 18 = .ok (.iconst 1, 1) := by decide +kernel
theorem d_method_3_19 : decode method_3_code 19 = .ok (.if_icmp .le 13, 3) := by decide +kernel
theorem d_method_3_32 : decode method_3_code 32 = .ok (.iload_n 3, 1) := by decide +kernel
theorem d_method_3_33 : decode method_3_code 33 = .ok (.iconst 2, 1) := by decide +kernel
theorem d_method_3_34 : decode method_3_code 34 = .ok (.if_icmp .le 13, 3) := by decide +kernel
theorem d_method_3_47 : decode method_3_code 47 = .ok (.iload_n 1, 1) := by decide +kernel
theorem d_method_3_48 : decode method_3_code 48 = .ok (.iload_n 3, 1) := by decide +kernel
theorem d_method_3_49 : decode method_3_code 49 = .ok (.iadd, 1) := by decide +kernel
theorem d_method_3_50 : decode method_3_code 50 = .ok (.ireturn, 1) := by decide +kernel
theorem d_method_3_9 : decode method_3_code 9 = .ok (.aload_n 0, 1) := by decide +kernel
theorem d_method_3_10 : decode method_3_code 10 = .ok (.iload_n 1, 1) := by decide +kernel
theorem d_method_3_11 : decode method_3_code 11 = .ok (.aload_n 2, 1) := by decide +kernel
theorem d_method_3_12 : decode method_3_code 12 = .ok (.iconst 0, 1) := by decide +kernel
theorem d_method_3_13 : decode method_3_code 13 = .ok (.invokevirtual 16, 3) := by decide +kernel
theorem pd__I_C : parseMethodDescriptor "(I)C" = some ⟨[.int], some .char⟩ := by decide +kernel
theorem d_method_3_16 : decode method_3_code 16 = .ok (.castore, 1) := by decide +kernel
theorem d_method_3_22 : decode method_3_code 22 = .ok (.aload_n 0, 1) := by decide +kernel
theorem d_method_3_23 : decode method_3_code 23 = .ok (.iload_n 1, 1) := by decide +kernel
theorem d_method_3_24 : decode method_3_code 24 = .ok (.iconst 1, 1) := by decide +kernel
theorem d_method_3_25 : decode method_3_code 25 = .ok (.iadd, 1) := by decide +kernel
theorem d_method_3_26 : decode method_3_code 26 = .ok (.aload_n 2, 1) := by decide +kernel
theorem d_method_3_27 : decode method_3_code 27 = .ok (.iconst 1, 1) := by decide +kernel
theorem d_method_3_28 : decode method_3_code 28 = .ok (.invokevirtual 16, 3) := by decide +kernel
theorem d_method_3_31 : decode method_3_code 31 = .ok (.castore, 1) := by decide +kernel
theorem d_method_3_37 : decode method_3_code 37 = .ok (.aload_n 0, 1) := by decide +kernel
theorem d_method_3_38 : decode method_3_code 38 = .ok (.iload_n 1, 1) := by decide +kernel
theorem d_method_3_39 : decode method_3_code 39 = .ok (.iconst 2, 1) := by decide +kernel
theorem d_method_3_40 : decode method_3_code 40 = .ok (.iadd, 1) := by decide +kernel
theorem d_method_3_41 : decode method_3_code 41 = .ok (.aload_n 2, 1) := by decide +kernel
theorem d_method_3_42 : decode method_3_code 42 = .ok (.iconst 2, 1) := by decide +kernel
theorem d_method_3_43 : decode method_3_code 43 = .ok (.invokevirtual 16, 3) := by decide +kernel
theorem d_method_3_46 : decode method_3_code 46 = .ok (.castore, 1) := by decide +kernel
theorem pd__I_Ljava_lang_String_ : parseMethodDescriptor "(I)Ljava/lang/String;" = some ⟨[.int], some (.object "java/lang/String")⟩ := by decide +kernel
theorem pd__Ljava_lang_String_Ljava_lang_String_Ljava_lang_String__V : parseMethodDescriptor "(Ljava/lang/String;Ljava/lang/String;Ljava/lang/String;)V" = some ⟨[(.object "java/lang/String"), (.object "java/lang/String"), (.object "java/lang/String")], none⟩ := by decide +kernel
theorem pd___CILjava_lang_String__I : parseMethodDescriptor "([CILjava/lang/String;)I" = some ⟨[(.array .char), .int, (.object "java/lang/String")], some .int⟩ := by decide +kernel
theorem pd__Ljava_lang_Object__Z : parseMethodDescriptor "(Ljava/lang/Object;)Z" = some ⟨[(.object "java/lang/Object")], some .boolean⟩ := by decide +kernel
theorem shr0 (x : Int32) : x >>> ((0 : Int32) &&& 31) = x := by
  apply Int32.toBitVec_inj.mp; simp
theorem shl0 (x : Int32) : x <<< ((0 : Int32) &&& 31) = x := by
  apply Int32.toBitVec_inj.mp; simp
theorem o32_sub {a b : Nat} (h : b ≤ a) (ha : a < 2147483648) : Int32.ofNat a - Int32.ofNat b = Int32.ofNat (a - b) := by
  have e : Int32.ofNat a = Int32.ofNat (a - b) + Int32.ofNat b := by rw [← Int32.ofNat_add]; congr 1; omega
  rw [e, Int32.add_sub_cancel]
theorem o32_add (a b : Nat) : Int32.ofNat a + Int32.ofNat b = Int32.ofNat (a + b) := (Int32.ofNat_add a b).symm
theorem o32_le0 {a b : Nat} (h : a ≤ b) (hb : b < 1000) : ¬ (0 : Int32) < Int32.ofNat a - Int32.ofNat b := by
  have q := c_isub (Int32.ofNat a) (Int32.ofNat b)
  have q1 := Int32.toInt_lt (Int32.ofNat a - Int32.ofNat b)
  have q2 := Int32.le_toInt (Int32.ofNat a - Int32.ofNat b)
  have z : (0 : Int32).toInt = 0 := rfl
  rw [o32_toInt a (by omega), o32_toInt b (by omega)] at q
  rw [Int32.lt_iff_toInt_lt]
  omega
theorem o32_gt0 {a b : Nat} (h : b < a) (hb : a < 1000) : (0 : Int32) < Int32.ofNat a - Int32.ofNat b := by
  rw [o32_sub (by omega) (by omega), Int32.lt_iff_toInt_lt, o32_toInt _ (by omega)]
  have z : (0 : Int32).toInt = 0 := rfl
  omega
def fill (cap : Nat) (cs : List Int32) : List Value := cs.map lo ++ List.replicate (cap - cs.length) (.int 0)
theorem fill_len {cap : Nat} {cs : List Int32} (h : cs.length ≤ cap) : (fill cap cs).length = cap := by simp [fill]; omega
theorem fill_nil (cap : Nat) : fill cap [] = List.replicate cap (.int 0) := by simp [fill]
theorem fill_grow {cs : List Int32} {c d : Nat} (h : cs.length ≤ c) : fill c cs ++ List.replicate d (.int 0) = fill (c + d) cs := by
  simp only [fill, List.append_assoc, List.replicate_append_replicate]; congr 2; omega
theorem fill_all (cs : List Int32) : fill cs.length cs = cs.map lo := by simp [fill]
theorem fill_put {cap : Nat} {cs ds : List Int32} (h : cs.length + ds.length ≤ cap) : (fill cap cs).take cs.length ++ ds.map lo ++ (fill cap cs).drop (cs.length + ds.length) = fill cap (cs ++ ds) := by
  have e1 : (fill cap cs).take cs.length = cs.map lo := List.take_left' (by simp)
  have e2 : (fill cap cs).drop (cs.length + ds.length) = List.replicate (cap - (cs.length + ds.length)) (.int 0) := by
    have q : cs.length + ds.length = (cs.map lo).length + ds.length := by simp
    rw [q]
    show (cs.map lo ++ List.replicate (cap - cs.length) (Value.int 0)).drop _ = _
    rw [List.drop_append, List.drop_eq_nil_of_le (by omega), List.nil_append, List.drop_replicate]
    congr 1
    simp only [List.length_map]
    omega
  rw [e1, e2, fill, List.map_append, List.length_append]
theorem cp_all {vs : List Value} {d : Value} {n : Nat} (h : n = vs.length) : vs = (List.range n).map (fun i => vs.getD (0 + i) d) := by
  subst h
  apply List.ext_getElem
  · simp
  · intro i h1 h2; simp [List.getD, h1]
theorem cp_fill {cs : List Int32} {cap : Nat} (h : cs.length ≤ cap) : cs.map lo = (List.range cs.length).map (fun i => (fill cap cs).getD (0 + i) (.int 0)) := by
  apply List.ext_getElem
  · simp
  · intro i h1 h2
    have hi : i < cs.length := by simpa using h1
    have q : (fill cap cs)[i]? = some (lo cs[i]) := by
      show (cs.map lo ++ List.replicate (cap - cs.length) (Value.int 0))[i]? = _
      rw [List.getElem?_append_left (by simpa using hi)]; simp [hi]
    simp [List.getD, q]
/-- a builder of Latin-1 text -/
def Bld (Z : State) (h : Heap) (a d : Addr) (cap : Nat) (cs : List Int32) : Prop :=
  Exa Z h a "java/lang/StringBuilder" ∧ Fld Z h a "java/lang/AbstractStringBuilder" "coder" "B" (.int (0 : Int32)) ∧ Fld Z h a "java/lang/AbstractStringBuilder" "value" "[B" (.ref d) ∧ Fld Z h a "java/lang/AbstractStringBuilder" "count" "I" (.int (Int32.ofNat cs.length)) ∧ (∃ kd, Arv Z h d kd .byte (Int32.ofNat cap) (fill cap cs) (.int 0)) ∧ Exa Z h d "[B" ∧ Z.heap.size ≤ d ∧ Z.heap.size ≤ a ∧ (cap = 16 ∨ cap = 34) ∧ cs.length ≤ cap ∧ ∀ c ∈ cs, ¬ c < 0 ∧ ¬ 255 < c
theorem Bld.ext {Z : State} {h h' : Heap} {a d : Addr} {cap : Nat} {cs : List Int32} (F : Bld Z h a d cap cs) (E : Ext h h') : Bld Z h' a d cap cs := by
  obtain ⟨h1, h2, h3, h4, ⟨kd, h5⟩, h6, r⟩ := F; exact ⟨h1.ext E, h2.ext E, h3.ext E, h4.ext E, ⟨kd, h5.ext E⟩, h6.ext E, r⟩
theorem Bld.keep {Z : State} {h h' : Heap} {a d : Addr} {cap : Nat} {cs : List Int32} {ws : List Addr} (F : Bld Z h a d cap cs) (K : Keep h h' ws) (q : a ∉ ws) (r : d ∉ ws) : Bld Z h' a d cap cs := by
  obtain ⟨h1, h2, h3, h4, ⟨kd, h5⟩, h6, r'⟩ := F; exact ⟨h1.keep K, h2.keep K q, h3.keep K q, h4.keep K q, ⟨kd, h5.keep K r⟩, h6.keep K, r'⟩
theorem Bld.other {Z : State} {h h' : Heap} {a d x : Addr} {sl : Nat} {v : Value} {cap : Nat} {cs : List Int32} (F : Bld Z h a d cap cs) (W : Wr h h' x sl v) (q : a ≠ x) (r : d ≠ x) : Bld Z h' a d cap cs := by
  obtain ⟨h1, h2, h3, h4, ⟨kd, h5⟩, h6, r'⟩ := F; exact ⟨h1.wr W, h2.other W (Or.inl q), h3.other W (Or.inl q), h4.other W (Or.inl q), ⟨kd, h5.other W r⟩, h6.wr W, r'⟩
theorem Bld.lt {Z : State} {h : Heap} {a d : Addr} {cap : Nat} {cs : List Int32} (F : Bld Z h a d cap cs) : a < h.size := F.1.lt
theorem Bld.lt' {Z : State} {h : Heap} {a d : Addr} {cap : Nat} {cs : List Int32} (F : Bld Z h a d cap cs) : d < h.size := F.2.2.2.2.2.1.lt
theorem declOf {Z : State} {a0 : Array Value} {z : MethodName} {b : ByteArray} {n : Nat} {r : Option FieldType} (wi : (Cond.instanceMethod z).before a0 Z = true) (wc : (Cond.code z b n r).before a0 Z = true) : (Cond.declares z).before a0 Z = true := by
  obtain ⟨mk, me, h1, h2, h3, -⟩ := Cond.instanceMethod_spec wi
  obtain ⟨me', cM, g1, -, -, -, -, -, -, hsig⟩ := Cond.code_spec h1 wc
  cases h2.symm.trans g1
  simp [Cond.before, Cond.holds, Cond.value, h1, h2, h3, hsig]
theorem sameOwn {Z : State} {a0 : Array Value} {K : String} {z u : MethodName} (w : (Cond.instanceMethod z).before a0 Z = true) (sel : (Cond.selects K u u).before a0 Z = true) (hu : u.cls = z.cls) (hx : z.cls ≠ "java/lang/invoke/MethodHandle" ∧ z.cls ≠ "java/lang/invoke/VarHandle") : (Cond.sameMethod z.cls z.cls z.name z.desc).before a0 Z = true := by
  obtain ⟨mk, me, h1, h2, h3, -⟩ := Cond.instanceMethod_spec w
  obtain ⟨c2, r2, m2, q1, q2, q3, q4, kP, hkP, hkPi⟩ := Cond.selects_spec sel
  have f1 := findClass_of_methodNamed h1
  have f2 := findClass_of_methodNamed q3
  rw [hu] at f2
  have e := Option.some.inj (f1.symm.trans f2)
  have hf : Z.methodFound? z.cls z.name z.desc = some mk := State.methodFound?_of_named h1 hx
  simp [Cond.before, Cond.holds, Cond.value, f1, hf, h1, e, hkP, hkPi]
def layC (n : Nat) (cs : List Int32) : List Value := cs.map .int ++ List.replicate (n - cs.length) (.int 0)
theorem layC_len {n : Nat} {cs : List Int32} (h : cs.length ≤ n) : (layC n cs).length = n := by simp [layC]; omega
theorem layC_nil (n : Nat) : layC n [] = List.replicate n (.int 0) := by simp [layC]
theorem layC_all {n : Nat} {cs : List Int32} (h : n = cs.length) : layC n cs = cs.map .int := by subst h; simp [layC]
theorem layC_set {n : Nat} {cs : List Int32} {c : Int32} (h : cs.length < n) : (layC n cs).set cs.length (.int c) = layC n (cs ++ [c]) := by
  have e : n - cs.length = (n - (cs.length + 1)) + 1 := by omega
  simp only [layC, List.map_append, List.length_append, List.length_cons, List.length_nil, Nat.zero_add, List.map_cons, List.map_nil, List.append_assoc]
  rw [List.set_append_right _ _ (by simp), e, List.replicate_succ]
  simp
set_option maxRecDepth 65536 in
set_option maxHeartbeats 40000000 in
theorem ctCmp5 (l : Launch) (Z : State) (a0 : Array Value) (hw : ∀ d ∈ tables_1, d.before a0 Z = true) (b d : Addr) (kb kd : ClassId) (cs : List Int32) (h0 : Heap) (hN : cs.length ≤ 1000) (hbd : b ≠ d) (gz : Z.heap.size ≤ d) (A0 : Arv Z h0 b kb .char (Int32.ofNat cs.length) (cs.map .int) (.int 0)) (B0 : Arv Z h0 d kd .byte (Int32.ofNat cs.length) (lay lo (.int 0) cs 0) (.int 0)) :
    W.Ct wd Z a0 el l (⟨"java/lang/StringUTF16", "compress", "([CI[BII)I"⟩ : MethodName) jdk_52_method_21_code 7 (some .int) ({ frames := 0, cells := 0, slots := 0, locals := 0 } : Room) #[(.ref b), (.int (0 : Int32)), (.ref d), (.int (0 : Int32)), (.int (Int32.ofNat cs.length))] h0 [d] (fun v h S => v = some (.int (Int32.ofNat (cs.findIdx big))) ∧ Keep h0 h [d] ∧ Arv Z h d kd .byte (Int32.ofNat cs.length) (lay lo (.int 0) cs (cs.findIdx big)) (.int 0)) := by
  refine W.Ct.walk hwe (plainFor_of_name pn_java_lang_StringUTF16) ?_
  intro p e s m below meth c T hE0 X
  refine W.castG (show entryFrame m #[(.ref b), (.int (0 : Int32)), (.ref d), (.int (0 : Int32)), (.int (Int32.ofNat cs.length))] 7 = mkF m 0 #[.val (.ref b), .val (.int (0 : Int32)), .val (.ref d), .val (.int (0 : Int32)), .val (.int (Int32.ofNat cs.length)), .unset, .unset] [] from by first | (simp [entryFrame, mkF, argsToLocals, Value.category]; done) | rfl) ?_
  refine W.o_iconst X (0 : Int32) (pc' := 1) d_jdk_52_method_21_0 rfl rfl ?_
  refine W.o_istore X (pc' := 3) d_jdk_52_method_21_1 rfl (L' := #[.val (.ref b), .val (.int (0 : Int32)), .val (.ref d), .val (.int (0 : Int32)), .val (.int (Int32.ofNat cs.length)), .val (.int (0 : Int32)), .unset]) rfl ?_
  have loop : ∀ (k j : Nat), j + k = cs.length → (∀ i (hi : i < j) (hl : i < cs.length), big cs[i] = false) → ∀ (T : State) (h : Heap) (s6 : Slot), (s6 = .unset ∨ ∃ x, s6 = .val (.int x)) → W.St wd Z a0 el (⟨"java/lang/StringUTF16", "compress", "([CI[BII)I"⟩ : MethodName) jdk_52_method_21_code 7 (some .int) p l e ({ frames := 0, cells := 0, slots := 0, locals := 0 } : Room) s m #[(.ref b), (.int (0 : Int32)), (.ref d), (.int (0 : Int32)), (.int (Int32.ofNat cs.length))] below meth c T h [d] 0 0 → Keep h0 h [d] → Arv Z h d kd .byte (Int32.ofNat cs.length) (lay lo (.int 0) cs j) (.int 0) → W.Go wd Z el ({ frames := 0, cells := 0, slots := 0, locals := 0 } : Room).cells ({ frames := 0, cells := 0, slots := 0, locals := 0 } : Room).slots (fun v h S => v = some (.int (Int32.ofNat (cs.findIdx big))) ∧ Keep h0 h [d] ∧ Arv Z h d kd .byte (Int32.ofNat cs.length) (lay lo (.int 0) cs (cs.findIdx big)) (.int 0)) p e s below T (mkF m 3 #[.val (.ref b), .val (.int (Int32.ofNat j)), .val (.ref d), .val (.int (Int32.ofNat j)), .val (.int (Int32.ofNat cs.length)), .val (.int (Int32.ofNat j)), s6] []) := by
    intro k
    induction k with
    | zero =>
      intro j hj hp T h s6 h6 X K B
      have e : cs.findIdx big = j := by
        rw [show j = cs.length by omega]
        exact List.findIdx_eq_length.mpr fun x hx => by
          obtain ⟨i, hi, rfl⟩ := List.mem_iff_getElem.mp hx
          exact hp i (by omega) hi
      refine W.o_iload X (pc' := 5) d_jdk_52_method_21_3 rfl rfl ?_
      refine W.o_iload X (pc' := 7) d_jdk_52_method_21_5 rfl rfl ?_
      refine W.o_if_icmpge X (pt := 44) (pf := 10) d_jdk_52_method_21_7 ⟨by decide, by decide⟩ rfl (fun _ => ?_) (fun hc => absurd hc (o32_ge (by omega) (by omega)))
      refine W.o_iload X (pc' := 46) d_jdk_52_method_21_44 rfl rfl ?_
      refine W.o_ireturnI X d_jdk_52_method_21_46 rfl (by decide) (by decide) fun P hP => ⟨?_, K, ?_⟩
      · rw [e, show j = cs.length by omega]
      · rw [e]; exact B
    | succ k ih =>
      intro j hj hp T h s6 h6 X K B
      have hjl : j < cs.length := by omega
      have A := A0.keep K (ninS hbd nin0)
      rcases h6 with rfl | ⟨x6, rfl⟩
      all_goals
        refine W.o_iload X (pc' := 5) d_jdk_52_method_21_3 rfl rfl ?_
        refine W.o_iload X (pc' := 7) d_jdk_52_method_21_5 rfl rfl ?_
        refine W.o_if_icmpge X (pt := 44) (pf := 10) d_jdk_52_method_21_7 ⟨by decide, by decide⟩ rfl (fun hc => absurd (o32_lt hjl (by omega)).2 hc) (fun _ => ?_)
        refine W.o_aloadN X (pc' := 11) d_jdk_52_method_21_10 rfl rfl rfl ?_
        refine W.o_iloadN X (pc' := 12) d_jdk_52_method_21_11 rfl rfl ?_
        refine W.o_caload X (pc' := 13) d_jdk_52_method_21_12 rfl A (o32_lt hjl (by omega)) (v := .int cs[j]) (by rw [o32_clamp (by omega)]; exact getD_map hjl _) ?_
        refine W.o_istore X (pc' := 15) d_jdk_52_method_21_13 rfl (L' := #[.val (.ref b), .val (.int (Int32.ofNat j)), .val (.ref d), .val (.int (Int32.ofNat j)), .val (.int (Int32.ofNat cs.length)), .val (.int (Int32.ofNat j)), .val (.int cs[j])]) rfl ?_
        refine W.o_iload X (pc' := 17) d_jdk_52_method_21_15 rfl rfl ?_
        refine W.o_sipush X (255 : Int32) (pc' := 20) d_jdk_52_method_21_17 rfl rfl ?_
        refine W.o_if_icmple X (pt := 26) (pf := 23) d_jdk_52_method_21_20 ⟨by decide, by decide⟩ rfl (fun hc => ?_) (fun hc => ?_)
        · have hp' : ∀ i (hi : i < j + 1) (hl : i < cs.length), big cs[i] = false := fun i hi hl => by
            rcases Nat.lt_succ_iff_lt_or_eq.mp hi with q | q
            · exact hp i q hl
            · subst q; exact decide_eq_false hc
          refine W.o_aloadN X (pc' := 27) d_jdk_52_method_21_26 rfl rfl rfl ?_
          refine W.o_iloadN X (pc' := 28) d_jdk_52_method_21_27 rfl rfl ?_
          refine W.o_iload X (pc' := 30) d_jdk_52_method_21_28 rfl rfl ?_
          refine W.o_i2b X (pc' := 31) d_jdk_52_method_21_30 rfl ?_
          refine W.o_bastore X (pc' := 32) d_jdk_52_method_21_31 rfl B j (o32_clamp (by omega)) (o32_lt hjl (by omega)) (by rw [lay_len _ _ _ _ (by omega)]; exact hjl) gz (Or.inr (Or.inl (by simp))) (fun T h' w' B' X => ?_)
          rw [nar_bb] at B'
          have B2 : Arv Z h' d kd .byte (Int32.ofNat cs.length) (lay lo (.int 0) cs (j + 1)) (.int 0) := by rw [← lay_set lo (.int 0) cs j hjl]; exact B'
          refine W.o_iinc X (1 : Int32) (pc' := 35) d_jdk_52_method_21_32 rfl rfl rfl (L' := #[.val (.ref b), .val (.int ((Int32.ofNat j) + (1 : Int32))), .val (.ref d), .val (.int (Int32.ofNat j)), .val (.int (Int32.ofNat cs.length)), .val (.int (Int32.ofNat j)), .val (.int cs[j])]) rfl ?_
          refine W.o_iinc X (1 : Int32) (pc' := 38) d_jdk_52_method_21_35 rfl rfl rfl (L' := #[.val (.ref b), .val (.int ((Int32.ofNat j) + (1 : Int32))), .val (.ref d), .val (.int ((Int32.ofNat j) + (1 : Int32))), .val (.int (Int32.ofNat cs.length)), .val (.int (Int32.ofNat j)), .val (.int cs[j])]) rfl ?_
          refine W.o_iinc X (1 : Int32) (pc' := 41) d_jdk_52_method_21_38 rfl rfl rfl (L' := #[.val (.ref b), .val (.int ((Int32.ofNat j) + (1 : Int32))), .val (.ref d), .val (.int ((Int32.ofNat j) + (1 : Int32))), .val (.int (Int32.ofNat cs.length)), .val (.int ((Int32.ofNat j) + (1 : Int32))), .val (.int cs[j])]) rfl ?_
          refine W.o_goto X (pc' := 3) d_jdk_52_method_21_41 ⟨by decide, by decide⟩ ?_
          rw [o32_succ]
          exact ih (j + 1) (by omega) hp' T h' _ (Or.inr ⟨_, rfl⟩) X (K.wr w' (Or.inl (by simp))) B2
        · have e : cs.findIdx big = j := (List.findIdx_eq hjl).mpr ⟨decide_eq_true hc, fun i hi => hp i hi (by omega)⟩
          refine W.o_iload X (pc' := 25) d_jdk_52_method_21_23 rfl rfl ?_
          exact W.o_ireturnI X d_jdk_52_method_21_25 rfl (by decide) (by decide) fun P hP => ⟨by rw [e], K, by rw [e]; exact B⟩
  exact loop cs.length 0 (by omega) (fun i hi => absurd hi (Nat.not_lt_zero i)) _ h0 _ (Or.inl rfl) X (Keep.refl _ _) B0
set_option maxRecDepth 65536 in
set_option maxHeartbeats 40000000 in
theorem ctCmp3 (l : Launch) (Z : State) (a0 : Array Value) (hw : ∀ d ∈ tables_1, d.before a0 Z = true) (b : Addr) (kb : ClassId) (cs : List Int32) (h0 : Heap) (hN : cs.length ≤ 32) (hlat : ∀ c ∈ cs, ¬ c < 0 ∧ ¬ 255 < c) (A0 : Arv Z h0 b kb .char (Int32.ofNat cs.length) (cs.map .int) (.int 0)) :
    W.Ct wd Z a0 el l (⟨"java/lang/StringUTF16", "compress", "([CII)[B"⟩ : MethodName) jdk_52_method_16_code 6 (some (.array .byte)) ({ frames := 1, cells := 1, slots := 32, locals := 23 } : Room) #[(.ref b), (.int (0 : Int32)), (.int (Int32.ofNat cs.length))] h0 [] (fun v h S => ∃ d kd, v = some (.ref d) ∧ Keep h0 h [] ∧ h0.size ≤ d ∧ Arv Z h d kd .byte (Int32.ofNat cs.length) (cs.map lo) (.int 0)) := by
  refine W.Ct.walk hwe (plainFor_of_name pn_java_lang_StringUTF16) ?_
  intro p e s m below meth c T hE0 X
  refine W.castG (show entryFrame m #[(.ref b), (.int (0 : Int32)), (.int (Int32.ofNat cs.length))] 6 = mkF m 0 #[.val (.ref b), .val (.int (0 : Int32)), .val (.int (Int32.ofNat cs.length)), .unset, .unset, .unset] [] from by first | (simp [entryFrame, mkF, argsToLocals, Value.category]; done) | rfl) ?_
  have hfi : cs.findIdx big = cs.length := List.findIdx_eq_length.mpr fun x hx => decide_eq_false (hlat x hx).2
  refine W.o_iloadN X (pc' := 1) d_jdk_52_method_16_0 rfl rfl ?_
  refine W.o_newarray X (pc' := 3) d_jdk_52_method_16_1 rfl (hw _ (List.mem_of_getElem? (i := 19) rfl)) (o32_nn (by omega)) (cap := 32) (by rw [o32_clamp (by omega)]; exact hN) (by decide) (by decide) (by decide) (fun T h1 d kd g1 z1 E1 V1 X => ?_)
  have B1 : Arv Z h1 d kd .byte (Int32.ofNat cs.length) (lay lo (.int 0) cs 0) (.int 0) := by rw [lay_zero]; exact V1.pad (pad_rep [] (.int 0) cs.length)
  refine W.o_astoreN X (pc' := 4) d_jdk_52_method_16_3 rfl (L' := #[.val (.ref b), .val (.int (0 : Int32)), .val (.int (Int32.ofNat cs.length)), .val (.ref d), .unset, .unset]) rfl rfl ?_
  refine W.o_aloadN X (pc' := 5) d_jdk_52_method_16_4 rfl rfl rfl ?_
  refine W.o_iloadN X (pc' := 6) d_jdk_52_method_16_5 rfl rfl ?_
  refine W.o_aloadN X (pc' := 7) d_jdk_52_method_16_6 rfl rfl rfl ?_
  refine W.o_iconst X (0 : Int32) (pc' := 8) d_jdk_52_method_16_7 rfl rfl ?_
  refine W.o_iloadN X (pc' := 9) d_jdk_52_method_16_8 rfl rfl ?_
  have f1 := (A0.ext E1)
  refine W.o_static X (pc' := 12) d_jdk_52_method_16_9 rfl (z := (⟨"java/lang/StringUTF16", "compress", "([CI[BII)I"⟩ : MethodName)) (hw _ (List.mem_of_getElem? (i := 171) rfl)) (hw _ (List.mem_of_getElem? (i := 172) rfl)) (hw _ (List.mem_of_getElem? (i := 169) rfl)) (hw _ (List.mem_of_getElem? (i := 173) rfl)) (by decide) (ctCmp5 l Z a0 hw b d kb kd cs h1 (by omega) (Nat.ne_of_lt (Nat.lt_of_lt_of_le A0.lt (Nat.le_of_eq g1.symm))) z1 f1 B1) (allS ⟨B1.lt, (Or.inr (Or.inl (by simp)))⟩ all0) [(.ref b), (.int (0 : Int32)), (.ref d), (.int (0 : Int32)), (.int (Int32.ofNat cs.length))] rfl (rest := []) rfl pd___CI_BII_I rfl rfl (by decide) (by exact Nat.le_of_ble_eq_true rfl) (by decide) (by decide) (fun v2 T q3 => ?_)
  obtain ⟨h6, S4, ⟨rfl, K2, B2⟩, X5⟩ := q3
  have X := X5 [] all0
  rw [hfi, lay_all] at B2
  rw [hfi]
  show W.Go _ _ _ _ _ _ _ _ _ _ _ (mkF m 12 #[.val (.ref b), .val (.int (0 : Int32)), .val (.int (Int32.ofNat cs.length)), .val (.ref d), .unset, .unset] [(.int (Int32.ofNat cs.length))])
  refine W.o_istore X (pc' := 14) d_jdk_52_method_16_12 rfl (L' := #[.val (.ref b), .val (.int (0 : Int32)), .val (.int (Int32.ofNat cs.length)), .val (.ref d), .val (.int (Int32.ofNat cs.length)), .unset]) rfl ?_
  refine W.o_iload X (pc' := 16) d_jdk_52_method_16_14 rfl rfl ?_
  refine W.o_iloadN X (pc' := 17) d_jdk_52_method_16_16 rfl rfl ?_
  refine W.o_if_icmpeq X (pt := 57) (pf := 20) d_jdk_52_method_16_17 ⟨by decide, by decide⟩ rfl (fun _ => ?_) (fun hc => absurd rfl hc)
  refine W.o_aloadN X (pc' := 58) d_jdk_52_method_16_57 rfl rfl rfl ?_
  exact W.o_areturn X d_jdk_52_method_16_58 rfl rfl rfl (by decide) (by decide) fun P hP => ⟨d, kd, rfl, ((Keep.refl h0 []).ext E1).trans K2 (allS (Or.inr (Nat.le_of_eq g1.symm)) all0), Nat.le_of_eq g1.symm, B2⟩
set_option maxRecDepth 65536 in
set_option maxHeartbeats 40000000 in
theorem ctCodL (l : Launch) (Z : State) (a0 : Array Value) (hw : ∀ d ∈ tables_1, d.before a0 Z = true) (d : Addr) (kd : ClassId) (z : Int32) (vs : List Value) (h0 : Heap) (B0 : Arv Z h0 d kd .byte z vs (.int 0)) :
    W.Ct wd Z a0 el l (⟨"java/lang/StringUTF16", "coderFromArrayLen", "([BI)B"⟩ : MethodName) jdk_52_method_15_code 2 (some .byte) ({ frames := 0, cells := 0, slots := 0, locals := 0 } : Room) #[(.ref d), (.int z)] h0 [] (fun v h S => v = some (.int 0) ∧ h = h0) := by
  refine W.Ct.walk hwe (plainFor_of_name pn_java_lang_StringUTF16) ?_
  intro p e s m below meth c T hE0 X
  refine W.castG (show entryFrame m #[(.ref d), (.int z)] 2 = mkF m 0 #[.val (.ref d), .val (.int z)] [] from by first | (simp [entryFrame, mkF, argsToLocals, Value.category]; done) | rfl) ?_
  refine W.o_iloadN X (pc' := 1) d_jdk_52_method_15_0 rfl rfl ?_
  refine W.o_aloadN X (pc' := 2) d_jdk_52_method_15_1 rfl rfl rfl ?_
  refine W.o_arraylength X (pc' := 3) d_jdk_52_method_15_2 rfl B0 ?_
  refine W.o_isub X (pc' := 4) d_jdk_52_method_15_3 rfl ?_
  refine W.o_bipush X (31 : Int32) (pc' := 6) d_jdk_52_method_15_4 rfl rfl ?_
  refine W.o_iushr X (pc' := 7) d_jdk_52_method_15_6 rfl ?_
  refine W.o_i2b X (pc' := 8) d_jdk_52_method_15_7 rfl ?_
  exact W.o_ireturn X d_jdk_52_method_15_8 rfl (Or.inr (Or.inl rfl)) (v := 0) (by rw [Int32.sub_self]; decide) (by decide) (by decide) fun P hP => ⟨rfl, rfl⟩
set_option maxRecDepth 65536 in
set_option maxHeartbeats 40000000 in
theorem ctNew4 (l : Launch) (Z : State) (a0 : Array Value) (hw : ∀ d ∈ tables_1, d.before a0 Z = true) (a b : Addr) (kb : ClassId) (cs : List Int32) (cz : Int32) (h0 : Heap) (hN : cs.length ≤ 32) (hn : cs.length ≠ 0) (hlat : ∀ c ∈ cs, ¬ c < 0 ∧ ¬ 255 < c) (C0 : Sta Z Z.heap "java/lang/String" "COMPACT_STRINGS" "Z" (.int cz)) (hcz : ¬ cz = 0) (gz : Z.heap.size ≤ a) (E0 : Exa Z h0 a "java/lang/String") (F0 : Fld Z h0 a "java/lang/String" "value" "[B" .null) (F1 : Fld Z h0 a "java/lang/String" "coder" "B" (.int (0 : Int32))) (A0 : Arv Z h0 b kb .char (Int32.ofNat cs.length) (cs.map .int) (.int 0)) :
    W.Ct wd Z a0 el l (⟨"java/lang/String", "<init>", "([CIILjava/lang/Void;)V"⟩ : MethodName) jdk_42_method_149_code 6 none ({ frames := 2, cells := 1, slots := 32, locals := 40 } : Room) #[(.ref a), (.ref b), (.int (0 : Int32)), (.int (Int32.ofNat cs.length)), .null] h0 [a] (fun v h S => v = none ∧ Keep h0 h [a] ∧ ∃ t, h0.size ≤ t ∧ Str Z h a t cs) := by
  refine W.Ct.walk hwe (plainFor_of_name pn_java_lang_String) ?_
  intro p e s m below meth c T hE0 X
  refine W.castG (show entryFrame m #[(.ref a), (.ref b), (.int (0 : Int32)), (.int (Int32.ofNat cs.length)), .null] 6 = mkF m 0 #[.val (.ref a), .val (.ref b), .val (.int (0 : Int32)), .val (.int (Int32.ofNat cs.length)), .val .null, .unset] [] from by first | (simp [entryFrame, mkF, argsToLocals, Value.category]; done) | rfl) ?_
  refine W.o_aloadN X (pc' := 1) d_jdk_42_method_149_0 rfl rfl rfl ?_
  refine W.o_initO X (pc' := 4) d_jdk_42_method_149_1 rfl (hw _ (List.mem_of_getElem? (i := 15) rfl)) (hw _ (List.mem_of_getElem? (i := 16) rfl)) (hw _ (List.mem_of_getElem? (i := 17) rfl)) rfl (by decide) (by decide) (fun T X => ?_)
  refine W.o_iloadN X (pc' := 5) d_jdk_42_method_149_4 rfl rfl ?_
  refine W.o_ifne X (pt := 27) (pf := 8) d_jdk_42_method_149_5 ⟨by decide, by decide⟩ rfl (fun _ => ?_) (fun hc => absurd hc (fun q => hn (o32_inj (n := 0) (by omega) (by omega) q)))
  refine W.o_getstatic X (pc' := 30) d_jdk_42_method_149_27 rfl (hw _ (List.mem_of_getElem? (i := 87) rfl)) Via.refl C0 (fun T X => ?_)
  refine W.o_ifeq X (pt := 58) (pf := 33) d_jdk_42_method_149_30 ⟨by decide, by decide⟩ rfl (fun hc => absurd hc hcz) (fun _ => ?_)
  refine W.o_aloadN X (pc' := 34) d_jdk_42_method_149_33 rfl rfl rfl ?_
  refine W.o_iloadN X (pc' := 35) d_jdk_42_method_149_34 rfl rfl ?_
  refine W.o_iloadN X (pc' := 36) d_jdk_42_method_149_35 rfl rfl ?_
  refine W.o_static X (pc' := 39) d_jdk_42_method_149_36 rfl (z := (⟨"java/lang/StringUTF16", "compress", "([CII)[B"⟩ : MethodName)) (hw _ (List.mem_of_getElem? (i := 167) rfl)) (hw _ (List.mem_of_getElem? (i := 168) rfl)) (hw _ (List.mem_of_getElem? (i := 169) rfl)) (hw _ (List.mem_of_getElem? (i := 170) rfl)) (by decide) (ctCmp3 l Z a0 hw b kb cs h0 hN hlat A0) (fun _ q => nomatch q) [(.ref b), (.int (0 : Int32)), (.int (Int32.ofNat cs.length))] rfl (rest := []) rfl pd___CII__B rfl rfl (by decide) (by exact Nat.le_of_ble_eq_true rfl) (by decide) (by decide) (fun v7 T q8 => ?_)
  obtain ⟨h11, S9, ⟨d, kd, rfl, K2, gd, B2⟩, X10⟩ := q8
  have X := X10 [] all0
  show W.Go _ _ _ _ _ _ _ _ _ _ _ (mkF m 39 #[.val (.ref a), .val (.ref b), .val (.int (0 : Int32)), .val (.int (Int32.ofNat cs.length)), .val .null, .unset] [(.ref d)])
  refine W.o_astore X (pc' := 41) d_jdk_42_method_149_39 rfl (L' := #[.val (.ref a), .val (.ref b), .val (.int (0 : Int32)), .val (.int (Int32.ofNat cs.length)), .val .null, .val (.ref d)]) rfl rfl ?_
  refine W.o_aloadN X (pc' := 42) d_jdk_42_method_149_41 rfl rfl rfl ?_
  refine W.o_aload X (pc' := 44) d_jdk_42_method_149_42 rfl rfl rfl ?_
  refine W.o_iloadN X (pc' := 45) d_jdk_42_method_149_44 rfl rfl ?_
  refine W.o_static X (pc' := 48) d_jdk_42_method_149_45 rfl (z := (⟨"java/lang/StringUTF16", "coderFromArrayLen", "([BI)B"⟩ : MethodName)) (hw _ (List.mem_of_getElem? (i := 174) rfl)) (hw _ (List.mem_of_getElem? (i := 175) rfl)) (hw _ (List.mem_of_getElem? (i := 169) rfl)) (hw _ (List.mem_of_getElem? (i := 176) rfl)) (by decide) (ctCodL l Z a0 hw d kd (Int32.ofNat cs.length) _ h11 B2) (fun _ q => nomatch q) [(.ref d), (.int (Int32.ofNat cs.length))] rfl (rest := [(.ref a)]) rfl pd___BI_B rfl rfl (by decide) (by exact Nat.le_of_ble_eq_true rfl) (by decide) (by decide) (fun v12 T q13 => ?_)
  obtain ⟨h16, S14, ⟨rfl, eh⟩, X15⟩ := q13
  have eh := eh.symm
  subst eh
  have X := X15 [] all0
  show W.Go _ _ _ _ _ _ _ _ _ _ _ (mkF m 48 #[.val (.ref a), .val (.ref b), .val (.int (0 : Int32)), .val (.int (Int32.ofNat cs.length)), .val .null, .val (.ref d)] [(.int (0 : Int32)), (.ref a)])
  have f17 := (E0.keep K2)
  have f18 := (F1.keep K2 nin0)
  refine W.o_putfieldN X (pc' := 51) d_jdk_42_method_149_48 rfl (hw _ (List.mem_of_getElem? (i := 25) rfl)) Via.refl f18 f17 (Or.inr ⟨(hw _ (List.mem_of_getElem? (i := 21) rfl)), rfl, rfl⟩) (hw _ (List.mem_of_getElem? (i := 6) rfl)) (ty := .byte) (v' := (.int (0 : Int32))) (by decide) rfl rfl gz (Or.inr (Or.inl (by simp))) (fun T h19 w20 X => ?_)
  have f21 := f18.same w20
  refine W.o_aloadN X (pc' := 52) d_jdk_42_method_149_51 rfl rfl rfl ?_
  refine W.o_aload X (pc' := 54) d_jdk_42_method_149_52 rfl rfl rfl ?_
  have f22 := (f17.wr w20)
  have f23 := ((F0.keep K2 nin0).other w20 (Or.inr (slot_ne (Or.inr (hw _ (List.mem_of_getElem? (i := 20) rfl))) (Or.inr (hw _ (List.mem_of_getElem? (i := 21) rfl))) (by decide) (t := (.array .byte)) (t' := .byte) (by decide) (by decide))))
  refine W.o_putfield X (pc' := 57) d_jdk_42_method_149_54 rfl (hw _ (List.mem_of_getElem? (i := 24) rfl)) Via.refl f23 f22 (Or.inr ⟨(hw _ (List.mem_of_getElem? (i := 20) rfl)), rfl, rfl⟩) (hw _ (List.mem_of_getElem? (i := 6) rfl)) (ty := (.array .byte)) (by decide) rfl rfl gz (Or.inr (Or.inl (by simp))) (fun T h24 w25 X => ?_)
  have f26 := f23.same w25
  have f27 := (f22.wr w25)
  have f28 := (f21.other w25 (Or.inr (slot_ne (Or.inr (hw _ (List.mem_of_getElem? (i := 21) rfl))) (Or.inr (hw _ (List.mem_of_getElem? (i := 20) rfl))) (by decide) (t := .byte) (t' := (.array .byte)) (by decide) (by decide))))
  have f29 := ((B2.other w20 (Ne.symm (Nat.ne_of_lt (Nat.lt_of_lt_of_le E0.lt gd)))).other w25 (Ne.symm (Nat.ne_of_lt (Nat.lt_of_lt_of_le E0.lt gd))))
  exact W.o_return X d_jdk_42_method_149_57 (by decide) (by decide) fun P hP => ⟨rfl, ((((Keep.refl h0 [a]).trans K2 all0).wr w20 (Or.inl (by simp))).wr w25 (Or.inl (by simp))), d, gd, f27, f28, f26, ⟨kd, f29⟩, by omega, hlat⟩
set_option maxRecDepth 65536 in
set_option maxHeartbeats 40000000 in
theorem ctNew1 (l : Launch) (Z : State) (a0 : Array Value) (hw : ∀ d ∈ tables_1, d.before a0 Z = true) (a b : Addr) (kb : ClassId) (cs : List Int32) (cz : Int32) (h0 : Heap) (hN : cs.length ≤ 32) (hn : cs.length ≠ 0) (hlat : ∀ c ∈ cs, ¬ c < 0 ∧ ¬ 255 < c) (C0 : Sta Z Z.heap "java/lang/String" "COMPACT_STRINGS" "Z" (.int cz)) (hcz : ¬ cz = 0) (gz : Z.heap.size ≤ a) (E0 : Exa Z h0 a "java/lang/String") (F0 : Fld Z h0 a "java/lang/String" "value" "[B" .null) (F1 : Fld Z h0 a "java/lang/String" "coder" "B" (.int (0 : Int32))) (A0 : Arv Z h0 b kb .char (Int32.ofNat cs.length) (cs.map .int) (.int 0)) :
    W.Ct wd Z a0 el l (⟨"java/lang/String", "<init>", "([C)V"⟩ : MethodName) jdk_42_method_3_code 2 none ({ frames := 3, cells := 1, slots := 32, locals := 57 } : Room) #[(.ref a), (.ref b)] h0 [a] (fun v h S => v = none ∧ Keep h0 h [a] ∧ ∃ t, h0.size ≤ t ∧ Str Z h a t cs) := by
  refine W.Ct.walk hwe (plainFor_of_name pn_java_lang_String) ?_
  intro p e s m below meth c T hE0 X
  refine W.castG (show entryFrame m #[(.ref a), (.ref b)] 2 = mkF m 0 #[.val (.ref a), .val (.ref b)] [] from by first | (simp [entryFrame, mkF, argsToLocals, Value.category]; done) | rfl) ?_
  refine W.o_aloadN X (pc' := 1) d_jdk_42_method_3_0 rfl rfl rfl ?_
  refine W.o_aloadN X (pc' := 2) d_jdk_42_method_3_1 rfl rfl rfl ?_
  refine W.o_iconst X (0 : Int32) (pc' := 3) d_jdk_42_method_3_2 rfl rfl ?_
  refine W.o_aloadN X (pc' := 4) d_jdk_42_method_3_3 rfl rfl rfl ?_
  refine W.o_arraylength X (pc' := 5) d_jdk_42_method_3_4 rfl A0 ?_
  refine W.o_aconst_null X (pc' := 6) d_jdk_42_method_3_5 rfl ?_
  refine W.o_special X (pc' := 9) d_jdk_42_method_3_6 rfl (z := (⟨"java/lang/String", "<init>", "([CIILjava/lang/Void;)V"⟩ : MethodName)) rfl (hw _ (List.mem_of_getElem? (i := 11) rfl)) (hw _ (List.mem_of_getElem? (i := 12) rfl)) (hw _ (List.mem_of_getElem? (i := 7) rfl)) (hw _ (List.mem_of_getElem? (i := 14) rfl)) (by decide) (ctNew4 l Z a0 hw a b kb cs cz h0 hN hn hlat C0 hcz gz E0 F0 F1 A0) (allS ⟨E0.lt, (Or.inr (Or.inl (by simp)))⟩ all0) [(.ref b), (.int (0 : Int32)), (.int (Int32.ofNat cs.length)), .null] rfl (rest := []) rfl pd___CIILjava_lang_Void__V rfl rfl (by decide) (by exact Nat.le_of_ble_eq_true rfl) (by decide) (by decide) (fun v30 T q31 => ?_)
  obtain ⟨h34, S32, ⟨rfl, K2, t, gt, R2⟩, X33⟩ := q31
  have X := X33 [] all0
  show W.Go _ _ _ _ _ _ _ _ _ _ _ (mkF m 9 #[.val (.ref a), .val (.ref b)] [])
  exact W.o_return X d_jdk_42_method_3_9 (by decide) (by decide) fun P hP => ⟨rfl, K2, t, gt, R2⟩
set_option maxRecDepth 65536 in
set_option maxHeartbeats 40000000 in
theorem ctNew4E (l : Launch) (Z : State) (a0 : Array Value) (hw : ∀ d ∈ tables_1, d.before a0 Z = true) (a b : Addr) (h0 : Heap) (gz : Z.heap.size ≤ a) (E0 : Exa Z h0 a "java/lang/String") (F0 : Fld Z h0 a "java/lang/String" "value" "[B" .null) (F1 : Fld Z h0 a "java/lang/String" "coder" "B" (.int (0 : Int32))) :
    W.Ct wd Z a0 el l (⟨"java/lang/String", "<init>", "([CIILjava/lang/Void;)V"⟩ : MethodName) jdk_42_method_149_code 6 none ({ frames := 1, cells := 4, slots := 8, locals := 12 } : Room) #[(.ref a), (.ref b), (.int (0 : Int32)), (.int (0 : Int32)), .null] h0 [a] (fun v h S => v = none ∧ Keep h0 h [a] ∧ ∃ t, Str Z h a t []) := by
  refine W.Ct.walk hwe (plainFor_of_name pn_java_lang_String) ?_
  intro p e s m below meth c T hE0 X
  refine W.castG (show entryFrame m #[(.ref a), (.ref b), (.int (0 : Int32)), (.int (0 : Int32)), .null] 6 = mkF m 0 #[.val (.ref a), .val (.ref b), .val (.int (0 : Int32)), .val (.int (0 : Int32)), .val .null, .unset] [] from by first | (simp [entryFrame, mkF, argsToLocals, Value.category]; done) | rfl) ?_
  have hwS : ∀ a ∈ Bundle.stringAtoms, a.before a0 Z = true := fun a ha => hw a (hwS0 a ha)
  refine W.o_aloadN X (pc' := 1) d_jdk_42_method_149_0 rfl rfl rfl ?_
  refine W.o_initO X (pc' := 4) d_jdk_42_method_149_1 rfl (hw _ (List.mem_of_getElem? (i := 15) rfl)) (hw _ (List.mem_of_getElem? (i := 16) rfl)) (hw _ (List.mem_of_getElem? (i := 17) rfl)) rfl (by decide) (by decide) (fun T X => ?_)
  refine W.o_iloadN X (pc' := 5) d_jdk_42_method_149_4 rfl rfl ?_
  refine W.o_ifne X (pt := 27) (pf := 8) d_jdk_42_method_149_5 ⟨by decide, by decide⟩ rfl (fun hc => absurd rfl hc) (fun _ => ?_)
  refine W.o_aloadN X (pc' := 9) d_jdk_42_method_149_8 rfl rfl rfl ?_
  refine W.o_ldcT X rfl (pc' := 11) d_jdk_42_method_149_9 rfl (hw _ (List.mem_of_getElem? (i := 18) rfl)) hwS (by decide) (vs := []) (z := 0) ⟨fun c hc => (nomatch hc), rfl⟩ (by decide) (by decide) (nn := 0) (by decide) (by decide) (by decide) (by decide) (fun T hl1 s1 u1 kl1 el1 El1 Cl1 Vl1 Bl1 nl1 X => ?_)
  refine W.o_getfield X (pc' := 14) d_jdk_42_method_149_11 rfl (hw _ (List.mem_of_getElem? (i := 24) rfl)) Via.refl Vl1 (fun T X => ?_)
  have f35 := (E0.ext el1)
  have f36 := (F0.ext el1)
  refine W.o_putfield X (pc' := 17) d_jdk_42_method_149_14 rfl (hw _ (List.mem_of_getElem? (i := 24) rfl)) Via.refl f36 f35 (Or.inr ⟨(hw _ (List.mem_of_getElem? (i := 20) rfl)), rfl, rfl⟩) (hw _ (List.mem_of_getElem? (i := 6) rfl)) (ty := (.array .byte)) (by decide) rfl rfl gz (Or.inr (Or.inl (by simp))) (fun T h37 w38 X => ?_)
  have f39 := f36.same w38
  refine W.o_aloadN X (pc' := 18) d_jdk_42_method_149_17 rfl rfl rfl ?_
  refine W.o_ldcT X rfl (pc' := 20) d_jdk_42_method_149_18 rfl (hw _ (List.mem_of_getElem? (i := 18) rfl)) hwS (by decide) (vs := []) (z := 0) ⟨fun c hc => (nomatch hc), rfl⟩ (by decide) (by decide) (nn := 0) (by decide) (by decide) (by decide) (by decide) (fun T hl2 s2 u2 kl2 el2 El2 Cl2 Vl2 Bl2 nl2 X => ?_)
  refine W.o_getfield X (pc' := 23) d_jdk_42_method_149_20 rfl (hw _ (List.mem_of_getElem? (i := 25) rfl)) Via.refl Cl2 (fun T X => ?_)
  have f40 := ((f35.wr w38).ext el2)
  have f41 := (((F1.ext el1).other w38 (Or.inr (slot_ne (Or.inr (hw _ (List.mem_of_getElem? (i := 21) rfl))) (Or.inr (hw _ (List.mem_of_getElem? (i := 20) rfl))) (by decide) (t := .byte) (t' := (.array .byte)) (by decide) (by decide)))).ext el2)
  refine W.o_putfieldN X (pc' := 26) d_jdk_42_method_149_23 rfl (hw _ (List.mem_of_getElem? (i := 25) rfl)) Via.refl f41 f40 (Or.inr ⟨(hw _ (List.mem_of_getElem? (i := 21) rfl)), rfl, rfl⟩) (hw _ (List.mem_of_getElem? (i := 6) rfl)) (ty := .byte) (v' := (.int (0 : Int32))) (by decide) rfl rfl gz (Or.inr (Or.inl (by simp))) (fun T h42 w43 X => ?_)
  have f44 := f41.same w43
  have f45 := (f40.wr w43)
  have f46 := ((f39.ext el2).other w43 (Or.inr (slot_ne (Or.inr (hw _ (List.mem_of_getElem? (i := 20) rfl))) (Or.inr (hw _ (List.mem_of_getElem? (i := 21) rfl))) (by decide) (t := (.array .byte)) (t' := .byte) (by decide) (by decide))))
  have f47 := (((Bl1.other w38 (Ne.symm (nl1 a (by simp)).2)).ext el2).other w43 (Ne.symm (nl1 a (by simp)).2))
  exact W.o_return X d_jdk_42_method_149_26 (by decide) (by decide) fun P hP => ⟨rfl, (((((Keep.refl h0 [a]).ext el1).wr w38 (Or.inl (List.mem_of_getElem? (i := 0) rfl))).ext el2).wr w43 (Or.inl (List.mem_of_getElem? (i := 0) rfl))), u1, f45, f44, f46, ⟨kl1, f47⟩, by decide, fun c hc => (nomatch hc)⟩
set_option maxRecDepth 65536 in
set_option maxHeartbeats 40000000 in
theorem ctNew1E (l : Launch) (Z : State) (a0 : Array Value) (hw : ∀ d ∈ tables_1, d.before a0 Z = true) (a b : Addr) (kb : ClassId) (h0 : Heap) (gz : Z.heap.size ≤ a) (E0 : Exa Z h0 a "java/lang/String") (F0 : Fld Z h0 a "java/lang/String" "value" "[B" .null) (F1 : Fld Z h0 a "java/lang/String" "coder" "B" (.int (0 : Int32))) (A0 : Arv Z h0 b kb .char (0 : Int32) [] (.int 0)) :
    W.Ct wd Z a0 el l (⟨"java/lang/String", "<init>", "([C)V"⟩ : MethodName) jdk_42_method_3_code 2 none ({ frames := 2, cells := 4, slots := 8, locals := 29 } : Room) #[(.ref a), (.ref b)] h0 [a] (fun v h S => v = none ∧ Keep h0 h [a] ∧ ∃ t, Str Z h a t []) := by
  refine W.Ct.walk hwe (plainFor_of_name pn_java_lang_String) ?_
  intro p e s m below meth c T hE0 X
  refine W.castG (show entryFrame m #[(.ref a), (.ref b)] 2 = mkF m 0 #[.val (.ref a), .val (.ref b)] [] from by first | (simp [entryFrame, mkF, argsToLocals, Value.category]; done) | rfl) ?_
  refine W.o_aloadN X (pc' := 1) d_jdk_42_method_3_0 rfl rfl rfl ?_
  refine W.o_aloadN X (pc' := 2) d_jdk_42_method_3_1 rfl rfl rfl ?_
  refine W.o_iconst X (0 : Int32) (pc' := 3) d_jdk_42_method_3_2 rfl rfl ?_
  refine W.o_aloadN X (pc' := 4) d_jdk_42_method_3_3 rfl rfl rfl ?_
  refine W.o_arraylength X (pc' := 5) d_jdk_42_method_3_4 rfl A0 ?_
  refine W.o_aconst_null X (pc' := 6) d_jdk_42_method_3_5 rfl ?_
  refine W.o_special X (pc' := 9) d_jdk_42_method_3_6 rfl (z := (⟨"java/lang/String", "<init>", "([CIILjava/lang/Void;)V"⟩ : MethodName)) rfl (hw _ (List.mem_of_getElem? (i := 11) rfl)) (hw _ (List.mem_of_getElem? (i := 12) rfl)) (hw _ (List.mem_of_getElem? (i := 7) rfl)) (hw _ (List.mem_of_getElem? (i := 14) rfl)) (by decide) (ctNew4E l Z a0 hw a b h0 gz E0 F0 F1) (allS ⟨E0.lt, (Or.inr (Or.inl (by simp)))⟩ all0) [(.ref b), (.int (0 : Int32)), (.int (0 : Int32)), .null] rfl (rest := []) rfl pd___CIILjava_lang_Void__V rfl rfl (by decide) (by exact Nat.le_of_ble_eq_true rfl) (by decide) (by decide) (fun v48 T q49 => ?_)
  obtain ⟨h52, S50, ⟨rfl, K2, t, R2⟩, X51⟩ := q49
  have X := X51 [] all0
  show W.Go _ _ _ _ _ _ _ _ _ _ _ (mkF m 9 #[.val (.ref a), .val (.ref b)] [])
  exact W.o_return X d_jdk_42_method_3_9 (by decide) (by decide) fun P hP => ⟨rfl, K2, t, R2⟩
set_option maxRecDepth 65536 in
set_option maxHeartbeats 40000000 in
theorem ctL1E (l : Launch) (Z : State) (a0 : Array Value) (hw : ∀ d ∈ tables_1, d.before a0 Z = true) (d e0 : Addr) (kd ke : ClassId) (cs ds : List Int32) (h0 : Heap) (h1 : cs.length ≤ 1000) (h2 : ds.length ≤ 1000) (hcs : ∀ c ∈ cs, ¬ c < 0 ∧ ¬ 255 < c) (hds : ∀ c ∈ ds, ¬ c < 0 ∧ ¬ 255 < c) (A0 : Arv Z h0 d kd .byte (Int32.ofNat cs.length) (cs.map lo) (.int 0)) (B0 : Arv Z h0 e0 ke .byte (Int32.ofNat ds.length) (ds.map lo) (.int 0)) :
    W.Ct wd Z a0 el l (⟨"java/lang/StringLatin1", "equals", "([B[B)Z"⟩ : MethodName) jdk_43_method_13_code 3 (some .boolean) ({ frames := 0, cells := 0, slots := 0, locals := 0 } : Room) #[(.ref d), (.ref e0)] h0 [] (fun v h S => v = some (.int (b2i (decide (cs = ds)))) ∧ h = h0) := by
  refine W.Ct.walk hwe (plainFor_of_name pn_java_lang_StringLatin1) ?_
  intro p e s m below meth c T hE0 X
  refine W.castG (show entryFrame m #[(.ref d), (.ref e0)] 3 = mkF m 0 #[.val (.ref d), .val (.ref e0), .unset] [] from by first | (simp [entryFrame, mkF, argsToLocals, Value.category]; done) | rfl) ?_
  refine W.o_aloadN X (pc' := 1) d_jdk_43_method_13_0 rfl rfl rfl ?_
  refine W.o_arraylength X (pc' := 2) d_jdk_43_method_13_1 rfl A0 ?_
  refine W.o_aloadN X (pc' := 3) d_jdk_43_method_13_2 rfl rfl rfl ?_
  refine W.o_arraylength X (pc' := 4) d_jdk_43_method_13_3 rfl B0 ?_
  refine W.o_if_icmpne X (pt := 34) (pf := 7) d_jdk_43_method_13_4 ⟨by decide, by decide⟩ rfl (fun hl => ?_) (fun hl => ?_)
  · refine W.o_iconst X (0 : Int32) (pc' := 35) d_jdk_43_method_13_34 rfl rfl ?_
    exact W.o_ireturn X d_jdk_43_method_13_35 rfl (Or.inl rfl) (v := 0) rfl (by decide) (by decide) fun P hP => ⟨by rw [decide_eq_false (fun q => hl (by rw [q]))]; rfl, rfl⟩
  · have hlen : cs.length = ds.length := o32_inj (by omega) (by omega) hl
    refine W.o_iconst X (0 : Int32) (pc' := 8) d_jdk_43_method_13_7 rfl rfl ?_
    refine W.o_istoreN X (pc' := 9) d_jdk_43_method_13_8 rfl (L' := #[.val (.ref d), .val (.ref e0), .val (.int (0 : Int32))]) rfl ?_
    have loop : ∀ (k j : Nat), j + k = cs.length → (∀ i (h1 : i < cs.length) (h2 : i < ds.length), i < j → cs[i] = ds[i]) → W.Go wd Z el ({ frames := 0, cells := 0, slots := 0, locals := 0 } : Room).cells ({ frames := 0, cells := 0, slots := 0, locals := 0 } : Room).slots (fun v h S => v = some (.int (b2i (decide (cs = ds)))) ∧ h = h0) p e s below T (mkF m 9 #[.val (.ref d), .val (.ref e0), .val (.int (Int32.ofNat j))] []) := by
      intro k
      induction k with
      | zero =>
        intro j hj hp
        have ej : j = cs.length := by omega
        subst ej
        have heq : cs = ds := List.ext_getElem hlen fun i h1 h2 => hp i h1 h2 h1
        refine W.o_iloadN X (pc' := 10) d_jdk_43_method_13_9 rfl rfl ?_
        refine W.o_aloadN X (pc' := 11) d_jdk_43_method_13_10 rfl rfl rfl ?_
        refine W.o_arraylength X (pc' := 12) d_jdk_43_method_13_11 rfl A0 ?_
        refine W.o_if_icmpge X (pt := 32) (pf := 15) d_jdk_43_method_13_12 ⟨by decide, by decide⟩ rfl (fun _ => ?_) (fun hc => absurd hc (o32_ge (Nat.le_refl _) (by omega)))
        refine W.o_iconst X (1 : Int32) (pc' := 33) d_jdk_43_method_13_32 rfl rfl ?_
        exact W.o_ireturn X d_jdk_43_method_13_33 rfl (Or.inl rfl) (v := 1) rfl (by decide) (by decide) fun P hP => ⟨by rw [decide_eq_true heq]; rfl, rfl⟩
      | succ k ih =>
        intro j hj hp
        have hj1 : j < cs.length := by omega
        have hj2 : j < ds.length := by omega
        refine W.o_iloadN X (pc' := 10) d_jdk_43_method_13_9 rfl rfl ?_
        refine W.o_aloadN X (pc' := 11) d_jdk_43_method_13_10 rfl rfl rfl ?_
        refine W.o_arraylength X (pc' := 12) d_jdk_43_method_13_11 rfl A0 ?_
        refine W.o_if_icmpge X (pt := 32) (pf := 15) d_jdk_43_method_13_12 ⟨by decide, by decide⟩ rfl (fun hc => absurd (o32_lt hj1 (by omega)).2 hc) (fun _ => ?_)
        refine W.o_aloadN X (pc' := 16) d_jdk_43_method_13_15 rfl rfl rfl ?_
        refine W.o_iloadN X (pc' := 17) d_jdk_43_method_13_16 rfl rfl ?_
        refine W.o_baload X (pc' := 18) d_jdk_43_method_13_17 rfl A0 (o32_lt hj1 (by omega)) (v := .int cs[j].toInt8.toInt32) (by rw [o32_clamp (by omega)]; exact getD_lo hj1 _) ?_
        refine W.o_aloadN X (pc' := 19) d_jdk_43_method_13_18 rfl rfl rfl ?_
        refine W.o_iloadN X (pc' := 20) d_jdk_43_method_13_19 rfl rfl ?_
        refine W.o_baload X (pc' := 21) d_jdk_43_method_13_20 rfl B0 (o32_lt hj2 (by omega)) (v := .int ds[j].toInt8.toInt32) (by rw [o32_clamp (by omega)]; exact getD_lo hj2 _) ?_
        refine W.o_if_icmpeq X (pt := 26) (pf := 24) d_jdk_43_method_13_21 ⟨by decide, by decide⟩ rfl (fun hc => ?_) (fun hc => ?_)
        · refine W.o_iinc X (1 : Int32) (pc' := 29) d_jdk_43_method_13_26 rfl rfl rfl (L' := #[.val (.ref d), .val (.ref e0), .val (.int ((Int32.ofNat j) + (1 : Int32)))]) rfl ?_
          refine W.o_goto X (pc' := 9) d_jdk_43_method_13_29 ⟨by decide, by decide⟩ ?_
          rw [o32_succ]
          exact ih (j + 1) (by omega) fun i h1 h2 hi => by
            rcases Nat.lt_succ_iff_lt_or_eq.mp hi with q | q
            · exact hp i h1 h2 q
            · subst q; exact lo_inj (hcs _ (List.getElem_mem h1)) (hds _ (List.getElem_mem h2)) hc
        · refine W.o_iconst X (0 : Int32) (pc' := 25) d_jdk_43_method_13_24 rfl rfl ?_
          exact W.o_ireturn X d_jdk_43_method_13_25 rfl (Or.inl rfl) (v := 0) rfl (by decide) (by decide) fun P hP => ⟨by rw [decide_eq_false (fun q => hc (by subst q; rfl))]; rfl, rfl⟩
    exact loop cs.length 0 (by omega) fun i h1 h2 hi => absurd hi (Nat.not_lt_zero i)
set_option maxRecDepth 65536 in
set_option maxHeartbeats 40000000 in
theorem ctSEq (l : Launch) (Z : State) (a0 : Array Value) (hw : ∀ d ∈ tables_1, d.before a0 Z = true) (a b t u : Addr) (cs ds : List Int32) (cz : Int32) (h0 : Heap) (C0 : Sta Z Z.heap "java/lang/String" "COMPACT_STRINGS" "Z" (.int cz)) (hcz : ¬ cz = 0) (hsame : a = b → cs = ds) (G0 : Str Z h0 a t cs) (G1 : Str Z h0 b u ds) :
    W.Ct wd Z a0 el l (⟨"java/lang/String", "equals", "(Ljava/lang/Object;)Z"⟩ : MethodName) jdk_42_method_66_code 3 (some .boolean) ({ frames := 1, cells := 0, slots := 0, locals := 14 } : Room) #[(.ref a), (.ref b)] h0 [] (fun v h S => v = some (.int (b2i (decide (cs = ds)))) ∧ h = h0) := by
  refine W.Ct.walk hwe (plainFor_of_name pn_java_lang_String) ?_
  intro p e s m below meth c T hE0 X
  refine W.castG (show entryFrame m #[(.ref a), (.ref b)] 3 = mkF m 0 #[.val (.ref a), .val (.ref b), .unset] [] from by first | (simp [entryFrame, mkF, argsToLocals, Value.category]; done) | rfl) ?_
  obtain ⟨E0, F0, F1, ⟨kt, A0⟩, n1, l1⟩ := G0
  obtain ⟨E1, F2, F3, ⟨ku, B0⟩, n2, l2⟩ := G1
  refine W.o_aloadN X (pc' := 1) d_jdk_42_method_66_0 rfl rfl rfl ?_
  refine W.o_aloadN X (pc' := 2) d_jdk_42_method_66_1 rfl rfl rfl ?_
  refine W.o_if_acmpne X (pt := 7) (pf := 5) d_jdk_42_method_66_2 rfl rfl ⟨by decide, by decide⟩ rfl (fun hab => ?_) (fun hab => ?_)
  · refine W.o_aloadN X (pc' := 8) d_jdk_42_method_66_7 rfl rfl rfl ?_
    refine W.o_instanceof_y X (pc' := 11) d_jdk_42_method_66_8 rfl (hw _ (List.mem_of_getElem? (i := 182) rfl)) (Ins.self E1) (fun T X => ?_)
    refine W.o_ifeq X (pt := 54) (pf := 14) d_jdk_42_method_66_11 ⟨by decide, by decide⟩ rfl (fun hc => absurd hc (by decide)) (fun _ => ?_)
    refine W.o_aloadN X (pc' := 15) d_jdk_42_method_66_14 rfl rfl rfl ?_
    refine W.o_checkcast X (pc' := 18) d_jdk_42_method_66_15 rfl (hw _ (List.mem_of_getElem? (i := 182) rfl)) (Ins.self E1) (fun T X => ?_)
    refine W.o_astoreN X (pc' := 19) d_jdk_42_method_66_18 rfl (L' := #[.val (.ref a), .val (.ref b), .val (.ref b)]) rfl rfl ?_
    refine W.o_getstatic X (pc' := 22) d_jdk_42_method_66_19 rfl (hw _ (List.mem_of_getElem? (i := 87) rfl)) Via.refl C0 (fun T X => ?_)
    refine W.o_ifeq X (pt := 36) (pf := 25) d_jdk_42_method_66_22 ⟨by decide, by decide⟩ rfl (fun hc => absurd hc hcz) (fun _ => ?_)
    refine W.o_aloadN X (pc' := 26) d_jdk_42_method_66_25 rfl rfl rfl ?_
    refine W.o_getfield X (pc' := 29) d_jdk_42_method_66_26 rfl (hw _ (List.mem_of_getElem? (i := 25) rfl)) Via.refl F0 (fun T X => ?_)
    refine W.o_aloadN X (pc' := 30) d_jdk_42_method_66_29 rfl rfl rfl ?_
    refine W.o_getfield X (pc' := 33) d_jdk_42_method_66_30 rfl (hw _ (List.mem_of_getElem? (i := 25) rfl)) Via.refl F2 (fun T X => ?_)
    refine W.o_if_icmpne X (pt := 54) (pf := 36) d_jdk_42_method_66_33 ⟨by decide, by decide⟩ rfl (fun hc => absurd rfl hc) (fun _ => ?_)
    refine W.o_aloadN X (pc' := 37) d_jdk_42_method_66_36 rfl rfl rfl ?_
    refine W.o_getfield X (pc' := 40) d_jdk_42_method_66_37 rfl (hw _ (List.mem_of_getElem? (i := 24) rfl)) Via.refl F1 (fun T X => ?_)
    refine W.o_aloadN X (pc' := 41) d_jdk_42_method_66_40 rfl rfl rfl ?_
    refine W.o_getfield X (pc' := 44) d_jdk_42_method_66_41 rfl (hw _ (List.mem_of_getElem? (i := 24) rfl)) Via.refl F3 (fun T X => ?_)
    refine W.o_static X (pc' := 47) d_jdk_42_method_66_44 rfl (z := (⟨"java/lang/StringLatin1", "equals", "([B[B)Z"⟩ : MethodName)) (hw _ (List.mem_of_getElem? (i := 183) rfl)) (hw _ (List.mem_of_getElem? (i := 184) rfl)) (hw _ (List.mem_of_getElem? (i := 185) rfl)) (hw _ (List.mem_of_getElem? (i := 186) rfl)) (by decide) (ctL1E l Z a0 hw t u kt ku cs ds h0 n1 n2 l1 l2 A0 B0) (fun _ q => nomatch q) [(.ref t), (.ref u)] rfl (rest := []) rfl pd___B_B_Z rfl rfl (by decide) (by exact Nat.le_of_ble_eq_true rfl) (by decide) (by decide) (fun v53 T q54 => ?_)
    obtain ⟨h57, S55, ⟨rfl, eh⟩, X56⟩ := q54
    have eh := eh.symm
    subst eh
    have X := X56 [] all0
    show W.Go _ _ _ _ _ _ _ _ _ _ _ (mkF m 47 #[.val (.ref a), .val (.ref b), .val (.ref b)] [(.int (b2i (decide (cs = ds))))])
    refine W.o_ifeq X (pt := 54) (pf := 50) d_jdk_42_method_66_47 ⟨by decide, by decide⟩ rfl (fun hc => ?_) (fun hc => ?_)
    · refine W.o_iconst X (0 : Int32) (pc' := 55) d_jdk_42_method_66_54 rfl rfl ?_
      exact W.o_ireturn X d_jdk_42_method_66_55 rfl (Or.inl rfl) (v := 0) rfl (by decide) (by decide) fun P hP => ⟨by rw [hc], rfl⟩
    · refine W.o_iconst X (1 : Int32) (pc' := 51) d_jdk_42_method_66_50 rfl rfl ?_
      refine W.o_goto X (pc' := 55) d_jdk_42_method_66_51 ⟨by decide, by decide⟩ ?_
      exact W.o_ireturn X d_jdk_42_method_66_55 rfl (Or.inl rfl) (v := 1) rfl (by decide) (by decide) fun P hP => ⟨by rw [b2i_n hc]; rfl, rfl⟩
  · refine W.o_iconst X (1 : Int32) (pc' := 6) d_jdk_42_method_66_5 rfl rfl ?_
    exact W.o_ireturn X d_jdk_42_method_66_6 rfl (Or.inl rfl) (v := 1) rfl (by decide) (by decide) fun P hP => ⟨by rw [decide_eq_true (hsame (Value.ref.inj hab))]; rfl, rfl⟩
set_option maxRecDepth 65536 in
set_option maxHeartbeats 40000000 in
theorem ctIsL (l : Launch) (Z : State) (a0 : Array Value) (hw : ∀ d ∈ tables_1, d.before a0 Z = true) (a : Addr) (cz cd : Int32) (h0 : Heap) (C0 : Sta Z Z.heap "java/lang/String" "COMPACT_STRINGS" "Z" (.int cz)) (hcz : ¬ cz = 0) (F0 : Fld Z h0 a "java/lang/String" "coder" "B" (.int cd)) :
    W.Ct wd Z a0 el l (⟨"java/lang/String", "isLatin1", "()Z"⟩ : MethodName) jdk_42_method_154_code 1 (some .boolean) ({ frames := 0, cells := 0, slots := 0, locals := 0 } : Room) #[(.ref a)] h0 [] (fun v h S => v = some (.int (if cd = 0 then 1 else 0)) ∧ h = h0) := by
  refine W.Ct.walk hwe (plainFor_of_name pn_java_lang_String) ?_
  intro p e s m below meth c T hE0 X
  refine W.castG (show entryFrame m #[(.ref a)] 1 = mkF m 0 #[.val (.ref a)] [] from by first | (simp [entryFrame, mkF, argsToLocals, Value.category]; done) | rfl) ?_
  refine W.o_getstatic X (pc' := 3) d_jdk_42_method_154_0 rfl (hw _ (List.mem_of_getElem? (i := 87) rfl)) Via.refl C0 (fun T X => ?_)
  refine W.o_ifeq X (pt := 17) (pf := 6) d_jdk_42_method_154_3 ⟨by decide, by decide⟩ rfl (fun hc => absurd hc hcz) (fun _ => ?_)
  refine W.o_aloadN X (pc' := 7) d_jdk_42_method_154_6 rfl rfl rfl ?_
  refine W.o_getfield X (pc' := 10) d_jdk_42_method_154_7 rfl (hw _ (List.mem_of_getElem? (i := 25) rfl)) Via.refl F0 (fun T X => ?_)
  refine W.o_ifne X (pt := 17) (pf := 13) d_jdk_42_method_154_10 ⟨by decide, by decide⟩ rfl (fun hc => ?_) (fun hc => ?_)
  · refine W.o_iconst X (0 : Int32) (pc' := 18) d_jdk_42_method_154_17 rfl rfl ?_
    exact W.o_ireturn X d_jdk_42_method_154_18 rfl (Or.inl rfl) (v := 0) rfl (by decide) (by decide) fun P hP => ⟨by simp [hc], rfl⟩
  · refine W.o_iconst X (1 : Int32) (pc' := 14) d_jdk_42_method_154_13 rfl rfl ?_
    refine W.o_goto X (pc' := 18) d_jdk_42_method_154_14 ⟨by decide, by decide⟩ ?_
    exact W.o_ireturn X d_jdk_42_method_154_18 rfl (Or.inl rfl) (v := 1) rfl (by decide) (by decide) fun P hP => ⟨by simp [hc], rfl⟩
set_option maxRecDepth 65536 in
set_option maxHeartbeats 40000000 in
theorem ctCdr (l : Launch) (Z : State) (a0 : Array Value) (hw : ∀ d ∈ tables_1, d.before a0 Z = true) (a : Addr) (cz cd : Int32) (h0 : Heap) (C0 : Sta Z Z.heap "java/lang/String" "COMPACT_STRINGS" "Z" (.int cz)) (hcz : ¬ cz = 0) (hcd : nar .byte cd = cd) (F0 : Fld Z h0 a "java/lang/String" "coder" "B" (.int cd)) :
    W.Ct wd Z a0 el l (⟨"java/lang/String", "coder", "()B"⟩ : MethodName) jdk_42_method_152_code 1 (some .byte) ({ frames := 0, cells := 0, slots := 0, locals := 0 } : Room) #[(.ref a)] h0 [] (fun v h S => v = some (.int cd) ∧ h = h0) := by
  refine W.Ct.walk hwe (plainFor_of_name pn_java_lang_String) ?_
  intro p e s m below meth c T hE0 X
  refine W.castG (show entryFrame m #[(.ref a)] 1 = mkF m 0 #[.val (.ref a)] [] from by first | (simp [entryFrame, mkF, argsToLocals, Value.category]; done) | rfl) ?_
  refine W.o_getstatic X (pc' := 3) d_jdk_42_method_152_0 rfl (hw _ (List.mem_of_getElem? (i := 87) rfl)) Via.refl C0 (fun T X => ?_)
  refine W.o_ifeq X (pt := 13) (pf := 6) d_jdk_42_method_152_3 ⟨by decide, by decide⟩ rfl (fun hc => absurd hc hcz) (fun _ => ?_)
  refine W.o_aloadN X (pc' := 7) d_jdk_42_method_152_6 rfl rfl rfl ?_
  refine W.o_getfield X (pc' := 10) d_jdk_42_method_152_7 rfl (hw _ (List.mem_of_getElem? (i := 25) rfl)) Via.refl F0 (fun T X => ?_)
  refine W.o_goto X (pc' := 14) d_jdk_42_method_152_10 ⟨by decide, by decide⟩ ?_
  exact W.o_ireturn X d_jdk_42_method_152_14 rfl (Or.inr (Or.inl rfl)) (v := cd) hcd (by decide) (by decide) fun P hP => ⟨rfl, rfl⟩
set_option maxRecDepth 65536 in
set_option maxHeartbeats 40000000 in
theorem ctMin (l : Launch) (Z : State) (a0 : Array Value) (hw : ∀ d ∈ tables_1, d.before a0 Z = true) (i0 i1 : Int32) (h0 : Heap)  :
    W.Ct wd Z a0 el l (⟨"java/lang/Math", "min", "(II)I"⟩ : MethodName) jdk_29_method_69_code 2 (some .int) ({ frames := 0, cells := 0, slots := 0, locals := 0 } : Room) #[(.int i0), (.int i1)] h0 [] (fun v h S => v = some (.int (if i1 < i0 then i1 else i0)) ∧ h = h0) := by
  refine W.Ct.walk hwe (Jvm.Free.JP.mathPlain rfl (by decide +kernel)) ?_
  intro p e s m below meth c T hE0 X
  refine W.castG (show entryFrame m #[(.int i0), (.int i1)] 2 = mkF m 0 #[.val (.int i0), .val (.int i1)] [] from by first | (simp [entryFrame, mkF, argsToLocals, Value.category]; done) | rfl) ?_
  refine W.o_iloadN X (pc' := 1) d_jdk_29_method_69_0 rfl rfl ?_
  refine W.o_iloadN X (pc' := 2) d_jdk_29_method_69_1 rfl rfl ?_
  refine W.o_if_icmpgt X (pt := 9) (pf := 5) d_jdk_29_method_69_2 ⟨by decide, by decide⟩ rfl (fun hc => ?_) (fun hc => ?_)
  · refine W.o_iloadN X (pc' := 10) d_jdk_29_method_69_9 rfl rfl ?_
    exact W.o_ireturnI X d_jdk_29_method_69_10 rfl (by decide) (by decide) fun P hP => ⟨by rw [if_pos hc], rfl⟩
  · refine W.o_iloadN X (pc' := 6) d_jdk_29_method_69_5 rfl rfl ?_
    refine W.o_goto X (pc' := 10) d_jdk_29_method_69_6 ⟨by decide, by decide⟩ ?_
    exact W.o_ireturnI X d_jdk_29_method_69_10 rfl (by decide) (by decide) fun P hP => ⟨by rw [if_neg hc], rfl⟩
set_option maxRecDepth 65536 in
set_option maxHeartbeats 40000000 in
theorem ctMax (l : Launch) (Z : State) (a0 : Array Value) (hw : ∀ d ∈ tables_1, d.before a0 Z = true) (i0 i1 : Int32) (h0 : Heap)  :
    W.Ct wd Z a0 el l (⟨"java/lang/Math", "max", "(II)I"⟩ : MethodName) jdk_29_method_65_code 2 (some .int) ({ frames := 0, cells := 0, slots := 0, locals := 0 } : Room) #[(.int i0), (.int i1)] h0 [] (fun v h S => v = some (.int (if i0 < i1 then i1 else i0)) ∧ h = h0) := by
  refine W.Ct.walk hwe (Jvm.Free.JP.mathPlain rfl (by decide +kernel)) ?_
  intro p e s m below meth c T hE0 X
  refine W.castG (show entryFrame m #[(.int i0), (.int i1)] 2 = mkF m 0 #[.val (.int i0), .val (.int i1)] [] from by first | (simp [entryFrame, mkF, argsToLocals, Value.category]; done) | rfl) ?_
  refine W.o_iloadN X (pc' := 1) d_jdk_29_method_65_0 rfl rfl ?_
  refine W.o_iloadN X (pc' := 2) d_jdk_29_method_65_1 rfl rfl ?_
  refine W.o_if_icmplt X (pt := 9) (pf := 5) d_jdk_29_method_65_2 ⟨by decide, by decide⟩ rfl (fun hc => ?_) (fun hc => ?_)
  · refine W.o_iloadN X (pc' := 10) d_jdk_29_method_65_9 rfl rfl ?_
    exact W.o_ireturnI X d_jdk_29_method_65_10 rfl (by decide) (by decide) fun P hP => ⟨by rw [if_pos hc], rfl⟩
  · refine W.o_iloadN X (pc' := 6) d_jdk_29_method_65_5 rfl rfl ?_
    refine W.o_goto X (pc' := 10) d_jdk_29_method_65_6 ⟨by decide, by decide⟩ ?_
    exact W.o_ireturnI X d_jdk_29_method_65_10 rfl (by decide) (by decide) fun P hP => ⟨by rw [if_neg hc], rfl⟩
set_option maxRecDepth 65536 in
set_option maxHeartbeats 40000000 in
theorem ctLen (l : Launch) (Z : State) (a0 : Array Value) (hw : ∀ d ∈ tables_1, d.before a0 Z = true) (a t : Addr) (cs : List Int32) (cz : Int32) (h0 : Heap) (C0 : Sta Z Z.heap "java/lang/String" "COMPACT_STRINGS" "Z" (.int cz)) (hcz : ¬ cz = 0) (G0 : Str Z h0 a t cs) :
    W.Ct wd Z a0 el l (⟨"java/lang/String", "length", "()I"⟩ : MethodName) jdk_42_method_54_code 1 (some .int) ({ frames := 1, cells := 0, slots := 0, locals := 13 } : Room) #[(.ref a)] h0 [] (fun v h S => v = some (.int (Int32.ofNat cs.length)) ∧ h = h0) := by
  refine W.Ct.walk hwe (plainFor_of_name pn_java_lang_String) ?_
  intro p e s m below meth c T hE0 X
  refine W.castG (show entryFrame m #[(.ref a)] 1 = mkF m 0 #[.val (.ref a)] [] from by first | (simp [entryFrame, mkF, argsToLocals, Value.category]; done) | rfl) ?_
  obtain ⟨E0, F0, F1, ⟨kt, A0⟩, n1, l1⟩ := G0
  refine W.o_aloadN X (pc' := 1) d_jdk_42_method_54_0 rfl rfl rfl ?_
  refine W.o_getfield X (pc' := 4) d_jdk_42_method_54_1 rfl (hw _ (List.mem_of_getElem? (i := 24) rfl)) Via.refl F1 (fun T X => ?_)
  refine W.o_arraylength X (pc' := 5) d_jdk_42_method_54_4 rfl A0 ?_
  refine W.o_aloadN X (pc' := 6) d_jdk_42_method_54_5 rfl rfl rfl ?_
  refine W.o_virtual X (pc' := 9) d_jdk_42_method_54_6 rfl (u := (⟨"java/lang/String", "coder", "()B"⟩ : MethodName)) (z := (⟨"java/lang/String", "coder", "()B"⟩ : MethodName)) (hw _ (List.mem_of_getElem? (i := 82) rfl)) (hw _ (List.mem_of_getElem? (i := 83) rfl)) (fun s' hZ => notFace_of_selects (args := #[]) (mvT hZ (hw _ (List.mem_of_getElem? (i := 85) rfl)))) (hw _ (List.mem_of_getElem? (i := 85) rfl)) (hw _ (List.mem_of_getElem? (i := 84) rfl)) (hw _ (List.mem_of_getElem? (i := 7) rfl)) (hw _ (List.mem_of_getElem? (i := 86) rfl)) (by decide) E0 (ctCdr l Z a0 hw a cz 0 h0 C0 hcz rfl F0) (fun _ q => nomatch q) [] rfl (rest := [(.int (Int32.ofNat cs.length))]) rfl pd___B rfl rfl (by decide) (by exact Nat.le_of_ble_eq_true rfl) (by decide) (by decide) (fun v58 T q59 => ?_)
  obtain ⟨h62, S60, ⟨rfl, eh⟩, X61⟩ := q59
  have eh := eh.symm
  subst eh
  have X := X61 [] all0
  show W.Go _ _ _ _ _ _ _ _ _ _ _ (mkF m 9 #[.val (.ref a)] [(.int (0 : Int32)), (.int (Int32.ofNat cs.length))])
  refine W.o_ishr X (pc' := 10) d_jdk_42_method_54_9 rfl ?_
  rw [shr0]
  exact W.o_ireturnI X d_jdk_42_method_54_10 rfl (by decide) (by decide) fun P hP => ⟨rfl, rfl⟩
set_option maxRecDepth 65536 in
set_option maxHeartbeats 40000000 in
theorem ctASB (l : Launch) (Z : State) (a0 : Array Value) (hw : ∀ d ∈ tables_1, d.before a0 Z = true) (a : Addr) (cz : Int32) (h0 : Heap) (C0 : Sta Z Z.heap "java/lang/String" "COMPACT_STRINGS" "Z" (.int cz)) (hcz : ¬ cz = 0) (gz : Z.heap.size ≤ a) (E0 : Exa Z h0 a "java/lang/StringBuilder") (F0 : Fld Z h0 a "java/lang/AbstractStringBuilder" "value" "[B" .null) (F1 : Fld Z h0 a "java/lang/AbstractStringBuilder" "coder" "B" (.int (0 : Int32))) (F2 : Fld Z h0 a "java/lang/AbstractStringBuilder" "count" "I" (.int (0 : Int32))) :
    W.Ct wd Z a0 el l (⟨"java/lang/AbstractStringBuilder", "<init>", "(I)V"⟩ : MethodName) jdk_68_method_2_code 2 none ({ frames := 1, cells := 1, slots := 16, locals := 12 } : Room) #[(.ref a), (.int (16 : Int32))] h0 [] (fun v h S => v = none ∧ Keep h0 h [a] ∧ ∃ d, h0.size ≤ d ∧ Bld Z h a d 16 [] ∧ S d) := by
  refine W.Ct.walk hwe (plainFor_of_name pn_java_lang_AbstractStringBuilder) ?_
  intro p e s m below meth c T hE0 X
  refine W.castG (show entryFrame m #[(.ref a), (.int (16 : Int32))] 2 = mkF m 0 #[.val (.ref a), .val (.int (16 : Int32))] [] from by first | (simp [entryFrame, mkF, argsToLocals, Value.category]; done) | rfl) ?_
  refine W.o_aloadN X (pc' := 1) d_jdk_68_method_2_0 rfl rfl rfl ?_
  refine W.o_initO X (pc' := 4) d_jdk_68_method_2_1 rfl (hw _ (List.mem_of_getElem? (i := 61) rfl)) (hw _ (List.mem_of_getElem? (i := 16) rfl)) (hw _ (List.mem_of_getElem? (i := 17) rfl)) rfl (by decide) (by decide) (fun T X => ?_)
  refine W.o_getstatic X (pc' := 7) d_jdk_68_method_2_4 rfl (hw _ (List.mem_of_getElem? (i := 62) rfl)) Via.refl C0 (fun T X => ?_)
  refine W.o_ifeq X (pt := 25) (pf := 10) d_jdk_68_method_2_7 ⟨by decide, by decide⟩ rfl (fun hc => absurd hc hcz) (fun _ => ?_)
  refine W.o_aloadN X (pc' := 11) d_jdk_68_method_2_10 rfl rfl rfl ?_
  refine W.o_iloadN X (pc' := 12) d_jdk_68_method_2_11 rfl rfl ?_
  refine W.o_newarrayE X (pc' := 14) d_jdk_68_method_2_12 rfl (hw _ (List.mem_of_getElem? (i := 19) rfl)) (by decide) (cap := 16) (by decide) (by decide) (by decide) (by decide) (ad := "[B") (by decide) (fun T h63 b64 k65 g66 z67 e68 a69 x70 X => ?_)
  have f71 : Arv Z h63 b64 k65 .byte (16 : Int32) [(.int (0 : Int32)), (.int (0 : Int32)), (.int (0 : Int32)), (.int (0 : Int32)), (.int (0 : Int32)), (.int (0 : Int32)), (.int (0 : Int32)), (.int (0 : Int32)), (.int (0 : Int32)), (.int (0 : Int32)), (.int (0 : Int32)), (.int (0 : Int32)), (.int (0 : Int32)), (.int (0 : Int32)), (.int (0 : Int32)), (.int (0 : Int32))] (.int (0 : Int32)) := a69.pad (pad_rep [] (.int (0 : Int32)) 16)
  have f72 := (E0.ext e68)
  have f73 := (F0.ext e68)
  refine W.o_putfield X (pc' := 17) d_jdk_68_method_2_14 rfl (hw _ (List.mem_of_getElem? (i := 63) rfl)) Via.refl f73 f72 (Or.inl (hw _ (List.mem_of_getElem? (i := 64) rfl))) (hw _ (List.mem_of_getElem? (i := 50) rfl)) (ty := (.array .byte)) (by decide) rfl rfl gz (Or.inr (Or.inr (Or.inl ⟨_, f72, by decide, by decide⟩))) (fun T h74 w75 X => ?_)
  have f76 := f73.same w75
  refine W.o_aloadN X (pc' := 18) d_jdk_68_method_2_17 rfl rfl rfl ?_
  refine W.o_iconst X (0 : Int32) (pc' := 19) d_jdk_68_method_2_18 rfl rfl ?_
  have f77 := (f72.wr w75)
  have f78 := ((F1.ext e68).other w75 (Or.inr (slot_ne (Or.inl (hw _ (List.mem_of_getElem? (i := 66) rfl))) (Or.inl (hw _ (List.mem_of_getElem? (i := 64) rfl))) (by decide) (t := .byte) (t' := (.array .byte)) (by decide) (by decide))))
  refine W.o_putfieldN X (pc' := 22) d_jdk_68_method_2_19 rfl (hw _ (List.mem_of_getElem? (i := 65) rfl)) Via.refl f78 f77 (Or.inl (hw _ (List.mem_of_getElem? (i := 66) rfl))) (hw _ (List.mem_of_getElem? (i := 50) rfl)) (ty := .byte) (v' := (.int (0 : Int32))) (by decide) rfl rfl gz (Or.inr (Or.inr (Or.inl ⟨_, f77, by decide, by decide⟩))) (fun T h79 w80 X => ?_)
  have f81 := f78.same w80
  refine W.o_goto X (pc' := 38) d_jdk_68_method_2_22 ⟨by decide, by decide⟩ ?_
  have f82 := (f77.wr w80)
  have f83 := (f76.other w80 (Or.inr (slot_ne (Or.inl (hw _ (List.mem_of_getElem? (i := 64) rfl))) (Or.inl (hw _ (List.mem_of_getElem? (i := 66) rfl))) (by decide) (t := (.array .byte)) (t' := .byte) (by decide) (by decide))))
  have f84 := (((F2.ext e68).other w75 (Or.inr (slot_ne (Or.inl (hw _ (List.mem_of_getElem? (i := 89) rfl))) (Or.inl (hw _ (List.mem_of_getElem? (i := 64) rfl))) (by decide) (t := .int) (t' := (.array .byte)) (by decide) (by decide)))).other w80 (Or.inr (slot_ne (Or.inl (hw _ (List.mem_of_getElem? (i := 89) rfl))) (Or.inl (hw _ (List.mem_of_getElem? (i := 66) rfl))) (by decide) (t := .int) (t' := .byte) (by decide) (by decide))))
  have f85 := ((f71.other w75 (Ne.symm (Nat.ne_of_lt (Nat.lt_of_lt_of_le E0.lt (Nat.le_of_eq g66.symm))))).other w80 (Ne.symm (Nat.ne_of_lt (Nat.lt_of_lt_of_le E0.lt (Nat.le_of_eq g66.symm)))))
  have f86 := ((x70.wr w75).wr w80)
  exact W.o_return X d_jdk_68_method_2_38 (by decide) (by decide) fun P hP => ⟨rfl, ((((Keep.refl h0 [a]).ext e68).wr w75 (Or.inl (List.mem_of_getElem? (i := 0) rfl))).wr w80 (Or.inl (List.mem_of_getElem? (i := 0) rfl))), b64, (Nat.le_trans (Nat.le_refl _) (Nat.le_of_eq g66.symm)), ⟨f82, f81, f83, f84, ⟨_, f85⟩, f86, z67, gz, Or.inl rfl, by decide, fun _ q => nomatch q⟩, hP b64 (by simp)⟩
set_option maxRecDepth 65536 in
set_option maxHeartbeats 40000000 in
theorem ctSB (l : Launch) (Z : State) (a0 : Array Value) (hw : ∀ d ∈ tables_1, d.before a0 Z = true) (a : Addr) (cz : Int32) (h0 : Heap) (C0 : Sta Z Z.heap "java/lang/String" "COMPACT_STRINGS" "Z" (.int cz)) (hcz : ¬ cz = 0) (gz : Z.heap.size ≤ a) (E0 : Exa Z h0 a "java/lang/StringBuilder") (F0 : Fld Z h0 a "java/lang/AbstractStringBuilder" "value" "[B" .null) (F1 : Fld Z h0 a "java/lang/AbstractStringBuilder" "coder" "B" (.int (0 : Int32))) (F2 : Fld Z h0 a "java/lang/AbstractStringBuilder" "count" "I" (.int (0 : Int32))) :
    W.Ct wd Z a0 el l (⟨"java/lang/StringBuilder", "<init>", "()V"⟩ : MethodName) jdk_67_method_1_code 1 none ({ frames := 2, cells := 1, slots := 16, locals := 25 } : Room) #[(.ref a)] h0 [] (fun v h S => v = none ∧ Keep h0 h [a] ∧ ∃ d, h0.size ≤ d ∧ Bld Z h a d 16 [] ∧ S d) := by
  refine W.Ct.walk hwe (plainFor_of_name pn_java_lang_StringBuilder) ?_
  intro p e s m below meth c T hE0 X
  refine W.castG (show entryFrame m #[(.ref a)] 1 = mkF m 0 #[.val (.ref a)] [] from by first | (simp [entryFrame, mkF, argsToLocals, Value.category]; done) | rfl) ?_
  refine W.o_aloadN X (pc' := 1) d_jdk_67_method_1_0 rfl rfl rfl ?_
  refine W.o_bipush X (16 : Int32) (pc' := 3) d_jdk_67_method_1_1 rfl rfl ?_
  refine W.o_special X (pc' := 6) d_jdk_67_method_1_3 rfl (z := (⟨"java/lang/AbstractStringBuilder", "<init>", "(I)V"⟩ : MethodName)) rfl (hw _ (List.mem_of_getElem? (i := 55) rfl)) (hw _ (List.mem_of_getElem? (i := 56) rfl)) (hw _ (List.mem_of_getElem? (i := 59) rfl)) (hw _ (List.mem_of_getElem? (i := 60) rfl)) (by decide) (ctASB l Z a0 hw a cz h0 C0 hcz gz E0 F0 F1 F2) (fun _ q => nomatch q) [(.int (16 : Int32))] rfl (rest := []) rfl pd__I_V rfl rfl (by decide) (by exact Nat.le_of_ble_eq_true rfl) (by decide) (by decide) (fun v87 T q88 => ?_)
  obtain ⟨h1, S89, ⟨rfl, K1, d, gd, G1, sd⟩, X90⟩ := q88
  have X := X90 [d] (allS ⟨G1.lt', sd⟩ all0)
  show W.Go _ _ _ _ _ _ _ _ _ _ _ (mkF m 6 #[.val (.ref a)] [])
  exact W.o_return X d_jdk_67_method_1_6 (by decide) (by decide) fun P hP => ⟨rfl, K1, d, gd, G1, hP d (by simp)⟩
set_option maxRecDepth 65536 in
set_option maxHeartbeats 40000000 in
theorem ctNL (l : Launch) (Z : State) (a0 : Array Value) (hw : ∀ d ∈ tables_1, d.before a0 Z = true) (g : Nat) (h0 : Heap) (hg : g ≤ 18) :
    W.Ct wd Z a0 el l (⟨"jdk/internal/util/ArraysSupport", "newLength", "(III)I"⟩ : MethodName) jdk_48_method_27_code 4 (some .int) ({ frames := 1, cells := 0, slots := 0, locals := 14 } : Room) #[(.int (16 : Int32)), (.int (Int32.ofNat g)), (.int (18 : Int32))] h0 [] (fun v h S => v = some (.int 34) ∧ h = h0) := by
  refine W.Ct.walk hwe (plainFor_of_name pn_jdk_internal_util_ArraysSupport) ?_
  intro p e s m below meth c T hE0 X
  refine W.castG (show entryFrame m #[(.int (16 : Int32)), (.int (Int32.ofNat g)), (.int (18 : Int32))] 4 = mkF m 0 #[.val (.int (16 : Int32)), .val (.int (Int32.ofNat g)), .val (.int (18 : Int32)), .unset] [] from by first | (simp [entryFrame, mkF, argsToLocals, Value.category]; done) | rfl) ?_
  refine W.o_iloadN X (pc' := 1) d_jdk_48_method_27_0 rfl rfl ?_
  refine W.o_iloadN X (pc' := 2) d_jdk_48_method_27_1 rfl rfl ?_
  refine W.o_iloadN X (pc' := 3) d_jdk_48_method_27_2 rfl rfl ?_
  refine W.o_static X (pc' := 6) d_jdk_48_method_27_3 rfl (z := (⟨"java/lang/Math", "max", "(II)I"⟩ : MethodName)) (hw _ (List.mem_of_getElem? (i := 196) rfl)) (hw _ (List.mem_of_getElem? (i := 197) rfl)) (hw _ (List.mem_of_getElem? (i := 160) rfl)) (hw _ (List.mem_of_getElem? (i := 198) rfl)) (by decide) (ctMax l Z a0 hw (Int32.ofNat g) (18 : Int32) h0) (fun _ q => nomatch q) [(.int (Int32.ofNat g)), (.int (18 : Int32))] rfl (rest := [(.int (16 : Int32))]) rfl pd__II_I rfl rfl (by decide) (by exact Nat.le_of_ble_eq_true rfl) (by decide) (by decide) (fun v91 T q92 => ?_)
  obtain ⟨h95, S93, ⟨rfl, eh⟩, X94⟩ := q92
  have eh := eh.symm
  subst eh
  have X := X94 [] all0
  show W.Go _ _ _ _ _ _ _ _ _ _ _ (mkF m 6 #[.val (.int (16 : Int32)), .val (.int (Int32.ofNat g)), .val (.int (18 : Int32)), .unset] [(.int (if (Int32.ofNat g) < (18 : Int32) then (18 : Int32) else (Int32.ofNat g))), (.int (16 : Int32))])
  have hmx : (if (Int32.ofNat g) < (18 : Int32) then (18 : Int32) else (Int32.ofNat g)) = (18 : Int32) := by
    split
    · rfl
    · next q => exact congrArg Int32.ofNat (Nat.le_antisymm hg (Nat.le_of_not_lt fun u => q (o32_lt (n := 18) u (by decide)).2))
  rw [hmx]
  refine W.o_iadd X (pc' := 7) d_jdk_48_method_27_6 rfl ?_
  refine W.o_istoreN X (pc' := 8) d_jdk_48_method_27_7 rfl (L' := #[.val (.int (16 : Int32)), .val (.int (Int32.ofNat g)), .val (.int (18 : Int32)), .val (.int ((16 : Int32) + (18 : Int32)))]) rfl ?_
  refine W.o_iconst X (0 : Int32) (pc' := 9) d_jdk_48_method_27_8 rfl rfl ?_
  refine W.o_iloadN X (pc' := 10) d_jdk_48_method_27_9 rfl rfl ?_
  refine W.o_if_icmpge X (pt := 21) (pf := 13) d_jdk_48_method_27_10 ⟨by decide, by decide⟩ rfl (fun hc => absurd (by decide) hc) (fun _ => ?_)
  refine W.o_iloadN X (pc' := 14) d_jdk_48_method_27_13 rfl rfl ?_
  refine W.o_ldcI X (v := (2147483639 : Int32)) (pc' := 16) d_jdk_48_method_27_14 rfl (hw _ (List.mem_of_getElem? (i := 199) rfl)) ?_
  refine W.o_if_icmpgt X (pt := 21) (pf := 19) d_jdk_48_method_27_16 ⟨by decide, by decide⟩ rfl (fun hc => absurd hc (by decide)) (fun _ => ?_)
  refine W.o_iloadN X (pc' := 20) d_jdk_48_method_27_19 rfl rfl ?_
  exact W.o_ireturnI X d_jdk_48_method_27_20 rfl (by decide) (by decide) fun P hP => ⟨rfl, rfl⟩
set_option maxRecDepth 65536 in
set_option maxHeartbeats 40000000 in
theorem ctNC (l : Launch) (Z : State) (a0 : Array Value) (hw : ∀ d ∈ tables_1, d.before a0 Z = true) (b d : Addr) (kd : ClassId) (nd : Nat) (vs : List Value) (h0 : Heap) (h1 : 16 < nd) (h2 : nd ≤ 34) (F0 : Fld Z h0 b "java/lang/AbstractStringBuilder" "value" "[B" (.ref d)) (F1 : Fld Z h0 b "java/lang/AbstractStringBuilder" "coder" "B" (.int (0 : Int32))) (A0 : Arv Z h0 d kd .byte (16 : Int32) vs (.int 0)) :
    W.Ct wd Z a0 el l (⟨"java/lang/AbstractStringBuilder", "newCapacity", "(I)I"⟩ : MethodName) jdk_68_method_10_code 6 (some .int) ({ frames := 2, cells := 0, slots := 0, locals := 29 } : Room) #[(.ref b), (.int (Int32.ofNat nd))] h0 [] (fun v h S => v = some (.int 34) ∧ h = h0) := by
  refine W.Ct.walk hwe (plainFor_of_name pn_java_lang_AbstractStringBuilder) ?_
  intro p e s m below meth c T hE0 X
  refine W.castG (show entryFrame m #[(.ref b), (.int (Int32.ofNat nd))] 6 = mkF m 0 #[.val (.ref b), .val (.int (Int32.ofNat nd)), .unset, .unset, .unset, .unset] [] from by first | (simp [entryFrame, mkF, argsToLocals, Value.category]; done) | rfl) ?_
  refine W.o_aloadN X (pc' := 1) d_jdk_68_method_10_0 rfl rfl rfl ?_
  refine W.o_getfield X (pc' := 4) d_jdk_68_method_10_1 rfl (hw _ (List.mem_of_getElem? (i := 63) rfl)) Via.refl F0 (fun T X => ?_)
  refine W.o_arraylength X (pc' := 5) d_jdk_68_method_10_4 rfl A0 ?_
  refine W.o_istoreN X (pc' := 6) d_jdk_68_method_10_5 rfl (L' := #[.val (.ref b), .val (.int (Int32.ofNat nd)), .val (.int (16 : Int32)), .unset, .unset, .unset]) rfl ?_
  refine W.o_iloadN X (pc' := 7) d_jdk_68_method_10_6 rfl rfl ?_
  refine W.o_aloadN X (pc' := 8) d_jdk_68_method_10_7 rfl rfl rfl ?_
  refine W.o_getfield X (pc' := 11) d_jdk_68_method_10_8 rfl (hw _ (List.mem_of_getElem? (i := 65) rfl)) Via.refl F1 (fun T X => ?_)
  refine W.o_ishl X (pc' := 12) d_jdk_68_method_10_11 rfl ?_
  rw [shl0]
  refine W.o_istoreN X (pc' := 13) d_jdk_68_method_10_12 rfl (L' := #[.val (.ref b), .val (.int (Int32.ofNat nd)), .val (.int (16 : Int32)), .val (.int (Int32.ofNat nd)), .unset, .unset]) rfl ?_
  refine W.o_iloadN X (pc' := 14) d_jdk_68_method_10_13 rfl rfl ?_
  refine W.o_iloadN X (pc' := 15) d_jdk_68_method_10_14 rfl rfl ?_
  refine W.o_isub X (pc' := 16) d_jdk_68_method_10_15 rfl ?_
  rw [show Int32.ofNat nd - (16 : Int32) = Int32.ofNat (nd - 16) from o32_sub (b := 16) (by omega) (by omega)]
  refine W.o_istore X (pc' := 18) d_jdk_68_method_10_16 rfl (L' := #[.val (.ref b), .val (.int (Int32.ofNat nd)), .val (.int (16 : Int32)), .val (.int (Int32.ofNat nd)), .val (.int (Int32.ofNat (nd - 16))), .unset]) rfl ?_
  refine W.o_iloadN X (pc' := 19) d_jdk_68_method_10_18 rfl rfl ?_
  refine W.o_iload X (pc' := 21) d_jdk_68_method_10_19 rfl rfl ?_
  refine W.o_iloadN X (pc' := 22) d_jdk_68_method_10_21 rfl rfl ?_
  refine W.o_iconst X (2 : Int32) (pc' := 23) d_jdk_68_method_10_22 rfl rfl ?_
  refine W.o_aloadN X (pc' := 24) d_jdk_68_method_10_23 rfl rfl rfl ?_
  refine W.o_getfield X (pc' := 27) d_jdk_68_method_10_24 rfl (hw _ (List.mem_of_getElem? (i := 65) rfl)) Via.refl F1 (fun T X => ?_)
  refine W.o_ishl X (pc' := 28) d_jdk_68_method_10_27 rfl ?_
  refine W.o_iadd X (pc' := 29) d_jdk_68_method_10_28 rfl ?_
  rw [show (16 : Int32) + ((2 : Int32) <<< ((0 : Int32) &&& 31)) = 18 from by decide]
  refine W.o_static X (pc' := 32) d_jdk_68_method_10_29 rfl (z := (⟨"jdk/internal/util/ArraysSupport", "newLength", "(III)I"⟩ : MethodName)) (hw _ (List.mem_of_getElem? (i := 192) rfl)) (hw _ (List.mem_of_getElem? (i := 193) rfl)) (hw _ (List.mem_of_getElem? (i := 194) rfl)) (hw _ (List.mem_of_getElem? (i := 195) rfl)) (by decide) (ctNL l Z a0 hw (nd - 16) h0 (by omega)) (fun _ q => nomatch q) [(.int (16 : Int32)), (.int (Int32.ofNat (nd - 16))), (.int (18 : Int32))] rfl (rest := []) rfl pd__III_I rfl rfl (by decide) (by exact Nat.le_of_ble_eq_true rfl) (by decide) (by decide) (fun v96 T q97 => ?_)
  obtain ⟨h100, S98, ⟨rfl, eh⟩, X99⟩ := q97
  have eh := eh.symm
  subst eh
  have X := X99 [] all0
  show W.Go _ _ _ _ _ _ _ _ _ _ _ (mkF m 32 #[.val (.ref b), .val (.int (Int32.ofNat nd)), .val (.int (16 : Int32)), .val (.int (Int32.ofNat nd)), .val (.int (Int32.ofNat (nd - 16))), .unset] [(.int (34 : Int32))])
  refine W.o_istore X (pc' := 34) d_jdk_68_method_10_32 rfl (L' := #[.val (.ref b), .val (.int (Int32.ofNat nd)), .val (.int (16 : Int32)), .val (.int (Int32.ofNat nd)), .val (.int (Int32.ofNat (nd - 16))), .val (.int (34 : Int32))]) rfl ?_
  refine W.o_iload X (pc' := 36) d_jdk_68_method_10_34 rfl rfl ?_
  refine W.o_ldcI X (v := (2147483647 : Int32)) (pc' := 38) d_jdk_68_method_10_36 rfl (hw _ (List.mem_of_getElem? (i := 200) rfl)) ?_
  refine W.o_if_icmpne X (pt := 51) (pf := 41) d_jdk_68_method_10_38 ⟨by decide, by decide⟩ rfl (fun _ => ?_) (fun hc => absurd hc (by decide))
  refine W.o_iload X (pc' := 53) d_jdk_68_method_10_51 rfl rfl ?_
  refine W.o_aloadN X (pc' := 54) d_jdk_68_method_10_53 rfl rfl rfl ?_
  refine W.o_getfield X (pc' := 57) d_jdk_68_method_10_54 rfl (hw _ (List.mem_of_getElem? (i := 65) rfl)) Via.refl F1 (fun T X => ?_)
  refine W.o_ishr X (pc' := 58) d_jdk_68_method_10_57 rfl ?_
  rw [shr0]
  exact W.o_ireturnI X d_jdk_68_method_10_58 rfl (by decide) (by decide) fun P hP => ⟨rfl, rfl⟩
set_option maxRecDepth 65536 in
set_option maxHeartbeats 40000000 in
theorem ctCpO (l : Launch) (Z : State) (a0 : Array Value) (hw : ∀ d ∈ tables_1, d.before a0 Z = true) (d : Addr) (kd : ClassId) (cs : List Int32) (h0 : Heap) (hc : cs.length ≤ 16) (A0 : Arv Z h0 d kd .byte (16 : Int32) (fill 16 cs) (.int 0)) :
    W.Ct wd Z a0 el l (⟨"java/util/Arrays", "copyOf", "([BI)[B"⟩ : MethodName) jdk_65_method_121_code 3 (some (.array .byte)) ({ frames := 1, cells := 1, slots := 34, locals := 18 } : Room) #[(.ref d), (.int (34 : Int32))] h0 [] (fun v h S => ∃ e, v = some (.ref e) ∧ Keep h0 h [] ∧ h0.size ≤ e ∧ Z.heap.size ≤ e ∧ (∃ ke, Arv Z h e ke .byte (34 : Int32) (fill 34 cs) (.int 0)) ∧ Exa Z h e "[B" ∧ S e) := by
  refine W.Ct.walk hwe (plainFor_of_name pn_java_util_Arrays) ?_
  intro p e s m below meth c T hE0 X
  refine W.castG (show entryFrame m #[(.ref d), (.int (34 : Int32))] 3 = mkF m 0 #[.val (.ref d), .val (.int (34 : Int32)), .unset] [] from by first | (simp [entryFrame, mkF, argsToLocals, Value.category]; done) | rfl) ?_
  refine W.o_iloadN X (pc' := 1) d_jdk_65_method_121_0 rfl rfl ?_
  refine W.o_aloadN X (pc' := 2) d_jdk_65_method_121_1 rfl rfl rfl ?_
  refine W.o_arraylength X (pc' := 3) d_jdk_65_method_121_2 rfl A0 ?_
  refine W.o_if_icmpne X (pt := 14) (pf := 6) d_jdk_65_method_121_3 ⟨by decide, by decide⟩ rfl (fun _ => ?_) (fun hc => absurd hc (by decide))
  refine W.o_iloadN X (pc' := 15) d_jdk_65_method_121_14 rfl rfl ?_
  refine W.o_newarrayE X (pc' := 17) d_jdk_65_method_121_15 rfl (hw _ (List.mem_of_getElem? (i := 19) rfl)) (by decide) (cap := 34) (by decide) (by decide) (by decide) (by decide) (ad := "[B") (by decide) (fun T h101 b102 k103 g104 z105 e106 a107 x108 X => ?_)
  have f109 : Arv Z h101 b102 k103 .byte (34 : Int32) [(.int (0 : Int32)), (.int (0 : Int32)), (.int (0 : Int32)), (.int (0 : Int32)), (.int (0 : Int32)), (.int (0 : Int32)), (.int (0 : Int32)), (.int (0 : Int32)), (.int (0 : Int32)), (.int (0 : Int32)), (.int (0 : Int32)), (.int (0 : Int32)), (.int (0 : Int32)), (.int (0 : Int32)), (.int (0 : Int32)), (.int (0 : Int32)), (.int (0 : Int32)), (.int (0 : Int32)), (.int (0 : Int32)), (.int (0 : Int32)), (.int (0 : Int32)), (.int (0 : Int32)), (.int (0 : Int32)), (.int (0 : Int32)), (.int (0 : Int32)), (.int (0 : Int32)), (.int (0 : Int32)), (.int (0 : Int32)), (.int (0 : Int32)), (.int (0 : Int32)), (.int (0 : Int32)), (.int (0 : Int32)), (.int (0 : Int32)), (.int (0 : Int32))] (.int (0 : Int32)) := a107.pad (pad_rep [] (.int (0 : Int32)) 34)
  refine W.o_astoreN X (pc' := 18) d_jdk_65_method_121_17 rfl (L' := #[.val (.ref d), .val (.int (34 : Int32)), .val (.ref b102)]) rfl rfl ?_
  refine W.o_aloadN X (pc' := 19) d_jdk_65_method_121_18 rfl rfl rfl ?_
  refine W.o_iconst X (0 : Int32) (pc' := 20) d_jdk_65_method_121_19 rfl rfl ?_
  refine W.o_aloadN X (pc' := 21) d_jdk_65_method_121_20 rfl rfl rfl ?_
  refine W.o_iconst X (0 : Int32) (pc' := 22) d_jdk_65_method_121_21 rfl rfl ?_
  refine W.o_aloadN X (pc' := 23) d_jdk_65_method_121_22 rfl rfl rfl ?_
  have f110 := (A0.ext e106)
  refine W.o_arraylength X (pc' := 24) d_jdk_65_method_121_23 rfl f110 ?_
  refine W.o_iloadN X (pc' := 25) d_jdk_65_method_121_24 rfl rfl ?_
  refine W.o_static X (pc' := 28) d_jdk_65_method_121_25 rfl (z := (⟨"java/lang/Math", "min", "(II)I"⟩ : MethodName)) (hw _ (List.mem_of_getElem? (i := 158) rfl)) (hw _ (List.mem_of_getElem? (i := 159) rfl)) (hw _ (List.mem_of_getElem? (i := 160) rfl)) (hw _ (List.mem_of_getElem? (i := 161) rfl)) (by decide) (ctMin l Z a0 hw (16 : Int32) (34 : Int32) h101) (fun _ q => nomatch q) [(.int (16 : Int32)), (.int (34 : Int32))] rfl (rest := [(.int (0 : Int32)), (.ref b102), (.int (0 : Int32)), (.ref d)]) rfl pd__II_I rfl rfl (by decide) (by exact Nat.le_of_ble_eq_true rfl) (by decide) (by decide) (fun v111 T q112 => ?_)
  obtain ⟨h115, S113, ⟨rfl, eh⟩, X114⟩ := q112
  have eh := eh.symm
  subst eh
  have X := X114 [] all0
  show W.Go _ _ _ _ _ _ _ _ _ _ _ (mkF m 28 #[.val (.ref d), .val (.int (34 : Int32)), .val (.ref b102)] [(.int (if (34 : Int32) < (16 : Int32) then (34 : Int32) else (16 : Int32))), (.int (0 : Int32)), (.ref b102), (.int (0 : Int32)), (.ref d)])
  rw [show (if (34 : Int32) < (16 : Int32) then (34 : Int32) else (16 : Int32)) = (16 : Int32) from by decide]
  refine W.o_arraycopy X (pc' := 31) d_jdk_65_method_121_28 rfl (hw _ (List.mem_of_getElem? (i := 162) rfl)) (hw _ (List.mem_of_getElem? (i := 114) rfl)) (hw _ (List.mem_of_getElem? (i := 112) rfl)) (hw _ (List.mem_of_getElem? (i := 113) rfl)) f110 f109 rfl (us := (fill 16 cs)) (by decide) (by decide) (by decide) (by decide) (by decide) (cp_all (n := 16) (fill_len hc).symm) (by decide) z105 (Or.inr (Or.inl (by simp))) rfl (by decide) (by decide) (fun T h118 K116 B117 X => ?_)
  have Bx : Arv Z h118 b102 k103 .byte (34 : Int32) (fill 34 cs) (.int 0) := by
    have q : fill 34 cs = ([] : List Value) ++ fill 16 cs ++ List.replicate 18 (.int 0) := (fill_grow (c := 16) (d := 18) hc).symm
    rw [q]; exact B117
  refine W.o_aloadN X (pc' := 32) d_jdk_65_method_121_31 rfl rfl rfl ?_
  have f119 := (x108.keep K116)
  exact W.o_areturn X d_jdk_65_method_121_32 rfl rfl rfl (by decide) (by decide) fun P hP => ⟨b102, rfl, (((Keep.refl h0 []).ext e106).trans K116 (allS (Or.inr (Nat.le_trans (Nat.le_refl _) (Nat.le_of_eq g104.symm))) all0)), (Nat.le_trans (Nat.le_refl _) (Nat.le_of_eq g104.symm)), z105, ⟨_, Bx⟩, f119, hP b102 (by simp)⟩
set_option maxRecDepth 65536 in
set_option maxHeartbeats 40000000 in
theorem ctEns (l : Launch) (Z : State) (a0 : Array Value) (hw : ∀ d ∈ tables_1, d.before a0 Z = true) (b d : Addr) (cap nd : Nat) (cs : List Int32) (h0 : Heap) (hnd : nd ≤ 34) (G0 : Bld Z h0 b d cap cs) :
    W.Ct wd Z a0 el l (⟨"java/lang/AbstractStringBuilder", "ensureCapacityInternal", "(I)V"⟩ : MethodName) jdk_68_method_9_code 3 none ({ frames := 3, cells := 1, slots := 34, locals := 48 } : Room) #[(.ref b), (.int (Int32.ofNat nd))] h0 [d] (fun v h S => v = none ∧ Keep h0 h [b] ∧ ∃ d' cap', (d' = d ∨ h0.size ≤ d') ∧ Bld Z h b d' cap' cs ∧ nd ≤ cap' ∧ S d') := by
  refine W.Ct.walk hwe (plainFor_of_name pn_java_lang_AbstractStringBuilder) ?_
  intro p e s m below meth c T hE0 X
  refine W.castG (show entryFrame m #[(.ref b), (.int (Int32.ofNat nd))] 3 = mkF m 0 #[.val (.ref b), .val (.int (Int32.ofNat nd)), .unset] [] from by first | (simp [entryFrame, mkF, argsToLocals, Value.category]; done) | rfl) ?_
  obtain ⟨E0, F1, F0, F2, ⟨kd, A0⟩, D0, zd, zb, hcap, hle, hlat⟩ := id G0
  refine W.o_aloadN X (pc' := 1) d_jdk_68_method_9_0 rfl rfl rfl ?_
  refine W.o_getfield X (pc' := 4) d_jdk_68_method_9_1 rfl (hw _ (List.mem_of_getElem? (i := 63) rfl)) Via.refl F0 (fun T X => ?_)
  refine W.o_arraylength X (pc' := 5) d_jdk_68_method_9_4 rfl A0 ?_
  refine W.o_aloadN X (pc' := 6) d_jdk_68_method_9_5 rfl rfl rfl ?_
  refine W.o_getfield X (pc' := 9) d_jdk_68_method_9_6 rfl (hw _ (List.mem_of_getElem? (i := 65) rfl)) Via.refl F1 (fun T X => ?_)
  refine W.o_ishr X (pc' := 10) d_jdk_68_method_9_9 rfl ?_
  rw [shr0]
  refine W.o_istoreN X (pc' := 11) d_jdk_68_method_9_10 rfl (L' := #[.val (.ref b), .val (.int (Int32.ofNat nd)), .val (.int (Int32.ofNat cap))]) rfl ?_
  refine W.o_iloadN X (pc' := 12) d_jdk_68_method_9_11 rfl rfl ?_
  refine W.o_iloadN X (pc' := 13) d_jdk_68_method_9_12 rfl rfl ?_
  refine W.o_isub X (pc' := 14) d_jdk_68_method_9_13 rfl ?_
  by_cases hgt : cap < nd
  · refine W.o_ifle X (pt := 38) (pf := 17) d_jdk_68_method_9_14 ⟨by decide, by decide⟩ rfl (fun hc => absurd (o32_gt0 hgt (by omega)) hc) (fun _ => ?_)
    have e16 : cap = 16 := by omega
    subst e16
    have A1 : Arv Z h0 d kd .byte (16 : Int32) (fill 16 cs) (.int 0) := A0
    refine W.o_aloadN X (pc' := 18) d_jdk_68_method_9_17 rfl rfl rfl ?_
    refine W.o_aloadN X (pc' := 19) d_jdk_68_method_9_18 rfl rfl rfl ?_
    refine W.o_getfield X (pc' := 22) d_jdk_68_method_9_19 rfl (hw _ (List.mem_of_getElem? (i := 63) rfl)) Via.refl F0 (fun T X => ?_)
    refine W.o_aloadN X (pc' := 23) d_jdk_68_method_9_22 rfl rfl rfl ?_
    refine W.o_iloadN X (pc' := 24) d_jdk_68_method_9_23 rfl rfl ?_
    refine W.o_virtual X (pc' := 27) d_jdk_68_method_9_24 rfl (u := (⟨"java/lang/AbstractStringBuilder", "newCapacity", "(I)I"⟩ : MethodName)) (z := (⟨"java/lang/AbstractStringBuilder", "newCapacity", "(I)I"⟩ : MethodName)) (hw _ (List.mem_of_getElem? (i := 187) rfl)) (declOf (hw _ (List.mem_of_getElem? (i := 188) rfl)) (hw _ (List.mem_of_getElem? (i := 191) rfl))) (fun s' hZ => notFace_of_selects (args := #[]) (mvT hZ (hw _ (List.mem_of_getElem? (i := 190) rfl)))) (hw _ (List.mem_of_getElem? (i := 190) rfl)) (hw _ (List.mem_of_getElem? (i := 188) rfl)) (hw _ (List.mem_of_getElem? (i := 59) rfl)) (hw _ (List.mem_of_getElem? (i := 191) rfl)) (by decide) E0 (ctNC l Z a0 hw b d kd nd _ h0 hgt hnd F0 F1 A1) (fun _ q => nomatch q) [(.int (Int32.ofNat nd))] rfl (rest := [(.ref d), (.ref b)]) rfl pd__I_I rfl rfl (by decide) (by exact Nat.le_of_ble_eq_true rfl) (by decide) (by decide) (fun v120 T q121 => ?_)
    obtain ⟨h124, S122, ⟨rfl, eh⟩, X123⟩ := q121
    have eh := eh.symm
    subst eh
    have X := X123 [] all0
    show W.Go _ _ _ _ _ _ _ _ _ _ _ (mkF m 27 #[.val (.ref b), .val (.int (Int32.ofNat nd)), .val (.int (Int32.ofNat 16))] [(.int (34 : Int32)), (.ref d), (.ref b)])
    refine W.o_aloadN X (pc' := 28) d_jdk_68_method_9_27 rfl rfl rfl ?_
    refine W.o_getfield X (pc' := 31) d_jdk_68_method_9_28 rfl (hw _ (List.mem_of_getElem? (i := 65) rfl)) Via.refl F1 (fun T X => ?_)
    refine W.o_ishl X (pc' := 32) d_jdk_68_method_9_31 rfl ?_
    rw [shl0]
    refine W.o_static X (pc' := 35) d_jdk_68_method_9_32 rfl (z := (⟨"java/util/Arrays", "copyOf", "([BI)[B"⟩ : MethodName)) (hw _ (List.mem_of_getElem? (i := 201) rfl)) (hw _ (List.mem_of_getElem? (i := 202) rfl)) (hw _ (List.mem_of_getElem? (i := 150) rfl)) (hw _ (List.mem_of_getElem? (i := 203) rfl)) (by decide) (ctCpO l Z a0 hw d kd cs h0 hle A1) (fun _ q => nomatch q) [(.ref d), (.int (34 : Int32))] rfl (rest := [(.ref b)]) rfl pd___BI__B rfl rfl (by decide) (by exact Nat.le_of_ble_eq_true rfl) (by decide) (by decide) (fun v125 T q126 => ?_)
    obtain ⟨h1, S127, ⟨e1, rfl, K1, ge, ze, ⟨ke, B1⟩, D1, se⟩, X128⟩ := q126
    have X := X128 [e1] (allS ⟨B1.lt, se⟩ all0)
    show W.Go _ _ _ _ _ _ _ _ _ _ _ (mkF m 35 #[.val (.ref b), .val (.int (Int32.ofNat nd)), .val (.int (Int32.ofNat 16))] [(.ref e1), (.ref b)])
    have f129 := (E0.keep K1)
    have f130 := (F0.keep K1 nin0)
    refine W.o_putfield X (pc' := 38) d_jdk_68_method_9_35 rfl (hw _ (List.mem_of_getElem? (i := 63) rfl)) Via.refl f130 f129 (Or.inl (hw _ (List.mem_of_getElem? (i := 64) rfl))) (hw _ (List.mem_of_getElem? (i := 50) rfl)) (ty := (.array .byte)) (by decide) rfl rfl zb (Or.inr (Or.inr (Or.inl ⟨_, f129, by decide, by decide⟩))) (fun T h131 w132 X => ?_)
    have f133 := f130.same w132
    have f134 := (f129.wr w132)
    have f135 := ((F1.keep K1 nin0).other w132 (Or.inr (slot_ne (Or.inl (hw _ (List.mem_of_getElem? (i := 66) rfl))) (Or.inl (hw _ (List.mem_of_getElem? (i := 64) rfl))) (by decide) (t := .byte) (t' := (.array .byte)) (by decide) (by decide))))
    have f136 := ((F2.keep K1 nin0).other w132 (Or.inr (slot_ne (Or.inl (hw _ (List.mem_of_getElem? (i := 89) rfl))) (Or.inl (hw _ (List.mem_of_getElem? (i := 64) rfl))) (by decide) (t := .int) (t' := (.array .byte)) (by decide) (by decide))))
    have f137 := (B1.other w132 (Ne.symm (Nat.ne_of_lt (Nat.lt_of_lt_of_le E0.lt ge))))
    have f138 := (D1.wr w132)
    exact W.o_return X d_jdk_68_method_9_38 (by decide) (by decide) fun P hP => ⟨rfl, (((Keep.refl h0 [b]).trans K1 all0).wr w132 (Or.inl (List.mem_of_getElem? (i := 0) rfl))), e1, 34, Or.inr (Nat.le_trans (Nat.le_refl _) ge), ⟨f134, f135, f133, f136, ⟨ke, f137⟩, f138, ze, zb, Or.inr rfl, by omega, hlat⟩, hnd, hP e1 (by simp)⟩
  · refine W.o_ifle X (pt := 38) (pf := 17) d_jdk_68_method_9_14 ⟨by decide, by decide⟩ rfl (fun _ => ?_) (fun hc => absurd hc (o32_le0 (Nat.le_of_not_lt hgt) (by omega)))
    exact W.o_return X d_jdk_68_method_9_38 (by decide) (by decide) fun P hP => ⟨rfl, Keep.refl h0 [b], d, cap, Or.inl rfl, G0, Nat.le_of_not_lt hgt, hP d (by simp)⟩
set_option maxRecDepth 65536 in
set_option maxHeartbeats 40000000 in
theorem ctInf (l : Launch) (Z : State) (a0 : Array Value) (hw : ∀ d ∈ tables_1, d.before a0 Z = true) (b a : Addr) (cz : Int32) (h0 : Heap) (C0 : Sta Z Z.heap "java/lang/String" "COMPACT_STRINGS" "Z" (.int cz)) (hcz : ¬ cz = 0) (F0 : Fld Z h0 b "java/lang/AbstractStringBuilder" "coder" "B" (.int (0 : Int32))) (E1 : Exa Z h0 a "java/lang/String") (F1 : Fld Z h0 a "java/lang/String" "coder" "B" (.int (0 : Int32))) :
    W.Ct wd Z a0 el l (⟨"java/lang/AbstractStringBuilder", "inflateIfNeededFor", "(Ljava/lang/String;)V"⟩ : MethodName) jdk_68_method_71_code 2 none ({ frames := 1, cells := 0, slots := 0, locals := 13 } : Room) #[(.ref b), (.ref a)] h0 [] (fun v h S => v = none ∧ h = h0) := by
  refine W.Ct.walk hwe (plainFor_of_name pn_java_lang_AbstractStringBuilder) ?_
  intro p e s m below meth c T hE0 X
  refine W.castG (show entryFrame m #[(.ref b), (.ref a)] 2 = mkF m 0 #[.val (.ref b), .val (.ref a)] [] from by first | (simp [entryFrame, mkF, argsToLocals, Value.category]; done) | rfl) ?_
  refine W.o_getstatic X (pc' := 3) d_jdk_68_method_71_0 rfl (hw _ (List.mem_of_getElem? (i := 62) rfl)) Via.refl C0 (fun T X => ?_)
  refine W.o_ifeq X (pt := 21) (pf := 6) d_jdk_68_method_71_3 ⟨by decide, by decide⟩ rfl (fun hc => absurd hc hcz) (fun _ => ?_)
  refine W.o_aloadN X (pc' := 7) d_jdk_68_method_71_6 rfl rfl rfl ?_
  refine W.o_getfield X (pc' := 10) d_jdk_68_method_71_7 rfl (hw _ (List.mem_of_getElem? (i := 65) rfl)) Via.refl F0 (fun T X => ?_)
  refine W.o_aloadN X (pc' := 11) d_jdk_68_method_71_10 rfl rfl rfl ?_
  refine W.o_virtual X (pc' := 14) d_jdk_68_method_71_11 rfl (u := (⟨"java/lang/String", "coder", "()B"⟩ : MethodName)) (z := (⟨"java/lang/String", "coder", "()B"⟩ : MethodName)) (hw _ (List.mem_of_getElem? (i := 105) rfl)) (hw _ (List.mem_of_getElem? (i := 83) rfl)) (fun s' hZ => notFace_of_selects (args := #[]) (mvT hZ (hw _ (List.mem_of_getElem? (i := 85) rfl)))) (hw _ (List.mem_of_getElem? (i := 85) rfl)) (hw _ (List.mem_of_getElem? (i := 84) rfl)) (hw _ (List.mem_of_getElem? (i := 7) rfl)) (hw _ (List.mem_of_getElem? (i := 86) rfl)) (by decide) E1 (ctCdr l Z a0 hw a cz 0 h0 C0 hcz rfl F1) (fun _ q => nomatch q) [] rfl (rest := [(.int (0 : Int32))]) rfl pd___B rfl rfl (by decide) (by exact Nat.le_of_ble_eq_true rfl) (by decide) (by decide) (fun v139 T q140 => ?_)
  obtain ⟨h143, S141, ⟨rfl, eh⟩, X142⟩ := q140
  have eh := eh.symm
  subst eh
  have X := X142 [] all0
  show W.Go _ _ _ _ _ _ _ _ _ _ _ (mkF m 14 #[.val (.ref b), .val (.ref a)] [(.int (0 : Int32)), (.int (0 : Int32))])
  refine W.o_if_icmpeq X (pt := 21) (pf := 17) d_jdk_68_method_71_14 ⟨by decide, by decide⟩ rfl (fun _ => ?_) (fun hc => absurd rfl hc)
  exact W.o_return X d_jdk_68_method_71_21 (by decide) (by decide) fun P hP => ⟨rfl, rfl⟩
set_option maxRecDepth 65536 in
set_option maxHeartbeats 40000000 in
theorem ctGB (l : Launch) (Z : State) (a0 : Array Value) (hw : ∀ d ∈ tables_1, d.before a0 Z = true) (a t d : Addr) (kd : ClassId) (cap : Nat) (cs ds : List Int32) (cz : Int32) (h0 : Heap) (C0 : Sta Z Z.heap "java/lang/String" "COMPACT_STRINGS" "Z" (.int cz)) (hcz : ¬ cz = 0) (hcp : cap ≤ 34) (hle : cs.length + ds.length ≤ cap) (zd : Z.heap.size ≤ d) (G0 : Str Z h0 a t ds) (A0 : Arv Z h0 d kd .byte (Int32.ofNat cap) (fill cap cs) (.int 0)) :
    W.Ct wd Z a0 el l (⟨"java/lang/String", "getBytes", "([BIB)V"⟩ : MethodName) jdk_42_method_147_code 4 none ({ frames := 1, cells := 0, slots := 0, locals := 18 } : Room) #[(.ref a), (.ref d), (.int (Int32.ofNat cs.length)), (.int (0 : Int32))] h0 [d] (fun v h S => v = none ∧ Keep h0 h [d] ∧ Arv Z h d kd .byte (Int32.ofNat cap) (fill cap (cs ++ ds)) (.int 0)) := by
  refine W.Ct.walk hwe (plainFor_of_name pn_java_lang_String) ?_
  intro p e s m below meth c T hE0 X
  refine W.castG (show entryFrame m #[(.ref a), (.ref d), (.int (Int32.ofNat cs.length)), (.int (0 : Int32))] 4 = mkF m 0 #[.val (.ref a), .val (.ref d), .val (.int (Int32.ofNat cs.length)), .val (.int (0 : Int32))] [] from by first | (simp [entryFrame, mkF, argsToLocals, Value.category]; done) | rfl) ?_
  obtain ⟨E0, F0, F1, ⟨kt, T0⟩, n1, l1⟩ := G0
  refine W.o_aloadN X (pc' := 1) d_jdk_42_method_147_0 rfl rfl rfl ?_
  refine W.o_virtual X (pc' := 4) d_jdk_42_method_147_1 rfl (u := (⟨"java/lang/String", "coder", "()B"⟩ : MethodName)) (z := (⟨"java/lang/String", "coder", "()B"⟩ : MethodName)) (hw _ (List.mem_of_getElem? (i := 82) rfl)) (hw _ (List.mem_of_getElem? (i := 83) rfl)) (fun s' hZ => notFace_of_selects (args := #[]) (mvT hZ (hw _ (List.mem_of_getElem? (i := 85) rfl)))) (hw _ (List.mem_of_getElem? (i := 85) rfl)) (hw _ (List.mem_of_getElem? (i := 84) rfl)) (hw _ (List.mem_of_getElem? (i := 7) rfl)) (hw _ (List.mem_of_getElem? (i := 86) rfl)) (by decide) E0 (ctCdr l Z a0 hw a cz 0 h0 C0 hcz rfl F0) (fun _ q => nomatch q) [] rfl (rest := []) rfl pd___B rfl rfl (by decide) (by exact Nat.le_of_ble_eq_true rfl) (by decide) (by decide) (fun v144 T q145 => ?_)
  obtain ⟨h148, S146, ⟨rfl, eh⟩, X147⟩ := q145
  have eh := eh.symm
  subst eh
  have X := X147 [] all0
  show W.Go _ _ _ _ _ _ _ _ _ _ _ (mkF m 4 #[.val (.ref a), .val (.ref d), .val (.int (Int32.ofNat cs.length)), .val (.int (0 : Int32))] [(.int (0 : Int32))])
  refine W.o_iloadN X (pc' := 5) d_jdk_42_method_147_4 rfl rfl ?_
  refine W.o_if_icmpne X (pt := 28) (pf := 8) d_jdk_42_method_147_5 ⟨by decide, by decide⟩ rfl (fun hc => absurd rfl hc) (fun _ => ?_)
  refine W.o_aloadN X (pc' := 9) d_jdk_42_method_147_8 rfl rfl rfl ?_
  refine W.o_getfield X (pc' := 12) d_jdk_42_method_147_9 rfl (hw _ (List.mem_of_getElem? (i := 24) rfl)) Via.refl F1 (fun T X => ?_)
  refine W.o_iconst X (0 : Int32) (pc' := 13) d_jdk_42_method_147_12 rfl rfl ?_
  refine W.o_aloadN X (pc' := 14) d_jdk_42_method_147_13 rfl rfl rfl ?_
  refine W.o_iloadN X (pc' := 15) d_jdk_42_method_147_14 rfl rfl ?_
  refine W.o_iloadN X (pc' := 16) d_jdk_42_method_147_15 rfl rfl ?_
  refine W.o_ishl X (pc' := 17) d_jdk_42_method_147_16 rfl ?_
  rw [shl0]
  refine W.o_aloadN X (pc' := 18) d_jdk_42_method_147_17 rfl rfl rfl ?_
  refine W.o_getfield X (pc' := 21) d_jdk_42_method_147_18 rfl (hw _ (List.mem_of_getElem? (i := 24) rfl)) Via.refl F1 (fun T X => ?_)
  refine W.o_arraylength X (pc' := 22) d_jdk_42_method_147_21 rfl T0 ?_
  refine W.o_arraycopy X (pc' := 25) d_jdk_42_method_147_22 rfl (hw _ (List.mem_of_getElem? (i := 111) rfl)) (hw _ (List.mem_of_getElem? (i := 114) rfl)) (hw _ (List.mem_of_getElem? (i := 112) rfl)) (hw _ (List.mem_of_getElem? (i := 113) rfl)) T0 A0 rfl (us := (ds.map lo)) (by decide) (o32_nn (by omega)) (o32_nn (by omega)) (by rw [o32_clamp (by omega)]; exact Nat.le_of_eq (Nat.zero_add _)) (by rw [o32_clamp (by omega), o32_clamp (by omega), o32_clamp (by omega)]; exact hle) (by rw [o32_clamp (by omega)]; exact cp_all (by simp)) (by rw [o32_clamp (by omega), o32_clamp (by omega), fill_len (by omega)]; exact hle) zd (Or.inr (Or.inl (by simp))) rfl (by decide) (by decide) (fun T h151 K149 B150 X => ?_)
  rw [o32_clamp (by omega), o32_clamp (by omega), fill_put hle] at B150
  refine W.o_goto X (pc' := 43) d_jdk_42_method_147_25 ⟨by decide, by decide⟩ ?_
  exact W.o_return X d_jdk_42_method_147_43 (by decide) (by decide) fun P hP => ⟨rfl, ((Keep.refl h0 [d]).trans K149 (allS (Or.inl (List.mem_of_getElem? (i := 0) rfl)) all0)), B150⟩
set_option maxRecDepth 65536 in
set_option maxHeartbeats 40000000 in
theorem ctPSA (l : Launch) (Z : State) (a0 : Array Value) (hw : ∀ d ∈ tables_1, d.before a0 Z = true) (b a t d : Addr) (kd : ClassId) (cap : Nat) (cs ds : List Int32) (cz : Int32) (h0 : Heap) (C0 : Sta Z Z.heap "java/lang/String" "COMPACT_STRINGS" "Z" (.int cz)) (hcz : ¬ cz = 0) (hcp : cap ≤ 34) (hle : cs.length + ds.length ≤ cap) (zd : Z.heap.size ≤ d) (E0 : Exa Z h0 b "java/lang/StringBuilder") (F0 : Fld Z h0 b "java/lang/AbstractStringBuilder" "value" "[B" (.ref d)) (F1 : Fld Z h0 b "java/lang/AbstractStringBuilder" "coder" "B" (.int (0 : Int32))) (G0 : Str Z h0 a t ds) (A0 : Arv Z h0 d kd .byte (Int32.ofNat cap) (fill cap cs) (.int 0)) :
    W.Ct wd Z a0 el l (⟨"java/lang/AbstractStringBuilder", "putStringAt", "(ILjava/lang/String;)V"⟩ : MethodName) jdk_68_method_73_code 3 none ({ frames := 2, cells := 0, slots := 0, locals := 33 } : Room) #[(.ref b), (.int (Int32.ofNat cs.length)), (.ref a)] h0 [d] (fun v h S => v = none ∧ Keep h0 h [d] ∧ Arv Z h d kd .byte (Int32.ofNat cap) (fill cap (cs ++ ds)) (.int 0)) := by
  refine W.Ct.walk hwe (plainFor_of_name pn_java_lang_AbstractStringBuilder) ?_
  intro p e s m below meth c T hE0 X
  refine W.castG (show entryFrame m #[(.ref b), (.int (Int32.ofNat cs.length)), (.ref a)] 3 = mkF m 0 #[.val (.ref b), .val (.int (Int32.ofNat cs.length)), .val (.ref a)] [] from by first | (simp [entryFrame, mkF, argsToLocals, Value.category]; done) | rfl) ?_
  refine W.o_aloadN X (pc' := 1) d_jdk_68_method_73_0 rfl rfl rfl ?_
  refine W.o_aloadN X (pc' := 2) d_jdk_68_method_73_1 rfl rfl rfl ?_
  refine W.o_virtual X (pc' := 5) d_jdk_68_method_73_2 rfl (u := (⟨"java/lang/AbstractStringBuilder", "inflateIfNeededFor", "(Ljava/lang/String;)V"⟩ : MethodName)) (z := (⟨"java/lang/AbstractStringBuilder", "inflateIfNeededFor", "(Ljava/lang/String;)V"⟩ : MethodName)) (hw _ (List.mem_of_getElem? (i := 100) rfl)) (declOf (hw _ (List.mem_of_getElem? (i := 101) rfl)) (hw _ (List.mem_of_getElem? (i := 104) rfl))) (fun s' hZ => notFace_of_selects (args := #[]) (mvT hZ (hw _ (List.mem_of_getElem? (i := 103) rfl)))) (hw _ (List.mem_of_getElem? (i := 103) rfl)) (hw _ (List.mem_of_getElem? (i := 101) rfl)) (hw _ (List.mem_of_getElem? (i := 59) rfl)) (hw _ (List.mem_of_getElem? (i := 104) rfl)) (by decide) E0 (ctInf l Z a0 hw b a cz h0 C0 hcz F1 G0.1 G0.2.1) (fun _ q => nomatch q) [(.ref a)] rfl (rest := []) rfl pd__Ljava_lang_String__V rfl rfl (by decide) (by exact Nat.le_of_ble_eq_true rfl) (by decide) (by decide) (fun v152 T q153 => ?_)
  obtain ⟨h156, S154, ⟨rfl, eh⟩, X155⟩ := q153
  have eh := eh.symm
  subst eh
  have X := X155 [] all0
  show W.Go _ _ _ _ _ _ _ _ _ _ _ (mkF m 5 #[.val (.ref b), .val (.int (Int32.ofNat cs.length)), .val (.ref a)] [])
  refine W.o_aloadN X (pc' := 6) d_jdk_68_method_73_5 rfl rfl rfl ?_
  refine W.o_aloadN X (pc' := 7) d_jdk_68_method_73_6 rfl rfl rfl ?_
  refine W.o_getfield X (pc' := 10) d_jdk_68_method_73_7 rfl (hw _ (List.mem_of_getElem? (i := 63) rfl)) Via.refl F0 (fun T X => ?_)
  refine W.o_iloadN X (pc' := 11) d_jdk_68_method_73_10 rfl rfl ?_
  refine W.o_aloadN X (pc' := 12) d_jdk_68_method_73_11 rfl rfl rfl ?_
  refine W.o_getfield X (pc' := 15) d_jdk_68_method_73_12 rfl (hw _ (List.mem_of_getElem? (i := 65) rfl)) Via.refl F1 (fun T X => ?_)
  refine W.o_virtual X (pc' := 18) d_jdk_68_method_73_15 rfl (u := (⟨"java/lang/String", "getBytes", "([BIB)V"⟩ : MethodName)) (z := (⟨"java/lang/String", "getBytes", "([BIB)V"⟩ : MethodName)) (hw _ (List.mem_of_getElem? (i := 106) rfl)) (hw _ (List.mem_of_getElem? (i := 107) rfl)) (fun s' hZ => notFace_of_selects (args := #[]) (mvT hZ (hw _ (List.mem_of_getElem? (i := 109) rfl)))) (hw _ (List.mem_of_getElem? (i := 109) rfl)) (hw _ (List.mem_of_getElem? (i := 108) rfl)) (hw _ (List.mem_of_getElem? (i := 7) rfl)) (hw _ (List.mem_of_getElem? (i := 110) rfl)) (by decide) G0.1 (ctGB l Z a0 hw a t d kd cap cs ds cz h0 C0 hcz hcp hle zd G0 A0) (allS ⟨A0.lt, (Or.inr (Or.inl (by simp)))⟩ all0) [(.ref d), (.int (Int32.ofNat cs.length)), (.int (0 : Int32))] rfl (rest := []) rfl pd___BIB_V rfl rfl (by decide) (by exact Nat.le_of_ble_eq_true rfl) (by decide) (by decide) (fun v157 T q158 => ?_)
  obtain ⟨h161, S159, ⟨rfl, K1, B1⟩, X160⟩ := q158
  have X := X160 [] all0
  show W.Go _ _ _ _ _ _ _ _ _ _ _ (mkF m 18 #[.val (.ref b), .val (.int (Int32.ofNat cs.length)), .val (.ref a)] [])
  exact W.o_return X d_jdk_68_method_73_18 (by decide) (by decide) fun P hP => ⟨rfl, K1, B1⟩
set_option maxRecDepth 65536 in
set_option maxHeartbeats 40000000 in
theorem ctApp (l : Launch) (Z : State) (a0 : Array Value) (hw : ∀ d ∈ tables_1, d.before a0 Z = true) (b d a t : Addr) (cap : Nat) (cs ds : List Int32) (cz : Int32) (h0 : Heap) (C0 : Sta Z Z.heap "java/lang/String" "COMPACT_STRINGS" "Z" (.int cz)) (hcz : ¬ cz = 0) (hsum : cs.length + ds.length ≤ 34) (htd : t ≠ d) (G0 : Bld Z h0 b d cap cs) (H0 : Str Z h0 a t ds) :
    W.Ct wd Z a0 el l (⟨"java/lang/AbstractStringBuilder", "append", "(Ljava/lang/String;)Ljava/lang/AbstractStringBuilder;"⟩ : MethodName) jdk_68_method_22_code 3 (some (.object "java/lang/AbstractStringBuilder")) ({ frames := 4, cells := 1, slots := 34, locals := 62 } : Room) #[(.ref b), (.ref a)] h0 [d] (fun v h S => v = some (.ref b) ∧ Keep h0 h [b, d] ∧ ∃ d' cap', (d' = d ∨ h0.size ≤ d') ∧ Bld Z h b d' cap' (cs ++ ds) ∧ S d') := by
  refine W.Ct.walk hwe (plainFor_of_name pn_java_lang_AbstractStringBuilder) ?_
  intro p e s m below meth c T hE0 X
  refine W.castG (show entryFrame m #[(.ref b), (.ref a)] 3 = mkF m 0 #[.val (.ref b), .val (.ref a), .unset] [] from by first | (simp [entryFrame, mkF, argsToLocals, Value.category]; done) | rfl) ?_
  refine W.o_aloadN X (pc' := 1) d_jdk_68_method_22_0 rfl rfl rfl ?_
  refine W.o_ifnonnull_y X (pt := 9) d_jdk_68_method_22_1 ⟨by decide, by decide⟩ ?_
  refine W.o_aloadN X (pc' := 10) d_jdk_68_method_22_9 rfl rfl rfl ?_
  refine W.o_virtual X (pc' := 13) d_jdk_68_method_22_10 rfl (u := (⟨"java/lang/String", "length", "()I"⟩ : MethodName)) (z := (⟨"java/lang/String", "length", "()I"⟩ : MethodName)) (hw _ (List.mem_of_getElem? (i := 77) rfl)) (hw _ (List.mem_of_getElem? (i := 78) rfl)) (fun s' hZ => notFace_of_selects (args := #[]) (mvT hZ (hw _ (List.mem_of_getElem? (i := 80) rfl)))) (hw _ (List.mem_of_getElem? (i := 80) rfl)) (hw _ (List.mem_of_getElem? (i := 79) rfl)) (hw _ (List.mem_of_getElem? (i := 7) rfl)) (hw _ (List.mem_of_getElem? (i := 81) rfl)) (by decide) H0.1 (ctLen l Z a0 hw a t ds cz h0 C0 hcz H0) (fun _ q => nomatch q) [] rfl (rest := []) rfl pd___I rfl rfl (by decide) (by exact Nat.le_of_ble_eq_true rfl) (by decide) (by decide) (fun v162 T q163 => ?_)
  obtain ⟨h166, S164, ⟨rfl, eh⟩, X165⟩ := q163
  have eh := eh.symm
  subst eh
  have X := X165 [] all0
  show W.Go _ _ _ _ _ _ _ _ _ _ _ (mkF m 13 #[.val (.ref b), .val (.ref a), .unset] [(.int (Int32.ofNat ds.length))])
  refine W.o_istoreN X (pc' := 14) d_jdk_68_method_22_13 rfl (L' := #[.val (.ref b), .val (.ref a), .val (.int (Int32.ofNat ds.length))]) rfl ?_
  refine W.o_aloadN X (pc' := 15) d_jdk_68_method_22_14 rfl rfl rfl ?_
  refine W.o_aloadN X (pc' := 16) d_jdk_68_method_22_15 rfl rfl rfl ?_
  refine W.o_getfield X (pc' := 19) d_jdk_68_method_22_16 rfl (hw _ (List.mem_of_getElem? (i := 88) rfl)) Via.refl G0.2.2.2.1 (fun T X => ?_)
  refine W.o_iloadN X (pc' := 20) d_jdk_68_method_22_19 rfl rfl ?_
  refine W.o_iadd X (pc' := 21) d_jdk_68_method_22_20 rfl ?_
  rw [o32_add]
  refine W.o_virtual X (pc' := 24) d_jdk_68_method_22_21 rfl (u := (⟨"java/lang/AbstractStringBuilder", "ensureCapacityInternal", "(I)V"⟩ : MethodName)) (z := (⟨"java/lang/AbstractStringBuilder", "ensureCapacityInternal", "(I)V"⟩ : MethodName)) (hw _ (List.mem_of_getElem? (i := 90) rfl)) (declOf (hw _ (List.mem_of_getElem? (i := 91) rfl)) (hw _ (List.mem_of_getElem? (i := 94) rfl))) (fun s' hZ => notFace_of_selects (args := #[]) (mvT hZ (hw _ (List.mem_of_getElem? (i := 93) rfl)))) (hw _ (List.mem_of_getElem? (i := 93) rfl)) (hw _ (List.mem_of_getElem? (i := 91) rfl)) (hw _ (List.mem_of_getElem? (i := 59) rfl)) (hw _ (List.mem_of_getElem? (i := 94) rfl)) (by decide) G0.1 (ctEns l Z a0 hw b d cap (cs.length + ds.length) cs h0 hsum G0) (allS ⟨G0.lt', (Or.inr (Or.inl (by simp)))⟩ all0) [(.int (Int32.ofNat (cs.length + ds.length)))] rfl (rest := []) rfl pd__I_V rfl rfl (by decide) (by exact Nat.le_of_ble_eq_true rfl) (by decide) (by decide) (fun v167 T q168 => ?_)
  obtain ⟨h1, S169, ⟨rfl, K1, d1, cap1, hd1, G1, hnd, sd⟩, X170⟩ := q168
  have X := X170 [d1] (allS ⟨G1.lt', sd⟩ all0)
  obtain ⟨E1, F1, F0, F2, ⟨kd1, A1⟩, D1, zd1, zb1, hcap1, hle1, hlat1⟩ := id G1
  have td : t ≠ d1 := hd1.elim (fun q => q ▸ htd) (fun q => Nat.ne_of_lt (Nat.lt_of_lt_of_le H0.lt' q))
  show W.Go _ _ _ _ _ _ _ _ _ _ _ (mkF m 24 #[.val (.ref b), .val (.ref a), .val (.int (Int32.ofNat ds.length))] [])
  refine W.o_aloadN X (pc' := 25) d_jdk_68_method_22_24 rfl rfl rfl ?_
  refine W.o_aloadN X (pc' := 26) d_jdk_68_method_22_25 rfl rfl rfl ?_
  refine W.o_getfield X (pc' := 29) d_jdk_68_method_22_26 rfl (hw _ (List.mem_of_getElem? (i := 88) rfl)) Via.refl F2 (fun T X => ?_)
  refine W.o_aloadN X (pc' := 30) d_jdk_68_method_22_29 rfl rfl rfl ?_
  have f171 := (H0.keep K1 (ninS (ne_exa (H0.1.keep K1) E1 (by decide)) nin0) (ninS (H0.neObj G0.1 (hw _ (List.mem_of_getElem? (i := 50) rfl))) nin0))
  refine W.o_virtual X (pc' := 33) d_jdk_68_method_22_30 rfl (u := (⟨"java/lang/AbstractStringBuilder", "putStringAt", "(ILjava/lang/String;)V"⟩ : MethodName)) (z := (⟨"java/lang/AbstractStringBuilder", "putStringAt", "(ILjava/lang/String;)V"⟩ : MethodName)) (hw _ (List.mem_of_getElem? (i := 95) rfl)) (declOf (hw _ (List.mem_of_getElem? (i := 96) rfl)) (hw _ (List.mem_of_getElem? (i := 99) rfl))) (fun s' hZ => notFace_of_selects (args := #[]) (mvT hZ (hw _ (List.mem_of_getElem? (i := 98) rfl)))) (hw _ (List.mem_of_getElem? (i := 98) rfl)) (hw _ (List.mem_of_getElem? (i := 96) rfl)) (hw _ (List.mem_of_getElem? (i := 59) rfl)) (hw _ (List.mem_of_getElem? (i := 99) rfl)) (by decide) E1 (ctPSA l Z a0 hw b a t d1 kd1 cap1 cs ds cz h1 C0 hcz (by omega) hnd zd1 E1 F0 F1 f171 A1) (allS ⟨A1.lt, (Or.inr (Or.inl (by simp)))⟩ all0) [(.int (Int32.ofNat cs.length)), (.ref a)] rfl (rest := []) rfl pd__ILjava_lang_String__V rfl rfl (by decide) (by exact Nat.le_of_ble_eq_true rfl) (by decide) (by decide) (fun v172 T q173 => ?_)
  obtain ⟨h176, S174, ⟨rfl, K2, B2⟩, X175⟩ := q173
  have X := X175 [] all0
  show W.Go _ _ _ _ _ _ _ _ _ _ _ (mkF m 33 #[.val (.ref b), .val (.ref a), .val (.int (Int32.ofNat ds.length))] [])
  refine W.o_aloadN X (pc' := 34) d_jdk_68_method_22_33 rfl rfl rfl ?_
  refine W.o_dup X (pc' := 35) d_jdk_68_method_22_34 rfl rfl ?_
  have f177 := (F2.keep K2 (ninS (ne_exa E1 D1 (by decide)) nin0))
  refine W.o_getfield X (pc' := 38) d_jdk_68_method_22_35 rfl (hw _ (List.mem_of_getElem? (i := 88) rfl)) Via.refl f177 (fun T X => ?_)
  refine W.o_iloadN X (pc' := 39) d_jdk_68_method_22_38 rfl rfl ?_
  refine W.o_iadd X (pc' := 40) d_jdk_68_method_22_39 rfl ?_
  rw [o32_add]
  have f178 := (E1.keep K2)
  refine W.o_putfield X (pc' := 43) d_jdk_68_method_22_40 rfl (hw _ (List.mem_of_getElem? (i := 88) rfl)) Via.refl f177 f178 (Or.inl (hw _ (List.mem_of_getElem? (i := 89) rfl))) (hw _ (List.mem_of_getElem? (i := 50) rfl)) (ty := .int) (by decide) rfl rfl G0.2.2.2.2.2.2.2.1 (Or.inr (Or.inr (Or.inl ⟨_, f178, by decide, by decide⟩))) (fun T h179 w180 X => ?_)
  have f181 := f177.same w180
  refine W.o_aloadN X (pc' := 44) d_jdk_68_method_22_43 rfl rfl rfl ?_
  have hl2 : (cs ++ ds).length = cs.length + ds.length := List.length_append
  rw [← hl2] at f181
  have KK : Keep h0 h179 [b, d] := by
    rcases hd1 with rfl | hd1
    · exact (((Keep.refl h0 [b, d1]).trans K1 (allS (Or.inl (by simp)) all0)).trans K2 (allS (Or.inl (by simp)) all0)).wr w180 (Or.inl (by simp))
    · exact (((Keep.refl h0 [b, d]).trans K1 (allS (Or.inl (by simp)) all0)).trans K2 (allS (Or.inr hd1) all0)).wr w180 (Or.inl (by simp))
  have f182 := (f178.wr w180)
  have f183 := ((F1.keep K2 (ninS (ne_exa f182 ((D1.keep K2).wr w180) (by decide)) nin0)).other w180 (Or.inr (slot_ne (Or.inl (hw _ (List.mem_of_getElem? (i := 66) rfl))) (Or.inl (hw _ (List.mem_of_getElem? (i := 89) rfl))) (by decide) (t := .byte) (t' := .int) (by decide) (by decide))))
  have f184 := ((F0.keep K2 (ninS (ne_exa f182 ((D1.keep K2).wr w180) (by decide)) nin0)).other w180 (Or.inr (slot_ne (Or.inl (hw _ (List.mem_of_getElem? (i := 64) rfl))) (Or.inl (hw _ (List.mem_of_getElem? (i := 89) rfl))) (by decide) (t := (.array .byte)) (t' := .int) (by decide) (by decide))))
  have f185 := (B2.other w180 (ne_exa ((D1.keep K2).wr w180) f182 (by decide)))
  have f186 := ((D1.keep K2).wr w180)
  exact W.o_areturn X d_jdk_68_method_22_44 rfl rfl rfl (by decide) (by decide) fun P hP => ⟨rfl, KK, d1, cap1, hd1, ⟨f182, f183, f184, f181, ⟨kd1, f185⟩, f186, zd1, zb1, hcap1, by omega, fun c hc => (List.mem_append.mp hc).elim (hlat1 c) (H0.2.2.2.2.2 c)⟩, hP d1 (by simp)⟩
set_option maxRecDepth 65536 in
set_option maxHeartbeats 40000000 in
theorem ctAppS (l : Launch) (Z : State) (a0 : Array Value) (hw : ∀ d ∈ tables_1, d.before a0 Z = true) (b d a t : Addr) (cap : Nat) (cs ds : List Int32) (cz : Int32) (h0 : Heap) (C0 : Sta Z Z.heap "java/lang/String" "COMPACT_STRINGS" "Z" (.int cz)) (hcz : ¬ cz = 0) (hsum : cs.length + ds.length ≤ 34) (htd : t ≠ d) (G0 : Bld Z h0 b d cap cs) (H0 : Str Z h0 a t ds) :
    W.Ct wd Z a0 el l (⟨"java/lang/StringBuilder", "append", "(Ljava/lang/String;)Ljava/lang/StringBuilder;"⟩ : MethodName) jdk_67_method_7_code 2 (some (.object "java/lang/StringBuilder")) ({ frames := 5, cells := 1, slots := 34, locals := 76 } : Room) #[(.ref b), (.ref a)] h0 [d] (fun v h S => v = some (.ref b) ∧ Keep h0 h [b, d] ∧ ∃ d' cap', (d' = d ∨ h0.size ≤ d') ∧ Bld Z h b d' cap' (cs ++ ds) ∧ S d') := by
  refine W.Ct.walk hwe (plainFor_of_name pn_java_lang_StringBuilder) ?_
  intro p e s m below meth c T hE0 X
  refine W.castG (show entryFrame m #[(.ref b), (.ref a)] 2 = mkF m 0 #[.val (.ref b), .val (.ref a)] [] from by first | (simp [entryFrame, mkF, argsToLocals, Value.category]; done) | rfl) ?_
  refine W.o_aloadN X (pc' := 1) d_jdk_67_method_7_0 rfl rfl rfl ?_
  refine W.o_aloadN X (pc' := 2) d_jdk_67_method_7_1 rfl rfl rfl ?_
  refine W.o_super X (pc' := 5) d_jdk_67_method_7_2 rfl (z := (⟨"java/lang/AbstractStringBuilder", "append", "(Ljava/lang/String;)Ljava/lang/AbstractStringBuilder;"⟩ : MethodName)) (by decide) (hw _ (List.mem_of_getElem? (i := 72) rfl)) (sameOwn (hw _ (List.mem_of_getElem? (i := 73) rfl)) (hw _ (List.mem_of_getElem? (i := 133) rfl)) rfl (by decide)) (hw _ (List.mem_of_getElem? (i := 73) rfl)) (hw _ (List.mem_of_getElem? (i := 74) rfl)) (hw _ (List.mem_of_getElem? (i := 59) rfl)) (hw _ (List.mem_of_getElem? (i := 76) rfl)) (Ins.of_exa G0.1 (hw _ (List.mem_of_getElem? (i := 58) rfl))) (ctApp l Z a0 hw b d a t cap cs ds cz h0 C0 hcz hsum htd G0 H0) (allS ⟨G0.lt', (Or.inr (Or.inl (by simp)))⟩ all0) [(.ref a)] rfl (rest := []) rfl pd__Ljava_lang_String__Ljava_lang_AbstractStringBuilder_ rfl rfl (by decide) (by exact Nat.le_of_ble_eq_true rfl) (by decide) (by decide) (fun v187 T q188 => ?_)
  obtain ⟨h1, S189, ⟨rfl, K1, d1, cap1, hd1, G1, sd⟩, X190⟩ := q188
  have X := X190 [d1] (allS ⟨G1.lt', sd⟩ all0)
  show W.Go _ _ _ _ _ _ _ _ _ _ _ (mkF m 5 #[.val (.ref b), .val (.ref a)] [(.ref b)])
  refine W.o_pop X (pc' := 6) d_jdk_67_method_7_5 rfl rfl ?_
  refine W.o_aloadN X (pc' := 7) d_jdk_67_method_7_6 rfl rfl rfl ?_
  exact W.o_areturn X d_jdk_67_method_7_7 rfl rfl rfl (by decide) (by decide) fun P hP => ⟨rfl, K1, d1, cap1, hd1, G1, hP d1 (by simp)⟩
set_option maxRecDepth 65536 in
set_option maxHeartbeats 40000000 in
theorem ctGV (l : Launch) (Z : State) (a0 : Array Value) (hw : ∀ d ∈ tables_1, d.before a0 Z = true) (b d : Addr) (h0 : Heap) (F0 : Fld Z h0 b "java/lang/AbstractStringBuilder" "value" "[B" (.ref d)) :
    W.Ct wd Z a0 el l (⟨"java/lang/AbstractStringBuilder", "getValue", "()[B"⟩ : MethodName) jdk_68_method_64_code 1 (some (.array .byte)) ({ frames := 0, cells := 0, slots := 0, locals := 0 } : Room) #[(.ref b)] h0 [] (fun v h S => v = some (.ref d) ∧ h = h0) := by
  refine W.Ct.walk hwe (plainFor_of_name pn_java_lang_AbstractStringBuilder) ?_
  intro p e s m below meth c T hE0 X
  refine W.castG (show entryFrame m #[(.ref b)] 1 = mkF m 0 #[.val (.ref b)] [] from by first | (simp [entryFrame, mkF, argsToLocals, Value.category]; done) | rfl) ?_
  refine W.o_aloadN X (pc' := 1) d_jdk_68_method_64_0 rfl rfl rfl ?_
  refine W.o_getfield X (pc' := 4) d_jdk_68_method_64_1 rfl (hw _ (List.mem_of_getElem? (i := 63) rfl)) Via.refl F0 (fun T X => ?_)
  exact W.o_areturn X d_jdk_68_method_64_4 rfl rfl rfl (by decide) (by decide) fun P hP => ⟨rfl, rfl⟩
set_option maxRecDepth 65536 in
set_option maxHeartbeats 40000000 in
theorem ctAL (l : Launch) (Z : State) (a0 : Array Value) (hw : ∀ d ∈ tables_1, d.before a0 Z = true) (b : Addr) (x0 : Int32) (h0 : Heap) (F0 : Fld Z h0 b "java/lang/AbstractStringBuilder" "count" "I" (.int x0)) :
    W.Ct wd Z a0 el l (⟨"java/lang/AbstractStringBuilder", "length", "()I"⟩ : MethodName) jdk_68_method_6_code 1 (some .int) ({ frames := 0, cells := 0, slots := 0, locals := 0 } : Room) #[(.ref b)] h0 [] (fun v h S => v = some (.int x0) ∧ h = h0) := by
  refine W.Ct.walk hwe (plainFor_of_name pn_java_lang_AbstractStringBuilder) ?_
  intro p e s m below meth c T hE0 X
  refine W.castG (show entryFrame m #[(.ref b)] 1 = mkF m 0 #[.val (.ref b)] [] from by first | (simp [entryFrame, mkF, argsToLocals, Value.category]; done) | rfl) ?_
  refine W.o_aloadN X (pc' := 1) d_jdk_68_method_6_0 rfl rfl rfl ?_
  refine W.o_getfield X (pc' := 4) d_jdk_68_method_6_1 rfl (hw _ (List.mem_of_getElem? (i := 88) rfl)) Via.refl F0 (fun T X => ?_)
  exact W.o_ireturnI X d_jdk_68_method_6_4 rfl (by decide) (by decide) fun P hP => ⟨rfl, rfl⟩
set_option maxRecDepth 65536 in
set_option maxHeartbeats 40000000 in
theorem ctBL (l : Launch) (Z : State) (a0 : Array Value) (hw : ∀ d ∈ tables_1, d.before a0 Z = true) (b : Addr) (x0 : Int32) (h0 : Heap) (E0 : Exa Z h0 b "java/lang/StringBuilder") (F0 : Fld Z h0 b "java/lang/AbstractStringBuilder" "count" "I" (.int x0)) :
    W.Ct wd Z a0 el l (⟨"java/lang/StringBuilder", "length", "()I"⟩ : MethodName) jdk_67_method_93_code 1 (some .int) ({ frames := 1, cells := 0, slots := 0, locals := 12 } : Room) #[(.ref b)] h0 [] (fun v h S => v = some (.int x0) ∧ h = h0) := by
  refine W.Ct.walk hwe (plainFor_of_name pn_java_lang_StringBuilder) ?_
  intro p e s m below meth c T hE0 X
  refine W.castG (show entryFrame m #[(.ref b)] 1 = mkF m 0 #[.val (.ref b)] [] from by first | (simp [entryFrame, mkF, argsToLocals, Value.category]; done) | rfl) ?_
  refine W.o_aloadN X (pc' := 1) d_jdk_67_method_93_0 rfl rfl rfl ?_
  refine W.o_super X (pc' := 4) d_jdk_67_method_93_1 rfl (z := (⟨"java/lang/AbstractStringBuilder", "length", "()I"⟩ : MethodName)) (by decide) (hw _ (List.mem_of_getElem? (i := 141) rfl)) (sameOwn (hw _ (List.mem_of_getElem? (i := 137) rfl)) (hw _ (List.mem_of_getElem? (i := 133) rfl)) rfl (by decide)) (hw _ (List.mem_of_getElem? (i := 137) rfl)) (hw _ (List.mem_of_getElem? (i := 74) rfl)) (hw _ (List.mem_of_getElem? (i := 59) rfl)) (hw _ (List.mem_of_getElem? (i := 142) rfl)) (Ins.of_exa E0 (hw _ (List.mem_of_getElem? (i := 58) rfl))) (ctAL l Z a0 hw b x0 h0 F0) (fun _ q => nomatch q) [] rfl (rest := []) rfl pd___I rfl rfl (by decide) (by exact Nat.le_of_ble_eq_true rfl) (by decide) (by decide) (fun v191 T q192 => ?_)
  obtain ⟨h195, S193, ⟨rfl, eh⟩, X194⟩ := q192
  have eh := eh.symm
  subst eh
  have X := X194 [] all0
  show W.Go _ _ _ _ _ _ _ _ _ _ _ (mkF m 4 #[.val (.ref b)] [(.int x0)])
  exact W.o_ireturnI X d_jdk_67_method_93_4 rfl (by decide) (by decide) fun P hP => ⟨rfl, rfl⟩
set_option maxRecDepth 65536 in
set_option maxHeartbeats 40000000 in
theorem ctAL1 (l : Launch) (Z : State) (a0 : Array Value) (hw : ∀ d ∈ tables_1, d.before a0 Z = true) (b : Addr) (cz : Int32) (h0 : Heap) (C0 : Sta Z Z.heap "java/lang/String" "COMPACT_STRINGS" "Z" (.int cz)) (hcz : ¬ cz = 0) (F0 : Fld Z h0 b "java/lang/AbstractStringBuilder" "coder" "B" (.int (0 : Int32))) :
    W.Ct wd Z a0 el l (⟨"java/lang/AbstractStringBuilder", "isLatin1", "()Z"⟩ : MethodName) jdk_68_method_68_code 1 (some .boolean) ({ frames := 0, cells := 0, slots := 0, locals := 0 } : Room) #[(.ref b)] h0 [] (fun v h S => v = some (.int 1) ∧ h = h0) := by
  refine W.Ct.walk hwe (plainFor_of_name pn_java_lang_AbstractStringBuilder) ?_
  intro p e s m below meth c T hE0 X
  refine W.castG (show entryFrame m #[(.ref b)] 1 = mkF m 0 #[.val (.ref b)] [] from by first | (simp [entryFrame, mkF, argsToLocals, Value.category]; done) | rfl) ?_
  refine W.o_getstatic X (pc' := 3) d_jdk_68_method_68_0 rfl (hw _ (List.mem_of_getElem? (i := 62) rfl)) Via.refl C0 (fun T X => ?_)
  refine W.o_ifeq X (pt := 17) (pf := 6) d_jdk_68_method_68_3 ⟨by decide, by decide⟩ rfl (fun hc => absurd hc hcz) (fun _ => ?_)
  refine W.o_aloadN X (pc' := 7) d_jdk_68_method_68_6 rfl rfl rfl ?_
  refine W.o_getfield X (pc' := 10) d_jdk_68_method_68_7 rfl (hw _ (List.mem_of_getElem? (i := 65) rfl)) Via.refl F0 (fun T X => ?_)
  refine W.o_ifne X (pt := 17) (pf := 13) d_jdk_68_method_68_10 ⟨by decide, by decide⟩ rfl (fun hc => absurd rfl hc) (fun _ => ?_)
  refine W.o_iconst X (1 : Int32) (pc' := 14) d_jdk_68_method_68_13 rfl rfl ?_
  refine W.o_goto X (pc' := 18) d_jdk_68_method_68_14 ⟨by decide, by decide⟩ ?_
  exact W.o_ireturn X d_jdk_68_method_68_18 rfl (Or.inl rfl) (v := 1) rfl (by decide) (by decide) fun P hP => ⟨rfl, rfl⟩
set_option maxRecDepth 65536 in
set_option maxHeartbeats 40000000 in
theorem ctCkL (l : Launch) (Z : State) (a0 : Array Value) (hw : ∀ d ∈ tables_1, d.before a0 Z = true) (n : Nat) (h0 : Heap) (hn : n ≤ 1000) :
    W.Ct wd Z a0 el l (⟨"java/util/Arrays", "checkLength", "(II)V"⟩ : MethodName) jdk_65_method_131_code 2 none ({ frames := 0, cells := 0, slots := 0, locals := 0 } : Room) #[(.int (0 : Int32)), (.int (Int32.ofNat n))] h0 [] (fun v h S => v = none ∧ h = h0) := by
  refine W.Ct.walk hwe (plainFor_of_name pn_java_util_Arrays) ?_
  intro p e s m below meth c T hE0 X
  refine W.castG (show entryFrame m #[(.int (0 : Int32)), (.int (Int32.ofNat n))] 2 = mkF m 0 #[.val (.int (0 : Int32)), .val (.int (Int32.ofNat n))] [] from by first | (simp [entryFrame, mkF, argsToLocals, Value.category]; done) | rfl) ?_
  refine W.o_iloadN X (pc' := 1) d_jdk_65_method_131_0 rfl rfl ?_
  refine W.o_iloadN X (pc' := 2) d_jdk_65_method_131_1 rfl rfl ?_
  refine W.o_if_icmpge X (pt := 37) (pf := 5) d_jdk_65_method_131_2 ⟨by decide, by decide⟩ rfl (fun _ => ?_) (fun hc => absurd hc (o32_nn (by omega)))
  exact W.o_return X d_jdk_65_method_131_37 (by decide) (by decide) fun P hP => ⟨rfl, rfl⟩
set_option maxRecDepth 65536 in
set_option maxHeartbeats 40000000 in
theorem ctCRB (l : Launch) (Z : State) (a0 : Array Value) (hw : ∀ d ∈ tables_1, d.before a0 Z = true) (d : Addr) (kd : ClassId) (cap : Nat) (cs : List Int32) (h0 : Heap) (hcap : cap = 16 ∨ cap = 34) (hle : cs.length ≤ cap) (A0 : Arv Z h0 d kd .byte (Int32.ofNat cap) (fill cap cs) (.int 0)) :
    W.Ct wd Z a0 el l (⟨"java/util/Arrays", "copyOfRangeByte", "([BII)[B"⟩ : MethodName) jdk_65_method_133_code 5 (some (.array .byte)) ({ frames := 1, cells := 1, slots := 34, locals := 18 } : Room) #[(.ref d), (.int (0 : Int32)), (.int (Int32.ofNat cs.length))] h0 [] (fun v h S => ∃ e, v = some (.ref e) ∧ Keep h0 h [] ∧ h0.size ≤ e ∧ ∃ ke, Arv Z h e ke .byte (Int32.ofNat cs.length) (cs.map lo) (.int 0)) := by
  refine W.Ct.walk hwe (plainFor_of_name pn_java_util_Arrays) ?_
  intro p e s m below meth c T hE0 X
  refine W.castG (show entryFrame m #[(.ref d), (.int (0 : Int32)), (.int (Int32.ofNat cs.length))] 5 = mkF m 0 #[.val (.ref d), .val (.int (0 : Int32)), .val (.int (Int32.ofNat cs.length)), .unset, .unset] [] from by first | (simp [entryFrame, mkF, argsToLocals, Value.category]; done) | rfl) ?_
  refine W.o_iloadN X (pc' := 1) d_jdk_65_method_133_0 rfl rfl ?_
  refine W.o_iloadN X (pc' := 2) d_jdk_65_method_133_1 rfl rfl ?_
  refine W.o_static X (pc' := 5) d_jdk_65_method_133_2 rfl (z := (⟨"java/util/Arrays", "checkLength", "(II)V"⟩ : MethodName)) (hw _ (List.mem_of_getElem? (i := 155) rfl)) (hw _ (List.mem_of_getElem? (i := 156) rfl)) (hw _ (List.mem_of_getElem? (i := 150) rfl)) (hw _ (List.mem_of_getElem? (i := 157) rfl)) (by decide) (ctCkL l Z a0 hw cs.length h0 (by omega)) (fun _ q => nomatch q) [(.int (0 : Int32)), (.int (Int32.ofNat cs.length))] rfl (rest := []) rfl pd__II_V rfl rfl (by decide) (by exact Nat.le_of_ble_eq_true rfl) (by decide) (by decide) (fun v196 T q197 => ?_)
  obtain ⟨h200, S198, ⟨rfl, eh⟩, X199⟩ := q197
  have eh := eh.symm
  subst eh
  have X := X199 [] all0
  show W.Go _ _ _ _ _ _ _ _ _ _ _ (mkF m 5 #[.val (.ref d), .val (.int (0 : Int32)), .val (.int (Int32.ofNat cs.length)), .unset, .unset] [])
  refine W.o_iloadN X (pc' := 6) d_jdk_65_method_133_5 rfl rfl ?_
  refine W.o_iloadN X (pc' := 7) d_jdk_65_method_133_6 rfl rfl ?_
  refine W.o_isub X (pc' := 8) d_jdk_65_method_133_7 rfl ?_
  rw [Int32.sub_zero]
  refine W.o_istoreN X (pc' := 9) d_jdk_65_method_133_8 rfl (L' := #[.val (.ref d), .val (.int (0 : Int32)), .val (.int (Int32.ofNat cs.length)), .val (.int (Int32.ofNat cs.length)), .unset]) rfl ?_
  refine W.o_iloadN X (pc' := 10) d_jdk_65_method_133_9 rfl rfl ?_
  refine W.o_newarray X (pc' := 12) d_jdk_65_method_133_10 rfl (hw _ (List.mem_of_getElem? (i := 19) rfl)) (o32_nn (by omega)) (cap := 34) (by rw [o32_clamp (by omega)]; omega) (by decide) (by decide) (by decide) (fun T h1 e kd1 g1 z1 E1 V1 X => ?_)
  have B1 : Arv Z h1 e kd1 .byte (Int32.ofNat cs.length) (List.replicate cs.length (.int 0)) (.int 0) := V1.pad (pad_rep [] (.int 0) cs.length)
  refine W.o_astore X (pc' := 14) d_jdk_65_method_133_12 rfl (L' := #[.val (.ref d), .val (.int (0 : Int32)), .val (.int (Int32.ofNat cs.length)), .val (.int (Int32.ofNat cs.length)), .val (.ref e)]) rfl rfl ?_
  refine W.o_aloadN X (pc' := 15) d_jdk_65_method_133_14 rfl rfl rfl ?_
  refine W.o_iloadN X (pc' := 16) d_jdk_65_method_133_15 rfl rfl ?_
  refine W.o_aload X (pc' := 18) d_jdk_65_method_133_16 rfl rfl rfl ?_
  refine W.o_iconst X (0 : Int32) (pc' := 19) d_jdk_65_method_133_18 rfl rfl ?_
  refine W.o_aloadN X (pc' := 20) d_jdk_65_method_133_19 rfl rfl rfl ?_
  have f201 := (A0.ext E1)
  refine W.o_arraylength X (pc' := 21) d_jdk_65_method_133_20 rfl f201 ?_
  refine W.o_iloadN X (pc' := 22) d_jdk_65_method_133_21 rfl rfl ?_
  refine W.o_isub X (pc' := 23) d_jdk_65_method_133_22 rfl ?_
  rw [Int32.sub_zero]
  refine W.o_iloadN X (pc' := 24) d_jdk_65_method_133_23 rfl rfl ?_
  refine W.o_static X (pc' := 27) d_jdk_65_method_133_24 rfl (z := (⟨"java/lang/Math", "min", "(II)I"⟩ : MethodName)) (hw _ (List.mem_of_getElem? (i := 158) rfl)) (hw _ (List.mem_of_getElem? (i := 159) rfl)) (hw _ (List.mem_of_getElem? (i := 160) rfl)) (hw _ (List.mem_of_getElem? (i := 161) rfl)) (by decide) (ctMin l Z a0 hw (Int32.ofNat cap) (Int32.ofNat cs.length) h1) (fun _ q => nomatch q) [(.int (Int32.ofNat cap)), (.int (Int32.ofNat cs.length))] rfl (rest := [(.int (0 : Int32)), (.ref e), (.int (0 : Int32)), (.ref d)]) rfl pd__II_I rfl rfl (by decide) (by exact Nat.le_of_ble_eq_true rfl) (by decide) (by decide) (fun v202 T q203 => ?_)
  obtain ⟨h206, S204, ⟨rfl, eh⟩, X205⟩ := q203
  have eh := eh.symm
  subst eh
  have X := X205 [] all0
  show W.Go _ _ _ _ _ _ _ _ _ _ _ (mkF m 27 #[.val (.ref d), .val (.int (0 : Int32)), .val (.int (Int32.ofNat cs.length)), .val (.int (Int32.ofNat cs.length)), .val (.ref e)] [(.int (if (Int32.ofNat cs.length) < (Int32.ofNat cap) then (Int32.ofNat cs.length) else (Int32.ofNat cap))), (.int (0 : Int32)), (.ref e), (.int (0 : Int32)), (.ref d)])
  have hmn : (if (Int32.ofNat cs.length) < (Int32.ofNat cap) then (Int32.ofNat cs.length) else (Int32.ofNat cap)) = (Int32.ofNat cs.length) := by
    split
    · rfl
    · next q => exact congrArg Int32.ofNat (Nat.le_antisymm (Nat.le_of_not_lt fun u => q (o32_lt u (by omega)).2) hle)
  rw [hmn]
  refine W.o_arraycopy X (pc' := 30) d_jdk_65_method_133_27 rfl (hw _ (List.mem_of_getElem? (i := 162) rfl)) (hw _ (List.mem_of_getElem? (i := 114) rfl)) (hw _ (List.mem_of_getElem? (i := 112) rfl)) (hw _ (List.mem_of_getElem? (i := 113) rfl)) f201 B1 rfl (us := (cs.map lo)) (by decide) (by decide) (o32_nn (by omega)) (by rw [o32_clamp (by omega), o32_clamp (by omega)]; exact (Nat.zero_add _).symm ▸ hle) (by rw [o32_clamp (by omega)]; exact Nat.le_of_eq (Nat.zero_add _)) (by rw [o32_clamp (by omega)]; exact cp_fill hle) (by rw [o32_clamp (by omega)]; simp) z1 (Or.inr (Or.inl (by simp))) rfl (by decide) (by decide) (fun T h209 K207 B208 X => ?_)
  have B2 : Arv Z h209 e kd1 .byte (Int32.ofNat cs.length) (cs.map lo) (.int 0) := by
    have q : (List.replicate cs.length (Value.int 0)).take (0 : Int32).toNatClampNeg ++ cs.map lo ++ (List.replicate cs.length (Value.int 0)).drop ((0 : Int32).toNatClampNeg + (Int32.ofNat cs.length).toNatClampNeg) = cs.map lo := by
      rw [o32_clamp (by omega)]; simp
    rw [q] at B208; exact B208
  refine W.o_aload X (pc' := 32) d_jdk_65_method_133_30 rfl rfl rfl ?_
  exact W.o_areturn X d_jdk_65_method_133_32 rfl rfl rfl (by decide) (by decide) fun P hP => ⟨e, rfl, (((Keep.refl h0 []).ext E1).trans K207 (allS (Or.inr (Nat.le_trans (Nat.le_refl _) (Nat.le_of_eq g1.symm))) all0)), (Nat.le_trans (Nat.le_refl _) (Nat.le_of_eq g1.symm)), kd1, B2⟩
set_option maxRecDepth 65536 in
set_option maxHeartbeats 40000000 in
theorem ctCR (l : Launch) (Z : State) (a0 : Array Value) (hw : ∀ d ∈ tables_1, d.before a0 Z = true) (d : Addr) (kd : ClassId) (cap : Nat) (cs : List Int32) (h0 : Heap) (D0 : Exa Z h0 d "[B") (hcap : cap = 16 ∨ cap = 34) (hle : cs.length ≤ cap) (A0 : Arv Z h0 d kd .byte (Int32.ofNat cap) (fill cap cs) (.int 0)) :
    W.Ct wd Z a0 el l (⟨"java/util/Arrays", "copyOfRange", "([BII)[B"⟩ : MethodName) jdk_65_method_132_code 3 (some (.array .byte)) ({ frames := 2, cells := 1, slots := 34, locals := 34 } : Room) #[(.ref d), (.int (0 : Int32)), (.int (Int32.ofNat cs.length))] h0 [] (fun v h S => ∃ e, v = some (.ref e) ∧ Keep h0 h [] ∧ h0.size ≤ e ∧ ∃ ke, Arv Z h e ke .byte (Int32.ofNat cs.length) (cs.map lo) (.int 0)) := by
  refine W.Ct.walk hwe (plainFor_of_name pn_java_util_Arrays) ?_
  intro p e s m below meth c T hE0 X
  refine W.castG (show entryFrame m #[(.ref d), (.int (0 : Int32)), (.int (Int32.ofNat cs.length))] 3 = mkF m 0 #[.val (.ref d), .val (.int (0 : Int32)), .val (.int (Int32.ofNat cs.length))] [] from by first | (simp [entryFrame, mkF, argsToLocals, Value.category]; done) | rfl) ?_
  refine W.o_iloadN X (pc' := 1) d_jdk_65_method_132_0 rfl rfl ?_
  refine W.o_ifne X (pt := 10) (pf := 4) d_jdk_65_method_132_1 ⟨by decide, by decide⟩ rfl (fun hc => absurd rfl hc) (fun _ => ?_)
  refine W.o_iloadN X (pc' := 5) d_jdk_65_method_132_4 rfl rfl ?_
  refine W.o_aloadN X (pc' := 6) d_jdk_65_method_132_5 rfl rfl rfl ?_
  refine W.o_arraylength X (pc' := 7) d_jdk_65_method_132_6 rfl A0 ?_
  refine W.o_if_icmpeq X (pt := 17) (pf := 10) d_jdk_65_method_132_7 ⟨by decide, by decide⟩ rfl (fun hc => ?_) (fun hc => ?_)
  · have ec : cs.length = cap := o32_inj (by omega) (by omega) hc
    refine W.o_aloadN X (pc' := 18) d_jdk_65_method_132_17 rfl rfl rfl ?_
    refine W.o_clone X (pc' := 21) d_jdk_65_method_132_18 rfl (hw _ (List.mem_of_getElem? (i := 225) rfl)) (hw _ (List.mem_of_getElem? (i := 226) rfl)) (hw _ (List.mem_of_getElem? (i := 230) rfl)) (hw _ (List.mem_of_getElem? (i := 228) rfl)) (hw _ (List.mem_of_getElem? (i := 229) rfl)) (hw _ (List.mem_of_getElem? (i := 231) rfl)) A0 D0 rfl (cap := 34) (by rw [o32_clamp (by omega)]; omega) (by decide) (by decide) (by decide) (by decide) (fun T h1 e g1 z1 E1 B1 D1 X => ?_)
    refine W.o_checkcast X (pc' := 24) d_jdk_65_method_132_21 rfl (hw _ (List.mem_of_getElem? (i := 232) rfl)) (Ins.self D1) (fun T X => ?_)
    exact W.o_areturn X d_jdk_65_method_132_24 rfl rfl rfl (by decide) (by decide) fun P hP => ⟨e, rfl, ((Keep.refl h0 []).ext E1), (Nat.le_trans (Nat.le_refl _) (Nat.le_of_eq g1.symm)), kd, by rw [← ec, fill_all] at B1; exact B1⟩
  · refine W.o_aloadN X (pc' := 11) d_jdk_65_method_132_10 rfl rfl rfl ?_
    refine W.o_iloadN X (pc' := 12) d_jdk_65_method_132_11 rfl rfl ?_
    refine W.o_iloadN X (pc' := 13) d_jdk_65_method_132_12 rfl rfl ?_
    refine W.o_static X (pc' := 16) d_jdk_65_method_132_13 rfl (z := (⟨"java/util/Arrays", "copyOfRangeByte", "([BII)[B"⟩ : MethodName)) (hw _ (List.mem_of_getElem? (i := 152) rfl)) (hw _ (List.mem_of_getElem? (i := 153) rfl)) (hw _ (List.mem_of_getElem? (i := 150) rfl)) (hw _ (List.mem_of_getElem? (i := 154) rfl)) (by decide) (ctCRB l Z a0 hw d kd cap cs h0 hcap hle A0) (fun _ q => nomatch q) [(.ref d), (.int (0 : Int32)), (.int (Int32.ofNat cs.length))] rfl (rest := []) rfl pd___BII__B rfl rfl (by decide) (by exact Nat.le_of_ble_eq_true rfl) (by decide) (by decide) (fun v210 T q211 => ?_)
    obtain ⟨h214, S212, ⟨e, rfl, K1, ge, ke, B1⟩, X213⟩ := q211
    have X := X213 [] all0
    show W.Go _ _ _ _ _ _ _ _ _ _ _ (mkF m 16 #[.val (.ref d), .val (.int (0 : Int32)), .val (.int (Int32.ofNat cs.length))] [(.ref e)])
    exact W.o_areturn X d_jdk_65_method_132_16 rfl rfl rfl (by decide) (by decide) fun P hP => ⟨e, rfl, K1, ge, ke, B1⟩
theorem notFaceOf {s : State} {u z : MethodName} {K : String} (sel : (Cond.selects K u u).before #[] s = true) (hu : u.cls = z.cls) : NotFace s z := fun r0 h0 => by
  obtain ⟨c2, r2, m2, q1, q2, q3, q4, kP, hkP, hkPi⟩ := Cond.selects_spec sel
  have f1 := findClass_of_methodNamed h0
  have f2 := findClass_of_methodNamed q3
  rw [hu] at f2
  have e := Option.some.inj (f1.symm.trans f2)
  exact ⟨kP, by rw [e]; exact hkP, hkPi⟩
set_option maxRecDepth 65536 in
set_option maxHeartbeats 40000000 in
theorem ctSI (l : Launch) (Z : State) (a0 : Array Value) (hw : ∀ d ∈ tables_1, d.before a0 Z = true) (a b d : Addr) (cap : Nat) (cs : List Int32) (cz : Int32) (h0 : Heap) (C0 : Sta Z Z.heap "java/lang/String" "COMPACT_STRINGS" "Z" (.int cz)) (hcz : ¬ cz = 0) (gz : Z.heap.size ≤ a) (E0 : Exa Z h0 a "java/lang/String") (F0 : Fld Z h0 a "java/lang/String" "value" "[B" .null) (F1 : Fld Z h0 a "java/lang/String" "coder" "B" (.int (0 : Int32))) (H0 : Bld Z h0 b d cap cs) :
    W.Ct wd Z a0 el l (⟨"java/lang/String", "<init>", "(Ljava/lang/AbstractStringBuilder;Ljava/lang/Void;)V"⟩ : MethodName) jdk_42_method_150_code 5 none ({ frames := 3, cells := 1, slots := 34, locals := 49 } : Room) #[(.ref a), (.ref b), .null] h0 [a] (fun v h S => v = none ∧ Keep h0 h [a] ∧ ∃ e, h0.size ≤ e ∧ Str Z h a e cs) := by
  refine W.Ct.walk hwe (plainFor_of_name pn_java_lang_String) ?_
  intro p e s m below meth c T hE0 X
  refine W.castG (show entryFrame m #[(.ref a), (.ref b), .null] 5 = mkF m 0 #[.val (.ref a), .val (.ref b), .val .null, .unset, .unset] [] from by first | (simp [entryFrame, mkF, argsToLocals, Value.category]; done) | rfl) ?_
  obtain ⟨E1, G1, G0, G2, ⟨kd, A0⟩, D0, zd, zb, hcap, hle, hlat⟩ := H0
  refine W.o_aloadN X (pc' := 1) d_jdk_42_method_150_0 rfl rfl rfl ?_
  refine W.o_initO X (pc' := 4) d_jdk_42_method_150_1 rfl (hw _ (List.mem_of_getElem? (i := 15) rfl)) (hw _ (List.mem_of_getElem? (i := 16) rfl)) (hw _ (List.mem_of_getElem? (i := 17) rfl)) rfl (by decide) (by decide) (fun T X => ?_)
  refine W.o_aloadN X (pc' := 5) d_jdk_42_method_150_4 rfl rfl rfl ?_
  refine W.o_virtual X (pc' := 8) d_jdk_42_method_150_5 rfl (u := (⟨"java/lang/AbstractStringBuilder", "getValue", "()[B"⟩ : MethodName)) (z := (⟨"java/lang/AbstractStringBuilder", "getValue", "()[B"⟩ : MethodName)) (hw _ (List.mem_of_getElem? (i := 130) rfl)) (hw _ (List.mem_of_getElem? (i := 131) rfl)) (fun s' hZ => notFace_of_selects (args := #[]) (mvT hZ (hw _ (List.mem_of_getElem? (i := 133) rfl)))) (hw _ (List.mem_of_getElem? (i := 133) rfl)) (hw _ (List.mem_of_getElem? (i := 132) rfl)) (hw _ (List.mem_of_getElem? (i := 59) rfl)) (hw _ (List.mem_of_getElem? (i := 134) rfl)) (by decide) E1 (ctGV l Z a0 hw b d h0 G0) (fun _ q => nomatch q) [] rfl (rest := []) rfl pd____B rfl rfl (by decide) (by exact Nat.le_of_ble_eq_true rfl) (by decide) (by decide) (fun v215 T q216 => ?_)
  obtain ⟨h219, S217, ⟨rfl, eh⟩, X218⟩ := q216
  have eh := eh.symm
  subst eh
  have X := X218 [] all0
  show W.Go _ _ _ _ _ _ _ _ _ _ _ (mkF m 8 #[.val (.ref a), .val (.ref b), .val .null, .unset, .unset] [(.ref d)])
  refine W.o_astoreN X (pc' := 9) d_jdk_42_method_150_8 rfl (L' := #[.val (.ref a), .val (.ref b), .val .null, .val (.ref d), .unset]) rfl rfl ?_
  refine W.o_aloadN X (pc' := 10) d_jdk_42_method_150_9 rfl rfl rfl ?_
  refine W.o_virtual X (pc' := 13) d_jdk_42_method_150_10 rfl (u := (⟨"java/lang/AbstractStringBuilder", "length", "()I"⟩ : MethodName)) (z := (⟨"java/lang/StringBuilder", "length", "()I"⟩ : MethodName)) (hw _ (List.mem_of_getElem? (i := 135) rfl)) (hw _ (List.mem_of_getElem? (i := 136) rfl)) (fun s' hZ => notFaceOf (mvT (args := #[]) hZ (hw _ (List.mem_of_getElem? (i := 133) rfl))) rfl) (hw _ (List.mem_of_getElem? (i := 138) rfl)) (hw _ (List.mem_of_getElem? (i := 139) rfl)) (hw _ (List.mem_of_getElem? (i := 51) rfl)) (hw _ (List.mem_of_getElem? (i := 140) rfl)) (by decide) E1 (ctBL l Z a0 hw b (Int32.ofNat cs.length) h0 E1 G2) (fun _ q => nomatch q) [] rfl (rest := []) rfl pd___I rfl rfl (by decide) (by exact Nat.le_of_ble_eq_true rfl) (by decide) (by decide) (fun v220 T q221 => ?_)
  obtain ⟨h224, S222, ⟨rfl, eh⟩, X223⟩ := q221
  have eh := eh.symm
  subst eh
  have X := X223 [] all0
  show W.Go _ _ _ _ _ _ _ _ _ _ _ (mkF m 13 #[.val (.ref a), .val (.ref b), .val .null, .val (.ref d), .unset] [(.int (Int32.ofNat cs.length))])
  refine W.o_istore X (pc' := 15) d_jdk_42_method_150_13 rfl (L' := #[.val (.ref a), .val (.ref b), .val .null, .val (.ref d), .val (.int (Int32.ofNat cs.length))]) rfl ?_
  refine W.o_aloadN X (pc' := 16) d_jdk_42_method_150_15 rfl rfl rfl ?_
  refine W.o_virtual X (pc' := 19) d_jdk_42_method_150_16 rfl (u := (⟨"java/lang/AbstractStringBuilder", "isLatin1", "()Z"⟩ : MethodName)) (z := (⟨"java/lang/AbstractStringBuilder", "isLatin1", "()Z"⟩ : MethodName)) (hw _ (List.mem_of_getElem? (i := 143) rfl)) (hw _ (List.mem_of_getElem? (i := 144) rfl)) (fun s' hZ => notFace_of_selects (args := #[]) (mvT hZ (hw _ (List.mem_of_getElem? (i := 146) rfl)))) (hw _ (List.mem_of_getElem? (i := 146) rfl)) (hw _ (List.mem_of_getElem? (i := 145) rfl)) (hw _ (List.mem_of_getElem? (i := 59) rfl)) (hw _ (List.mem_of_getElem? (i := 147) rfl)) (by decide) E1 (ctAL1 l Z a0 hw b cz h0 C0 hcz G1) (fun _ q => nomatch q) [] rfl (rest := []) rfl pd___Z rfl rfl (by decide) (by exact Nat.le_of_ble_eq_true rfl) (by decide) (by decide) (fun v225 T q226 => ?_)
  obtain ⟨h229, S227, ⟨rfl, eh⟩, X228⟩ := q226
  have eh := eh.symm
  subst eh
  have X := X228 [] all0
  show W.Go _ _ _ _ _ _ _ _ _ _ _ (mkF m 19 #[.val (.ref a), .val (.ref b), .val .null, .val (.ref d), .val (.int (Int32.ofNat cs.length))] [(.int (1 : Int32))])
  refine W.o_ifeq X (pt := 41) (pf := 22) d_jdk_42_method_150_19 ⟨by decide, by decide⟩ rfl (fun hc => absurd hc (by decide)) (fun _ => ?_)
  refine W.o_aloadN X (pc' := 23) d_jdk_42_method_150_22 rfl rfl rfl ?_
  refine W.o_iconst X (0 : Int32) (pc' := 24) d_jdk_42_method_150_23 rfl rfl ?_
  refine W.o_putfieldN X (pc' := 27) d_jdk_42_method_150_24 rfl (hw _ (List.mem_of_getElem? (i := 25) rfl)) Via.refl F1 E0 (Or.inr ⟨(hw _ (List.mem_of_getElem? (i := 21) rfl)), rfl, rfl⟩) (hw _ (List.mem_of_getElem? (i := 6) rfl)) (ty := .byte) (v' := (.int (0 : Int32))) (by decide) rfl rfl gz (Or.inr (Or.inl (by simp))) (fun T h230 w231 X => ?_)
  have f232 := F1.same w231
  refine W.o_aloadN X (pc' := 28) d_jdk_42_method_150_27 rfl rfl rfl ?_
  refine W.o_aloadN X (pc' := 29) d_jdk_42_method_150_28 rfl rfl rfl ?_
  refine W.o_iconst X (0 : Int32) (pc' := 30) d_jdk_42_method_150_29 rfl rfl ?_
  refine W.o_iload X (pc' := 32) d_jdk_42_method_150_30 rfl rfl ?_
  have f233 := (D0.wr w231)
  have f234 := (A0.other w231 (ne_exa f233 (E0.wr w231) (by decide)))
  refine W.o_static X (pc' := 35) d_jdk_42_method_150_32 rfl (z := (⟨"java/util/Arrays", "copyOfRange", "([BII)[B"⟩ : MethodName)) (hw _ (List.mem_of_getElem? (i := 148) rfl)) (hw _ (List.mem_of_getElem? (i := 149) rfl)) (hw _ (List.mem_of_getElem? (i := 150) rfl)) (hw _ (List.mem_of_getElem? (i := 151) rfl)) (by decide) (ctCR l Z a0 hw d kd cap cs h230 f233 hcap hle f234) (fun _ q => nomatch q) [(.ref d), (.int (0 : Int32)), (.int (Int32.ofNat cs.length))] rfl (rest := [(.ref a)]) rfl pd___BII__B rfl rfl (by decide) (by exact Nat.le_of_ble_eq_true rfl) (by decide) (by decide) (fun v235 T q236 => ?_)
  obtain ⟨h239, S237, ⟨e, rfl, K1, ge, ke, B1⟩, X238⟩ := q236
  have X := X238 [] all0
  show W.Go _ _ _ _ _ _ _ _ _ _ _ (mkF m 35 #[.val (.ref a), .val (.ref b), .val .null, .val (.ref d), .val (.int (Int32.ofNat cs.length))] [(.ref e), (.ref a)])
  have f240 := ((E0.wr w231).keep K1)
  have f241 := ((F0.other w231 (Or.inr (slot_ne (Or.inr (hw _ (List.mem_of_getElem? (i := 20) rfl))) (Or.inr (hw _ (List.mem_of_getElem? (i := 21) rfl))) (by decide) (t := (.array .byte)) (t' := .byte) (by decide) (by decide)))).keep K1 nin0)
  refine W.o_putfield X (pc' := 38) d_jdk_42_method_150_35 rfl (hw _ (List.mem_of_getElem? (i := 24) rfl)) Via.refl f241 f240 (Or.inr ⟨(hw _ (List.mem_of_getElem? (i := 20) rfl)), rfl, rfl⟩) (hw _ (List.mem_of_getElem? (i := 6) rfl)) (ty := (.array .byte)) (by decide) rfl rfl gz (Or.inr (Or.inl (by simp))) (fun T h242 w243 X => ?_)
  have f244 := f241.same w243
  refine W.o_goto X (pc' := 97) d_jdk_42_method_150_38 ⟨by decide, by decide⟩ ?_
  have f245 := (f240.wr w243)
  have f246 := ((f232.keep K1 nin0).other w243 (Or.inr (slot_ne (Or.inr (hw _ (List.mem_of_getElem? (i := 21) rfl))) (Or.inr (hw _ (List.mem_of_getElem? (i := 20) rfl))) (by decide) (t := .byte) (t' := (.array .byte)) (by decide) (by decide))))
  have f247 := (B1.other w243 (Ne.symm (Nat.ne_of_lt (Nat.lt_of_lt_of_le f232.lt ge))))
  exact W.o_return X d_jdk_42_method_150_97 (by decide) (by decide) fun P hP => ⟨rfl, ((((Keep.refl h0 [a]).wr w231 (Or.inl (List.mem_of_getElem? (i := 0) rfl))).trans K1 all0).wr w243 (Or.inl (List.mem_of_getElem? (i := 0) rfl))), e, (Nat.le_trans (Nat.le_trans (Nat.le_refl _) (Nat.le_of_eq w231.size.symm)) ge), f245, f246, f244, ⟨ke, f247⟩, by omega, hlat⟩
set_option maxRecDepth 65536 in
set_option maxHeartbeats 40000000 in
theorem ctS1 (l : Launch) (Z : State) (a0 : Array Value) (hw : ∀ d ∈ tables_1, d.before a0 Z = true) (a b d : Addr) (cap : Nat) (cs : List Int32) (cz : Int32) (h0 : Heap) (C0 : Sta Z Z.heap "java/lang/String" "COMPACT_STRINGS" "Z" (.int cz)) (hcz : ¬ cz = 0) (gz : Z.heap.size ≤ a) (E0 : Exa Z h0 a "java/lang/String") (F0 : Fld Z h0 a "java/lang/String" "value" "[B" .null) (F1 : Fld Z h0 a "java/lang/String" "coder" "B" (.int (0 : Int32))) (H0 : Bld Z h0 b d cap cs) :
    W.Ct wd Z a0 el l (⟨"java/lang/String", "<init>", "(Ljava/lang/StringBuilder;)V"⟩ : MethodName) jdk_42_method_53_code 2 none ({ frames := 4, cells := 1, slots := 34, locals := 65 } : Room) #[(.ref a), (.ref b)] h0 [a] (fun v h S => v = none ∧ Keep h0 h [a] ∧ ∃ e, h0.size ≤ e ∧ Str Z h a e cs) := by
  refine W.Ct.walk hwe (plainFor_of_name pn_java_lang_String) ?_
  intro p e s m below meth c T hE0 X
  refine W.castG (show entryFrame m #[(.ref a), (.ref b)] 2 = mkF m 0 #[.val (.ref a), .val (.ref b)] [] from by first | (simp [entryFrame, mkF, argsToLocals, Value.category]; done) | rfl) ?_
  refine W.o_aloadN X (pc' := 1) d_jdk_42_method_53_0 rfl rfl rfl ?_
  refine W.o_aloadN X (pc' := 2) d_jdk_42_method_53_1 rfl rfl rfl ?_
  refine W.o_aconst_null X (pc' := 3) d_jdk_42_method_53_2 rfl ?_
  refine W.o_special X (pc' := 6) d_jdk_42_method_53_3 rfl (z := (⟨"java/lang/String", "<init>", "(Ljava/lang/AbstractStringBuilder;Ljava/lang/Void;)V"⟩ : MethodName)) rfl (hw _ (List.mem_of_getElem? (i := 127) rfl)) (hw _ (List.mem_of_getElem? (i := 128) rfl)) (hw _ (List.mem_of_getElem? (i := 7) rfl)) (hw _ (List.mem_of_getElem? (i := 129) rfl)) (by decide) (ctSI l Z a0 hw a b d cap cs cz h0 C0 hcz gz E0 F0 F1 H0) (allS ⟨E0.lt, (Or.inr (Or.inl (by simp)))⟩ all0) [(.ref b), .null] rfl (rest := []) rfl pd__Ljava_lang_AbstractStringBuilder_Ljava_lang_Void__V rfl rfl (by decide) (by exact Nat.le_of_ble_eq_true rfl) (by decide) (by decide) (fun v248 T q249 => ?_)
  obtain ⟨h252, S250, ⟨rfl, K1, e, ge, R1⟩, X251⟩ := q249
  have X := X251 [] all0
  show W.Go _ _ _ _ _ _ _ _ _ _ _ (mkF m 6 #[.val (.ref a), .val (.ref b)] [])
  exact W.o_return X d_jdk_42_method_53_6 (by decide) (by decide) fun P hP => ⟨rfl, K1, e, ge, R1⟩
set_option maxRecDepth 65536 in
set_option maxHeartbeats 40000000 in
theorem ctTS (l : Launch) (Z : State) (a0 : Array Value) (hw : ∀ d ∈ tables_1, d.before a0 Z = true) (b d : Addr) (cap : Nat) (cs : List Int32) (cz : Int32) (h0 : Heap) (C0 : Sta Z Z.heap "java/lang/String" "COMPACT_STRINGS" "Z" (.int cz)) (hcz : ¬ cz = 0) (H0 : Bld Z h0 b d cap cs) :
    W.Ct wd Z a0 el l (⟨"java/lang/StringBuilder", "toString", "()Ljava/lang/String;"⟩ : MethodName) jdk_67_method_42_code 1 (some (.object "java/lang/String")) ({ frames := 5, cells := 2, slots := 38, locals := 79 } : Room) #[(.ref b)] h0 [] (fun v h S => ∃ a e, v = some (.ref a) ∧ Keep h0 h [] ∧ h0.size ≤ a ∧ Str Z h a e cs) := by
  refine W.Ct.walk hwe (plainFor_of_name pn_java_lang_StringBuilder) ?_
  intro p e s m below meth c T hE0 X
  refine W.castG (show entryFrame m #[(.ref b)] 1 = mkF m 0 #[.val (.ref b)] [] from by first | (simp [entryFrame, mkF, argsToLocals, Value.category]; done) | rfl) ?_
  refine W.o_new X (pc' := 3) d_jdk_67_method_42_0 rfl (hw _ (List.mem_of_getElem? (i := 123) rfl)) (hw _ (List.mem_of_getElem? (i := 6) rfl)) (hw _ (List.mem_of_getElem? (i := 7) rfl)) (by decide) (by decide) (fun T h253 b254 g255 z256 e257 a258 D259 X => ?_)
  have f260 : Fld Z h253 b254 "java/lang/String" "value" "[B" .null := D259 (Or.inr (hw _ (List.mem_of_getElem? (i := 20) rfl))) (ty := (.array .byte)) (by decide)
  have f261 : Fld Z h253 b254 "java/lang/String" "coder" "B" (.int (0 : Int32)) := D259 (Or.inr (hw _ (List.mem_of_getElem? (i := 21) rfl))) (ty := .byte) (by decide)
  refine W.o_dup X (pc' := 4) d_jdk_67_method_42_3 rfl rfl ?_
  refine W.o_aloadN X (pc' := 5) d_jdk_67_method_42_4 rfl rfl rfl ?_
  have f262 := (H0.ext e257)
  refine W.o_special X (pc' := 8) d_jdk_67_method_42_5 rfl (z := (⟨"java/lang/String", "<init>", "(Ljava/lang/StringBuilder;)V"⟩ : MethodName)) rfl (hw _ (List.mem_of_getElem? (i := 124) rfl)) (hw _ (List.mem_of_getElem? (i := 125) rfl)) (hw _ (List.mem_of_getElem? (i := 7) rfl)) (hw _ (List.mem_of_getElem? (i := 126) rfl)) (by decide) (ctS1 l Z a0 hw b254 b d cap cs cz h253 C0 hcz z256 a258 f260 f261 f262) (allS ⟨a258.lt, (Or.inr (Or.inl (by simp)))⟩ all0) [(.ref b)] rfl (rest := [(.ref b254)]) rfl pd__Ljava_lang_StringBuilder__V rfl rfl (by decide) (by exact Nat.le_of_ble_eq_true rfl) (by decide) (by decide) (fun v263 T q264 => ?_)
  obtain ⟨h267, S265, ⟨rfl, K1, e, ge, R1⟩, X266⟩ := q264
  have X := X266 [] all0
  show W.Go _ _ _ _ _ _ _ _ _ _ _ (mkF m 8 #[.val (.ref b)] [(.ref b254)])
  exact W.o_areturn X d_jdk_67_method_42_8 rfl rfl rfl (by decide) (by decide) fun P hP => ⟨b254, e, rfl, (((Keep.refl h0 []).ext e257).trans K1 (allS (Or.inr (Nat.le_trans (Nat.le_refl _) (Nat.le_of_eq g255.symm))) all0)), (Nat.le_trans (Nat.le_refl _) (Nat.le_of_eq g255.symm)), R1⟩
set_option maxRecDepth 65536 in
set_option maxHeartbeats 40000000 in
theorem ctRec (l : Launch) (Z : State) (a0 : Array Value) (hw : ∀ d ∈ tables_1, d.before a0 Z = true) (a : Addr) (h0 : Heap)  :
    W.Ct wd Z a0 el l (⟨"java/lang/Record", "<init>", "()V"⟩ : MethodName) jdk_30_method_1_code 1 none ({ frames := 1, cells := 0, slots := 0, locals := 12 } : Room) #[(.ref a)] h0 [] (fun v h S => v = none ∧ h = h0) := by
  refine W.Ct.walk hwe (plainFor_of_name pn_java_lang_Record) ?_
  intro p e s m below meth c T hE0 X
  refine W.castG (show entryFrame m #[(.ref a)] 1 = mkF m 0 #[.val (.ref a)] [] from by first | (simp [entryFrame, mkF, argsToLocals, Value.category]; done) | rfl) ?_
  refine W.o_aloadN X (pc' := 1) d_jdk_30_method_1_0 rfl rfl rfl ?_
  refine W.o_initO X (pc' := 4) d_jdk_30_method_1_1 rfl (hw _ (List.mem_of_getElem? (i := 37) rfl)) (hw _ (List.mem_of_getElem? (i := 16) rfl)) (hw _ (List.mem_of_getElem? (i := 17) rfl)) rfl (by decide) (by decide) (fun T X => ?_)
  exact W.o_return X d_jdk_30_method_1_4 (by decide) (by decide) fun P hP => ⟨rfl, rfl⟩
set_option maxRecDepth 65536 in
set_option maxHeartbeats 40000000 in
theorem ctVI (l : Launch) (Z : State) (a0 : Array Value) (hw : ∀ d ∈ tables_1, d.before a0 Z = true) (a s0 s1 s2 : Addr) (h0 : Heap) (gz : Z.heap.size ≤ a) (E0 : Exa Z h0 a "com/example/kindling/kindling/Environment$Value") (F0 : Fld Z h0 a "com/example/kindling/kindling/Environment$Value" "key" "Ljava/lang/String;" .null) (F1 : Fld Z h0 a "com/example/kindling/kindling/Environment$Value" "text" "Ljava/lang/String;" .null) (F2 : Fld Z h0 a "com/example/kindling/kindling/Environment$Value" "origin" "Ljava/lang/String;" .null) :
    W.Ct wd Z a0 el l (⟨"com/example/kindling/kindling/Environment$Value", "<init>", "(Ljava/lang/String;Ljava/lang/String;Ljava/lang/String;)V"⟩ : MethodName) prog_9_method_1_code 4 none ({ frames := 2, cells := 0, slots := 0, locals := 24 } : Room) #[(.ref a), (.ref s0), (.ref s1), (.ref s2)] h0 [] (fun v h S => v = none ∧ Keep h0 h [a] ∧ Exa Z h a "com/example/kindling/kindling/Environment$Value" ∧ Fld Z h a "com/example/kindling/kindling/Environment$Value" "key" "Ljava/lang/String;" (.ref s0) ∧ Fld Z h a "com/example/kindling/kindling/Environment$Value" "text" "Ljava/lang/String;" (.ref s1) ∧ Fld Z h a "com/example/kindling/kindling/Environment$Value" "origin" "Ljava/lang/String;" (.ref s2)) := by
  refine W.Ct.walk hwe (plainFor_of_name pn_com_example_kindling_kindling_Environment_Value) ?_
  intro p e s m below meth c T hE0 X
  refine W.castG (show entryFrame m #[(.ref a), (.ref s0), (.ref s1), (.ref s2)] 4 = mkF m 0 #[.val (.ref a), .val (.ref s0), .val (.ref s1), .val (.ref s2)] [] from by first | (simp [entryFrame, mkF, argsToLocals, Value.category]; done) | rfl) ?_
  refine W.o_aloadN X (pc' := 1) d_prog_9_method_1_0 rfl rfl rfl ?_
  refine W.o_special X (pc' := 4) d_prog_9_method_1_1 rfl (z := (⟨"java/lang/Record", "<init>", "()V"⟩ : MethodName)) rfl (hw _ (List.mem_of_getElem? (i := 32) rfl)) (hw _ (List.mem_of_getElem? (i := 33) rfl)) (hw _ (List.mem_of_getElem? (i := 35) rfl)) (hw _ (List.mem_of_getElem? (i := 36) rfl)) (by decide) (ctRec l Z a0 hw a h0) (fun _ q => nomatch q) [] rfl (rest := []) rfl pd___V rfl rfl (by decide) (by exact Nat.le_of_ble_eq_true rfl) (by decide) (by decide) (fun v268 T q269 => ?_)
  obtain ⟨h272, S270, ⟨rfl, eh⟩, X271⟩ := q269
  have eh := eh.symm
  subst eh
  have X := X271 [] all0
  show W.Go _ _ _ _ _ _ _ _ _ _ _ (mkF m 4 #[.val (.ref a), .val (.ref s0), .val (.ref s1), .val (.ref s2)] [])
  refine W.o_aloadN X (pc' := 5) d_prog_9_method_1_4 rfl rfl rfl ?_
  refine W.o_aloadN X (pc' := 6) d_prog_9_method_1_5 rfl rfl rfl ?_
  refine W.o_putfield X (pc' := 9) d_prog_9_method_1_6 rfl (hw _ (List.mem_of_getElem? (i := 38) rfl)) Via.refl F0 E0 (Or.inr ⟨(hw _ (List.mem_of_getElem? (i := 39) rfl)), rfl, rfl⟩) (hw _ (List.mem_of_getElem? (i := 27) rfl)) (ty := (.object "java/lang/String")) (by decide) rfl rfl gz (Or.inr (Or.inr (Or.inl ⟨_, E0, by decide, by decide⟩))) (fun T h273 w274 X => ?_)
  have f275 := F0.same w274
  refine W.o_aloadN X (pc' := 10) d_prog_9_method_1_9 rfl rfl rfl ?_
  refine W.o_aloadN X (pc' := 11) d_prog_9_method_1_10 rfl rfl rfl ?_
  have f276 := (E0.wr w274)
  have f277 := (F1.other w274 (Or.inr (slot_ne (Or.inr (hw _ (List.mem_of_getElem? (i := 41) rfl))) (Or.inr (hw _ (List.mem_of_getElem? (i := 39) rfl))) (by decide) (t := (.object "java/lang/String")) (t' := (.object "java/lang/String")) (by decide) (by decide))))
  refine W.o_putfield X (pc' := 14) d_prog_9_method_1_11 rfl (hw _ (List.mem_of_getElem? (i := 40) rfl)) Via.refl f277 f276 (Or.inr ⟨(hw _ (List.mem_of_getElem? (i := 41) rfl)), rfl, rfl⟩) (hw _ (List.mem_of_getElem? (i := 27) rfl)) (ty := (.object "java/lang/String")) (by decide) rfl rfl gz (Or.inr (Or.inr (Or.inl ⟨_, f276, by decide, by decide⟩))) (fun T h278 w279 X => ?_)
  have f280 := f277.same w279
  refine W.o_aloadN X (pc' := 15) d_prog_9_method_1_14 rfl rfl rfl ?_
  refine W.o_aloadN X (pc' := 16) d_prog_9_method_1_15 rfl rfl rfl ?_
  have f281 := (f276.wr w279)
  have f282 := ((F2.other w274 (Or.inr (slot_ne (Or.inr (hw _ (List.mem_of_getElem? (i := 43) rfl))) (Or.inr (hw _ (List.mem_of_getElem? (i := 39) rfl))) (by decide) (t := (.object "java/lang/String")) (t' := (.object "java/lang/String")) (by decide) (by decide)))).other w279 (Or.inr (slot_ne (Or.inr (hw _ (List.mem_of_getElem? (i := 43) rfl))) (Or.inr (hw _ (List.mem_of_getElem? (i := 41) rfl))) (by decide) (t := (.object "java/lang/String")) (t' := (.object "java/lang/String")) (by decide) (by decide))))
  refine W.o_putfield X (pc' := 19) d_prog_9_method_1_16 rfl (hw _ (List.mem_of_getElem? (i := 42) rfl)) Via.refl f282 f281 (Or.inr ⟨(hw _ (List.mem_of_getElem? (i := 43) rfl)), rfl, rfl⟩) (hw _ (List.mem_of_getElem? (i := 27) rfl)) (ty := (.object "java/lang/String")) (by decide) rfl rfl gz (Or.inr (Or.inr (Or.inl ⟨_, f281, by decide, by decide⟩))) (fun T h283 w284 X => ?_)
  have f285 := f282.same w284
  have f286 := (f281.wr w284)
  have f287 := ((f275.other w279 (Or.inr (slot_ne (Or.inr (hw _ (List.mem_of_getElem? (i := 39) rfl))) (Or.inr (hw _ (List.mem_of_getElem? (i := 41) rfl))) (by decide) (t := (.object "java/lang/String")) (t' := (.object "java/lang/String")) (by decide) (by decide)))).other w284 (Or.inr (slot_ne (Or.inr (hw _ (List.mem_of_getElem? (i := 39) rfl))) (Or.inr (hw _ (List.mem_of_getElem? (i := 43) rfl))) (by decide) (t := (.object "java/lang/String")) (t' := (.object "java/lang/String")) (by decide) (by decide))))
  have f288 := (f280.other w284 (Or.inr (slot_ne (Or.inr (hw _ (List.mem_of_getElem? (i := 41) rfl))) (Or.inr (hw _ (List.mem_of_getElem? (i := 43) rfl))) (by decide) (t := (.object "java/lang/String")) (t' := (.object "java/lang/String")) (by decide) (by decide))))
  exact W.o_return X d_prog_9_method_1_19 (by decide) (by decide) fun P hP => ⟨rfl, ((((Keep.refl h0 [a]).wr w274 (Or.inl (List.mem_of_getElem? (i := 0) rfl))).wr w279 (Or.inl (List.mem_of_getElem? (i := 0) rfl))).wr w284 (Or.inl (List.mem_of_getElem? (i := 0) rfl))), f286, f287, f288, f285⟩
set_option maxRecDepth 65536 in
set_option maxHeartbeats 40000000 in
theorem ctDes (l : Launch) (Z : State) (a0 : Array Value) (hw : ∀ d ∈ tables_1, d.before a0 Z = true) (v s0 s1 s2 t0 t1 t2 : Addr) (cs0 cs1 cs2 : List Int32) (cz : Int32) (h0 : Heap) (C0 : Sta Z Z.heap "java/lang/String" "COMPACT_STRINGS" "Z" (.int cz)) (hcz : ¬ cz = 0) (EV : Exa Z h0 v "com/example/kindling/kindling/Environment$Value") (F0 : Fld Z h0 v "com/example/kindling/kindling/Environment$Value" "key" "Ljava/lang/String;" (.ref s0)) (G0 : Str Z h0 s0 t0 cs0) (n0 : cs0.length ≤ 3) (F1 : Fld Z h0 v "com/example/kindling/kindling/Environment$Value" "text" "Ljava/lang/String;" (.ref s1)) (G1 : Str Z h0 s1 t1 cs1) (n1 : cs1.length ≤ 3) (F2 : Fld Z h0 v "com/example/kindling/kindling/Environment$Value" "origin" "Ljava/lang/String;" (.ref s2)) (G2 : Str Z h0 s2 t2 cs2) (n2 : cs2.length ≤ 3) :
    W.Ct wd Z a0 el l (⟨"com/example/kindling/kindling/Environment$Value", "described", "()Ljava/lang/String;"⟩ : MethodName) prog_9_method_2_code 1 (some (.object "java/lang/String")) ({ frames := 6, cells := 16, slots := 330, locals := 91 } : Room) #[(.ref v)] h0 [] (fun v h S => ∃ r tr, v = some (.ref r) ∧ Keep h0 h [] ∧ h0.size ≤ r ∧ Str Z h r tr (((((cs0 ++ [32, 105, 115, 32, 34]) ++ cs1) ++ [34, 32, 40, 102, 114, 111, 109, 32]) ++ cs2) ++ [41])) := by
  refine W.Ct.walk hwe (plainFor_of_name pn_com_example_kindling_kindling_Environment_Value) ?_
  intro p e s m below meth c T hE0 X
  refine W.castG (show entryFrame m #[(.ref v)] 1 = mkF m 0 #[.val (.ref v)] [] from by first | (simp [entryFrame, mkF, argsToLocals, Value.category]; done) | rfl) ?_
  have hwS : ∀ a ∈ Bundle.stringAtoms, a.before a0 Z = true := fun a ha => hw a (hwS0 a ha)
  refine W.o_new X (pc' := 3) d_prog_9_method_2_0 rfl (hw _ (List.mem_of_getElem? (i := 49) rfl)) (hw _ (List.mem_of_getElem? (i := 50) rfl)) (hw _ (List.mem_of_getElem? (i := 51) rfl)) (by decide) (by decide) (fun T h289 b290 g291 z292 e293 a294 D295 X => ?_)
  have f296 : Fld Z h289 b290 "java/lang/AbstractStringBuilder" "value" "[B" .null := D295 (Or.inl (hw _ (List.mem_of_getElem? (i := 64) rfl))) (ty := (.array .byte)) (by decide)
  have f297 : Fld Z h289 b290 "java/lang/AbstractStringBuilder" "coder" "B" (.int (0 : Int32)) := D295 (Or.inl (hw _ (List.mem_of_getElem? (i := 66) rfl))) (ty := .byte) (by decide)
  have f298 : Fld Z h289 b290 "java/lang/AbstractStringBuilder" "count" "I" (.int (0 : Int32)) := D295 (Or.inl (hw _ (List.mem_of_getElem? (i := 89) rfl))) (ty := .int) (by decide)
  refine W.o_dup X (pc' := 4) d_prog_9_method_2_3 rfl rfl ?_
  refine W.o_special X (pc' := 7) d_prog_9_method_2_4 rfl (z := (⟨"java/lang/StringBuilder", "<init>", "()V"⟩ : MethodName)) rfl (hw _ (List.mem_of_getElem? (i := 52) rfl)) (hw _ (List.mem_of_getElem? (i := 53) rfl)) (hw _ (List.mem_of_getElem? (i := 51) rfl)) (hw _ (List.mem_of_getElem? (i := 54) rfl)) (by decide) (ctSB l Z a0 hw b290 cz h289 C0 hcz z292 a294 f296 f297 f298) (fun _ q => nomatch q) [] rfl (rest := [(.ref b290)]) rfl pd___V rfl rfl (by decide) (by exact Nat.le_of_ble_eq_true rfl) (by decide) (by decide) (fun v299 T q300 => ?_)
  obtain ⟨h303, S301, ⟨rfl, KB, d0, gd0, B0, sd0⟩, X302⟩ := q300
  have X := X302 [d0] (allS ⟨B0.lt', sd0⟩ all0)
  show W.Go _ _ _ _ _ _ _ _ _ _ _ (mkF m 7 #[.val (.ref v)] [(.ref b290)])
  have gd0' : h0.size ≤ d0 := (Nat.le_trans (Nat.le_trans (Nat.le_refl _) e293.1) gd0)
  refine W.o_aloadN X (pc' := 8) d_prog_9_method_2_7 rfl rfl rfl ?_
  have f304 := ((F0.ext e293).keep KB (ninS (Nat.ne_of_lt (Nat.lt_of_lt_of_le F0.lt (Nat.le_of_eq g291.symm))) nin0))
  refine W.o_getfield X (pc' := 11) d_prog_9_method_2_8 rfl (hw _ (List.mem_of_getElem? (i := 38) rfl)) Via.refl f304 (fun T X => ?_)
  have f305 := ((G0.ext e293).keep KB (ninS (Nat.ne_of_lt (Nat.lt_of_lt_of_le G0.lt (Nat.le_of_eq g291.symm))) nin0) (ninS (Nat.ne_of_lt (Nat.lt_of_lt_of_le G0.lt' (Nat.le_of_eq g291.symm))) nin0))
  have f308 := (a294.keep KB)
  refine W.o_virtual X (pc' := 14) d_prog_9_method_2_11 rfl (u := (⟨"java/lang/StringBuilder", "append", "(Ljava/lang/String;)Ljava/lang/StringBuilder;"⟩ : MethodName)) (z := (⟨"java/lang/StringBuilder", "append", "(Ljava/lang/String;)Ljava/lang/StringBuilder;"⟩ : MethodName)) (hw _ (List.mem_of_getElem? (i := 67) rfl)) (hw _ (List.mem_of_getElem? (i := 68) rfl)) (fun s' hZ => notFace_of_selects (args := #[]) (mvT hZ (hw _ (List.mem_of_getElem? (i := 70) rfl)))) (hw _ (List.mem_of_getElem? (i := 70) rfl)) (hw _ (List.mem_of_getElem? (i := 69) rfl)) (hw _ (List.mem_of_getElem? (i := 51) rfl)) (hw _ (List.mem_of_getElem? (i := 71) rfl)) (by decide) f308 (ctAppS l Z a0 hw b290 d0 s0 t0 16 [] cs0 cz h303 C0 hcz (by simp only [List.length_append, List.length_cons, List.length_nil]; omega) (Nat.ne_of_lt (Nat.lt_of_lt_of_le (G0.ext e293).lt' gd0)) B0 f305) (allS ⟨B0.lt', (Or.inr (Or.inl (by simp)))⟩ all0) [(.ref s0)] rfl (rest := []) rfl pd__Ljava_lang_String__Ljava_lang_StringBuilder_ rfl rfl (by decide) (by exact Nat.le_of_ble_eq_true rfl) (by decide) (by decide) (fun v306 T q307 => ?_)
  obtain ⟨h311, S309, ⟨rfl, KA1, d1, cap1, hd1, B1, sd1⟩, X310⟩ := q307
  have X := X310 [d1] (allS ⟨B1.lt', sd1⟩ all0)
  have ne1s0 : s0 ≠ d1 := hd1.elim (fun q => q ▸ (Nat.ne_of_lt (Nat.lt_of_lt_of_le (G0.ext e293).lt gd0))) (fun q => Nat.ne_of_lt (Nat.lt_of_lt_of_le ((G0.ext e293).keep KB (ninS (Nat.ne_of_lt (Nat.lt_of_lt_of_le G0.lt (Nat.le_of_eq g291.symm))) nin0) (ninS (Nat.ne_of_lt (Nat.lt_of_lt_of_le G0.lt' (Nat.le_of_eq g291.symm))) nin0)).lt q))
  have ne1t0 : t0 ≠ d1 := hd1.elim (fun q => q ▸ (Nat.ne_of_lt (Nat.lt_of_lt_of_le (G0.ext e293).lt' gd0))) (fun q => Nat.ne_of_lt (Nat.lt_of_lt_of_le ((G0.ext e293).keep KB (ninS (Nat.ne_of_lt (Nat.lt_of_lt_of_le G0.lt (Nat.le_of_eq g291.symm))) nin0) (ninS (Nat.ne_of_lt (Nat.lt_of_lt_of_le G0.lt' (Nat.le_of_eq g291.symm))) nin0)).lt' q))
  have ne1s1 : s1 ≠ d1 := hd1.elim (fun q => q ▸ (Nat.ne_of_lt (Nat.lt_of_lt_of_le (G1.ext e293).lt gd0))) (fun q => Nat.ne_of_lt (Nat.lt_of_lt_of_le ((G1.ext e293).keep KB (ninS (Nat.ne_of_lt (Nat.lt_of_lt_of_le G1.lt (Nat.le_of_eq g291.symm))) nin0) (ninS (Nat.ne_of_lt (Nat.lt_of_lt_of_le G1.lt' (Nat.le_of_eq g291.symm))) nin0)).lt q))
  have ne1t1 : t1 ≠ d1 := hd1.elim (fun q => q ▸ (Nat.ne_of_lt (Nat.lt_of_lt_of_le (G1.ext e293).lt' gd0))) (fun q => Nat.ne_of_lt (Nat.lt_of_lt_of_le ((G1.ext e293).keep KB (ninS (Nat.ne_of_lt (Nat.lt_of_lt_of_le G1.lt (Nat.le_of_eq g291.symm))) nin0) (ninS (Nat.ne_of_lt (Nat.lt_of_lt_of_le G1.lt' (Nat.le_of_eq g291.symm))) nin0)).lt' q))
  have ne1s2 : s2 ≠ d1 := hd1.elim (fun q => q ▸ (Nat.ne_of_lt (Nat.lt_of_lt_of_le (G2.ext e293).lt gd0))) (fun q => Nat.ne_of_lt (Nat.lt_of_lt_of_le ((G2.ext e293).keep KB (ninS (Nat.ne_of_lt (Nat.lt_of_lt_of_le G2.lt (Nat.le_of_eq g291.symm))) nin0) (ninS (Nat.ne_of_lt (Nat.lt_of_lt_of_le G2.lt' (Nat.le_of_eq g291.symm))) nin0)).lt q))
  have ne1t2 : t2 ≠ d1 := hd1.elim (fun q => q ▸ (Nat.ne_of_lt (Nat.lt_of_lt_of_le (G2.ext e293).lt' gd0))) (fun q => Nat.ne_of_lt (Nat.lt_of_lt_of_le ((G2.ext e293).keep KB (ninS (Nat.ne_of_lt (Nat.lt_of_lt_of_le G2.lt (Nat.le_of_eq g291.symm))) nin0) (ninS (Nat.ne_of_lt (Nat.lt_of_lt_of_le G2.lt' (Nat.le_of_eq g291.symm))) nin0)).lt' q))
  have ne1v : v ≠ d1 := hd1.elim (fun q => q ▸ (Nat.ne_of_lt (Nat.lt_of_lt_of_le (F0.ext e293).lt gd0))) (fun q => Nat.ne_of_lt (Nat.lt_of_lt_of_le ((F0.ext e293).keep KB (ninS (Nat.ne_of_lt (Nat.lt_of_lt_of_le F0.lt (Nat.le_of_eq g291.symm))) nin0)).lt q))
  have gd1 : h0.size ≤ d1 := hd1.elim (fun q => q ▸ gd0') (fun q => Nat.le_trans (Nat.le_trans (Nat.le_trans (Nat.le_refl _) e293.1) KB.1) q)
  have gd1' := gd1
  show W.Go _ _ _ _ _ _ _ _ _ _ _ (mkF m 14 #[.val (.ref v)] [(.ref b290)])
  refine W.o_ldcT X rfl (pc' := 16) d_prog_9_method_2_14 rfl (hw _ (List.mem_of_getElem? (i := 115) rfl)) hwS (by decide) (vs := ([32, 105, 115, 32, 34] : List Int32).map lo) (z := 5) ⟨by decide, by decide⟩ (by decide) (by decide) (nn := 20) (by decide) (by decide) (by decide) (by decide) (fun T hl0 l0 u0 kl0 el0 El0 Cl0 Vl0 Bl0 nl0 X => ?_)
  have Gl0 : Str Z hl0 l0 u0 [32, 105, 115, 32, 34] := ⟨El0, Cl0, Vl0, ⟨kl0, Bl0⟩, by decide, by decide⟩
  have f312 := (B1.ext el0)
  have f315 := (B1.1.ext el0)
  refine W.o_virtual X (pc' := 19) d_prog_9_method_2_16 rfl (u := (⟨"java/lang/StringBuilder", "append", "(Ljava/lang/String;)Ljava/lang/StringBuilder;"⟩ : MethodName)) (z := (⟨"java/lang/StringBuilder", "append", "(Ljava/lang/String;)Ljava/lang/StringBuilder;"⟩ : MethodName)) (hw _ (List.mem_of_getElem? (i := 67) rfl)) (hw _ (List.mem_of_getElem? (i := 68) rfl)) (fun s' hZ => notFace_of_selects (args := #[]) (mvT hZ (hw _ (List.mem_of_getElem? (i := 70) rfl)))) (hw _ (List.mem_of_getElem? (i := 70) rfl)) (hw _ (List.mem_of_getElem? (i := 69) rfl)) (hw _ (List.mem_of_getElem? (i := 51) rfl)) (hw _ (List.mem_of_getElem? (i := 71) rfl)) (by decide) f315 (ctAppS l Z a0 hw b290 d1 l0 u0 cap1 cs0 [32, 105, 115, 32, 34] cz hl0 C0 hcz (by simp only [List.length_append, List.length_cons, List.length_nil]; omega) (Ne.symm (nl0 d1 (by simp)).2) f312 Gl0) (allS ⟨(B1.ext el0).lt', (Or.inr (Or.inl (by simp)))⟩ all0) [(.ref l0)] rfl (rest := []) rfl pd__Ljava_lang_String__Ljava_lang_StringBuilder_ rfl rfl (by decide) (by exact Nat.le_of_ble_eq_true rfl) (by decide) (by decide) (fun v313 T q314 => ?_)
  obtain ⟨h318, S316, ⟨rfl, KA2, d2, cap2, hd2, B2, sd2⟩, X317⟩ := q314
  have X := X317 [d2] (allS ⟨B2.lt', sd2⟩ all0)
  have ne2s0 : s0 ≠ d2 := hd2.elim (fun q => q ▸ ne1s0) (fun q => Nat.ne_of_lt (Nat.lt_of_lt_of_le ((((G0.ext e293).keep KB (ninS (Nat.ne_of_lt (Nat.lt_of_lt_of_le G0.lt (Nat.le_of_eq g291.symm))) nin0) (ninS (Nat.ne_of_lt (Nat.lt_of_lt_of_le G0.lt' (Nat.le_of_eq g291.symm))) nin0)).keep KA1 (ninS (Nat.ne_of_lt (Nat.lt_of_lt_of_le G0.lt (Nat.le_of_eq g291.symm))) (ninS (Nat.ne_of_lt (Nat.lt_of_lt_of_le (G0.ext e293).lt gd0)) nin0)) (ninS (Nat.ne_of_lt (Nat.lt_of_lt_of_le G0.lt' (Nat.le_of_eq g291.symm))) (ninS (Nat.ne_of_lt (Nat.lt_of_lt_of_le (G0.ext e293).lt' gd0)) nin0))).ext el0).lt q))
  have ne2t0 : t0 ≠ d2 := hd2.elim (fun q => q ▸ ne1t0) (fun q => Nat.ne_of_lt (Nat.lt_of_lt_of_le ((((G0.ext e293).keep KB (ninS (Nat.ne_of_lt (Nat.lt_of_lt_of_le G0.lt (Nat.le_of_eq g291.symm))) nin0) (ninS (Nat.ne_of_lt (Nat.lt_of_lt_of_le G0.lt' (Nat.le_of_eq g291.symm))) nin0)).keep KA1 (ninS (Nat.ne_of_lt (Nat.lt_of_lt_of_le G0.lt (Nat.le_of_eq g291.symm))) (ninS (Nat.ne_of_lt (Nat.lt_of_lt_of_le (G0.ext e293).lt gd0)) nin0)) (ninS (Nat.ne_of_lt (Nat.lt_of_lt_of_le G0.lt' (Nat.le_of_eq g291.symm))) (ninS (Nat.ne_of_lt (Nat.lt_of_lt_of_le (G0.ext e293).lt' gd0)) nin0))).ext el0).lt' q))
  have ne2s1 : s1 ≠ d2 := hd2.elim (fun q => q ▸ ne1s1) (fun q => Nat.ne_of_lt (Nat.lt_of_lt_of_le ((((G1.ext e293).keep KB (ninS (Nat.ne_of_lt (Nat.lt_of_lt_of_le G1.lt (Nat.le_of_eq g291.symm))) nin0) (ninS (Nat.ne_of_lt (Nat.lt_of_lt_of_le G1.lt' (Nat.le_of_eq g291.symm))) nin0)).keep KA1 (ninS (Nat.ne_of_lt (Nat.lt_of_lt_of_le G1.lt (Nat.le_of_eq g291.symm))) (ninS (Nat.ne_of_lt (Nat.lt_of_lt_of_le (G1.ext e293).lt gd0)) nin0)) (ninS (Nat.ne_of_lt (Nat.lt_of_lt_of_le G1.lt' (Nat.le_of_eq g291.symm))) (ninS (Nat.ne_of_lt (Nat.lt_of_lt_of_le (G1.ext e293).lt' gd0)) nin0))).ext el0).lt q))
  have ne2t1 : t1 ≠ d2 := hd2.elim (fun q => q ▸ ne1t1) (fun q => Nat.ne_of_lt (Nat.lt_of_lt_of_le ((((G1.ext e293).keep KB (ninS (Nat.ne_of_lt (Nat.lt_of_lt_of_le G1.lt (Nat.le_of_eq g291.symm))) nin0) (ninS (Nat.ne_of_lt (Nat.lt_of_lt_of_le G1.lt' (Nat.le_of_eq g291.symm))) nin0)).keep KA1 (ninS (Nat.ne_of_lt (Nat.lt_of_lt_of_le G1.lt (Nat.le_of_eq g291.symm))) (ninS (Nat.ne_of_lt (Nat.lt_of_lt_of_le (G1.ext e293).lt gd0)) nin0)) (ninS (Nat.ne_of_lt (Nat.lt_of_lt_of_le G1.lt' (Nat.le_of_eq g291.symm))) (ninS (Nat.ne_of_lt (Nat.lt_of_lt_of_le (G1.ext e293).lt' gd0)) nin0))).ext el0).lt' q))
  have ne2s2 : s2 ≠ d2 := hd2.elim (fun q => q ▸ ne1s2) (fun q => Nat.ne_of_lt (Nat.lt_of_lt_of_le ((((G2.ext e293).keep KB (ninS (Nat.ne_of_lt (Nat.lt_of_lt_of_le G2.lt (Nat.le_of_eq g291.symm))) nin0) (ninS (Nat.ne_of_lt (Nat.lt_of_lt_of_le G2.lt' (Nat.le_of_eq g291.symm))) nin0)).keep KA1 (ninS (Nat.ne_of_lt (Nat.lt_of_lt_of_le G2.lt (Nat.le_of_eq g291.symm))) (ninS (Nat.ne_of_lt (Nat.lt_of_lt_of_le (G2.ext e293).lt gd0)) nin0)) (ninS (Nat.ne_of_lt (Nat.lt_of_lt_of_le G2.lt' (Nat.le_of_eq g291.symm))) (ninS (Nat.ne_of_lt (Nat.lt_of_lt_of_le (G2.ext e293).lt' gd0)) nin0))).ext el0).lt q))
  have ne2t2 : t2 ≠ d2 := hd2.elim (fun q => q ▸ ne1t2) (fun q => Nat.ne_of_lt (Nat.lt_of_lt_of_le ((((G2.ext e293).keep KB (ninS (Nat.ne_of_lt (Nat.lt_of_lt_of_le G2.lt (Nat.le_of_eq g291.symm))) nin0) (ninS (Nat.ne_of_lt (Nat.lt_of_lt_of_le G2.lt' (Nat.le_of_eq g291.symm))) nin0)).keep KA1 (ninS (Nat.ne_of_lt (Nat.lt_of_lt_of_le G2.lt (Nat.le_of_eq g291.symm))) (ninS (Nat.ne_of_lt (Nat.lt_of_lt_of_le (G2.ext e293).lt gd0)) nin0)) (ninS (Nat.ne_of_lt (Nat.lt_of_lt_of_le G2.lt' (Nat.le_of_eq g291.symm))) (ninS (Nat.ne_of_lt (Nat.lt_of_lt_of_le (G2.ext e293).lt' gd0)) nin0))).ext el0).lt' q))
  have ne2l0 : l0 ≠ d2 := hd2.elim (fun q => q ▸ (Ne.symm (nl0 d1 (by simp)).1)) (fun q => Nat.ne_of_lt (Nat.lt_of_lt_of_le Gl0.lt q))
  have ne2u0 : u0 ≠ d2 := hd2.elim (fun q => q ▸ (Ne.symm (nl0 d1 (by simp)).2)) (fun q => Nat.ne_of_lt (Nat.lt_of_lt_of_le Gl0.lt' q))
  have ne2v : v ≠ d2 := hd2.elim (fun q => q ▸ ne1v) (fun q => Nat.ne_of_lt (Nat.lt_of_lt_of_le ((((F0.ext e293).keep KB (ninS (Nat.ne_of_lt (Nat.lt_of_lt_of_le F0.lt (Nat.le_of_eq g291.symm))) nin0)).keep KA1 (ninS (Nat.ne_of_lt (Nat.lt_of_lt_of_le F0.lt (Nat.le_of_eq g291.symm))) (ninS (Nat.ne_of_lt (Nat.lt_of_lt_of_le (F0.ext e293).lt gd0)) nin0))).ext el0).lt q))
  have gd2 : h0.size ≤ d2 := hd2.elim (fun q => q ▸ gd1') (fun q => Nat.le_trans (Nat.le_trans (Nat.le_trans (Nat.le_trans (Nat.le_trans (Nat.le_refl _) e293.1) KB.1) KA1.1) el0.1) q)
  have gd2' := gd2
  show W.Go _ _ _ _ _ _ _ _ _ _ _ (mkF m 19 #[.val (.ref v)] [(.ref b290)])
  refine W.o_aloadN X (pc' := 20) d_prog_9_method_2_19 rfl rfl rfl ?_
  have f319 := (((((F1.ext e293).keep KB (ninS (Nat.ne_of_lt (Nat.lt_of_lt_of_le F0.lt (Nat.le_of_eq g291.symm))) nin0)).keep KA1 (ninS (Nat.ne_of_lt (Nat.lt_of_lt_of_le F0.lt (Nat.le_of_eq g291.symm))) (ninS (Nat.ne_of_lt (Nat.lt_of_lt_of_le (F0.ext e293).lt gd0)) nin0))).ext el0).keep KA2 (ninS (Nat.ne_of_lt (Nat.lt_of_lt_of_le F0.lt (Nat.le_of_eq g291.symm))) (ninS ne1v nin0)))
  refine W.o_getfield X (pc' := 23) d_prog_9_method_2_20 rfl (hw _ (List.mem_of_getElem? (i := 40) rfl)) Via.refl f319 (fun T X => ?_)
  have f320 := (((((G1.ext e293).keep KB (ninS (Nat.ne_of_lt (Nat.lt_of_lt_of_le G1.lt (Nat.le_of_eq g291.symm))) nin0) (ninS (Nat.ne_of_lt (Nat.lt_of_lt_of_le G1.lt' (Nat.le_of_eq g291.symm))) nin0)).keep KA1 (ninS (Nat.ne_of_lt (Nat.lt_of_lt_of_le G1.lt (Nat.le_of_eq g291.symm))) (ninS (Nat.ne_of_lt (Nat.lt_of_lt_of_le (G1.ext e293).lt gd0)) nin0)) (ninS (Nat.ne_of_lt (Nat.lt_of_lt_of_le G1.lt' (Nat.le_of_eq g291.symm))) (ninS (Nat.ne_of_lt (Nat.lt_of_lt_of_le (G1.ext e293).lt' gd0)) nin0))).ext el0).keep KA2 (ninS (Nat.ne_of_lt (Nat.lt_of_lt_of_le G1.lt (Nat.le_of_eq g291.symm))) (ninS ne1s1 nin0)) (ninS (Nat.ne_of_lt (Nat.lt_of_lt_of_le G1.lt' (Nat.le_of_eq g291.symm))) (ninS ne1t1 nin0)))
  refine W.o_virtual X (pc' := 26) d_prog_9_method_2_23 rfl (u := (⟨"java/lang/StringBuilder", "append", "(Ljava/lang/String;)Ljava/lang/StringBuilder;"⟩ : MethodName)) (z := (⟨"java/lang/StringBuilder", "append", "(Ljava/lang/String;)Ljava/lang/StringBuilder;"⟩ : MethodName)) (hw _ (List.mem_of_getElem? (i := 67) rfl)) (hw _ (List.mem_of_getElem? (i := 68) rfl)) (fun s' hZ => notFace_of_selects (args := #[]) (mvT hZ (hw _ (List.mem_of_getElem? (i := 70) rfl)))) (hw _ (List.mem_of_getElem? (i := 70) rfl)) (hw _ (List.mem_of_getElem? (i := 69) rfl)) (hw _ (List.mem_of_getElem? (i := 51) rfl)) (hw _ (List.mem_of_getElem? (i := 71) rfl)) (by decide) B2.1 (ctAppS l Z a0 hw b290 d2 s1 t1 cap2 (cs0 ++ [32, 105, 115, 32, 34]) cs1 cz h318 C0 hcz (by simp only [List.length_append, List.length_cons, List.length_nil]; omega) ne2t1 B2 f320) (allS ⟨B2.lt', (Or.inr (Or.inl (by simp)))⟩ all0) [(.ref s1)] rfl (rest := []) rfl pd__Ljava_lang_String__Ljava_lang_StringBuilder_ rfl rfl (by decide) (by exact Nat.le_of_ble_eq_true rfl) (by decide) (by decide) (fun v321 T q322 => ?_)
  obtain ⟨h325, S323, ⟨rfl, KA3, d3, cap3, hd3, B3, sd3⟩, X324⟩ := q322
  have X := X324 [d3] (allS ⟨B3.lt', sd3⟩ all0)
  have ne3s0 : s0 ≠ d3 := hd3.elim (fun q => q ▸ ne2s0) (fun q => Nat.ne_of_lt (Nat.lt_of_lt_of_le (((((G0.ext e293).keep KB (ninS (Nat.ne_of_lt (Nat.lt_of_lt_of_le G0.lt (Nat.le_of_eq g291.symm))) nin0) (ninS (Nat.ne_of_lt (Nat.lt_of_lt_of_le G0.lt' (Nat.le_of_eq g291.symm))) nin0)).keep KA1 (ninS (Nat.ne_of_lt (Nat.lt_of_lt_of_le G0.lt (Nat.le_of_eq g291.symm))) (ninS (Nat.ne_of_lt (Nat.lt_of_lt_of_le (G0.ext e293).lt gd0)) nin0)) (ninS (Nat.ne_of_lt (Nat.lt_of_lt_of_le G0.lt' (Nat.le_of_eq g291.symm))) (ninS (Nat.ne_of_lt (Nat.lt_of_lt_of_le (G0.ext e293).lt' gd0)) nin0))).ext el0).keep KA2 (ninS (Nat.ne_of_lt (Nat.lt_of_lt_of_le G0.lt (Nat.le_of_eq g291.symm))) (ninS ne1s0 nin0)) (ninS (Nat.ne_of_lt (Nat.lt_of_lt_of_le G0.lt' (Nat.le_of_eq g291.symm))) (ninS ne1t0 nin0))).lt q))
  have ne3t0 : t0 ≠ d3 := hd3.elim (fun q => q ▸ ne2t0) (fun q => Nat.ne_of_lt (Nat.lt_of_lt_of_le (((((G0.ext e293).keep KB (ninS (Nat.ne_of_lt (Nat.lt_of_lt_of_le G0.lt (Nat.le_of_eq g291.symm))) nin0) (ninS (Nat.ne_of_lt (Nat.lt_of_lt_of_le G0.lt' (Nat.le_of_eq g291.symm))) nin0)).keep KA1 (ninS (Nat.ne_of_lt (Nat.lt_of_lt_of_le G0.lt (Nat.le_of_eq g291.symm))) (ninS (Nat.ne_of_lt (Nat.lt_of_lt_of_le (G0.ext e293).lt gd0)) nin0)) (ninS (Nat.ne_of_lt (Nat.lt_of_lt_of_le G0.lt' (Nat.le_of_eq g291.symm))) (ninS (Nat.ne_of_lt (Nat.lt_of_lt_of_le (G0.ext e293).lt' gd0)) nin0))).ext el0).keep KA2 (ninS (Nat.ne_of_lt (Nat.lt_of_lt_of_le G0.lt (Nat.le_of_eq g291.symm))) (ninS ne1s0 nin0)) (ninS (Nat.ne_of_lt (Nat.lt_of_lt_of_le G0.lt' (Nat.le_of_eq g291.symm))) (ninS ne1t0 nin0))).lt' q))
  have ne3s1 : s1 ≠ d3 := hd3.elim (fun q => q ▸ ne2s1) (fun q => Nat.ne_of_lt (Nat.lt_of_lt_of_le (((((G1.ext e293).keep KB (ninS (Nat.ne_of_lt (Nat.lt_of_lt_of_le G1.lt (Nat.le_of_eq g291.symm))) nin0) (ninS (Nat.ne_of_lt (Nat.lt_of_lt_of_le G1.lt' (Nat.le_of_eq g291.symm))) nin0)).keep KA1 (ninS (Nat.ne_of_lt (Nat.lt_of_lt_of_le G1.lt (Nat.le_of_eq g291.symm))) (ninS (Nat.ne_of_lt (Nat.lt_of_lt_of_le (G1.ext e293).lt gd0)) nin0)) (ninS (Nat.ne_of_lt (Nat.lt_of_lt_of_le G1.lt' (Nat.le_of_eq g291.symm))) (ninS (Nat.ne_of_lt (Nat.lt_of_lt_of_le (G1.ext e293).lt' gd0)) nin0))).ext el0).keep KA2 (ninS (Nat.ne_of_lt (Nat.lt_of_lt_of_le G1.lt (Nat.le_of_eq g291.symm))) (ninS ne1s1 nin0)) (ninS (Nat.ne_of_lt (Nat.lt_of_lt_of_le G1.lt' (Nat.le_of_eq g291.symm))) (ninS ne1t1 nin0))).lt q))
  have ne3t1 : t1 ≠ d3 := hd3.elim (fun q => q ▸ ne2t1) (fun q => Nat.ne_of_lt (Nat.lt_of_lt_of_le (((((G1.ext e293).keep KB (ninS (Nat.ne_of_lt (Nat.lt_of_lt_of_le G1.lt (Nat.le_of_eq g291.symm))) nin0) (ninS (Nat.ne_of_lt (Nat.lt_of_lt_of_le G1.lt' (Nat.le_of_eq g291.symm))) nin0)).keep KA1 (ninS (Nat.ne_of_lt (Nat.lt_of_lt_of_le G1.lt (Nat.le_of_eq g291.symm))) (ninS (Nat.ne_of_lt (Nat.lt_of_lt_of_le (G1.ext e293).lt gd0)) nin0)) (ninS (Nat.ne_of_lt (Nat.lt_of_lt_of_le G1.lt' (Nat.le_of_eq g291.symm))) (ninS (Nat.ne_of_lt (Nat.lt_of_lt_of_le (G1.ext e293).lt' gd0)) nin0))).ext el0).keep KA2 (ninS (Nat.ne_of_lt (Nat.lt_of_lt_of_le G1.lt (Nat.le_of_eq g291.symm))) (ninS ne1s1 nin0)) (ninS (Nat.ne_of_lt (Nat.lt_of_lt_of_le G1.lt' (Nat.le_of_eq g291.symm))) (ninS ne1t1 nin0))).lt' q))
  have ne3s2 : s2 ≠ d3 := hd3.elim (fun q => q ▸ ne2s2) (fun q => Nat.ne_of_lt (Nat.lt_of_lt_of_le (((((G2.ext e293).keep KB (ninS (Nat.ne_of_lt (Nat.lt_of_lt_of_le G2.lt (Nat.le_of_eq g291.symm))) nin0) (ninS (Nat.ne_of_lt (Nat.lt_of_lt_of_le G2.lt' (Nat.le_of_eq g291.symm))) nin0)).keep KA1 (ninS (Nat.ne_of_lt (Nat.lt_of_lt_of_le G2.lt (Nat.le_of_eq g291.symm))) (ninS (Nat.ne_of_lt (Nat.lt_of_lt_of_le (G2.ext e293).lt gd0)) nin0)) (ninS (Nat.ne_of_lt (Nat.lt_of_lt_of_le G2.lt' (Nat.le_of_eq g291.symm))) (ninS (Nat.ne_of_lt (Nat.lt_of_lt_of_le (G2.ext e293).lt' gd0)) nin0))).ext el0).keep KA2 (ninS (Nat.ne_of_lt (Nat.lt_of_lt_of_le G2.lt (Nat.le_of_eq g291.symm))) (ninS ne1s2 nin0)) (ninS (Nat.ne_of_lt (Nat.lt_of_lt_of_le G2.lt' (Nat.le_of_eq g291.symm))) (ninS ne1t2 nin0))).lt q))
  have ne3t2 : t2 ≠ d3 := hd3.elim (fun q => q ▸ ne2t2) (fun q => Nat.ne_of_lt (Nat.lt_of_lt_of_le (((((G2.ext e293).keep KB (ninS (Nat.ne_of_lt (Nat.lt_of_lt_of_le G2.lt (Nat.le_of_eq g291.symm))) nin0) (ninS (Nat.ne_of_lt (Nat.lt_of_lt_of_le G2.lt' (Nat.le_of_eq g291.symm))) nin0)).keep KA1 (ninS (Nat.ne_of_lt (Nat.lt_of_lt_of_le G2.lt (Nat.le_of_eq g291.symm))) (ninS (Nat.ne_of_lt (Nat.lt_of_lt_of_le (G2.ext e293).lt gd0)) nin0)) (ninS (Nat.ne_of_lt (Nat.lt_of_lt_of_le G2.lt' (Nat.le_of_eq g291.symm))) (ninS (Nat.ne_of_lt (Nat.lt_of_lt_of_le (G2.ext e293).lt' gd0)) nin0))).ext el0).keep KA2 (ninS (Nat.ne_of_lt (Nat.lt_of_lt_of_le G2.lt (Nat.le_of_eq g291.symm))) (ninS ne1s2 nin0)) (ninS (Nat.ne_of_lt (Nat.lt_of_lt_of_le G2.lt' (Nat.le_of_eq g291.symm))) (ninS ne1t2 nin0))).lt' q))
  have ne3l0 : l0 ≠ d3 := hd3.elim (fun q => q ▸ ne2l0) (fun q => Nat.ne_of_lt (Nat.lt_of_lt_of_le (Gl0.keep KA2 (ninS (Ne.symm (nl0 b290 (by simp)).1) (ninS (Ne.symm (nl0 d1 (by simp)).1) nin0)) (ninS (Ne.symm (nl0 b290 (by simp)).2) (ninS (Ne.symm (nl0 d1 (by simp)).2) nin0))).lt q))
  have ne3u0 : u0 ≠ d3 := hd3.elim (fun q => q ▸ ne2u0) (fun q => Nat.ne_of_lt (Nat.lt_of_lt_of_le (Gl0.keep KA2 (ninS (Ne.symm (nl0 b290 (by simp)).1) (ninS (Ne.symm (nl0 d1 (by simp)).1) nin0)) (ninS (Ne.symm (nl0 b290 (by simp)).2) (ninS (Ne.symm (nl0 d1 (by simp)).2) nin0))).lt' q))
  have ne3v : v ≠ d3 := hd3.elim (fun q => q ▸ ne2v) (fun q => Nat.ne_of_lt (Nat.lt_of_lt_of_le (((((F0.ext e293).keep KB (ninS (Nat.ne_of_lt (Nat.lt_of_lt_of_le F0.lt (Nat.le_of_eq g291.symm))) nin0)).keep KA1 (ninS (Nat.ne_of_lt (Nat.lt_of_lt_of_le F0.lt (Nat.le_of_eq g291.symm))) (ninS (Nat.ne_of_lt (Nat.lt_of_lt_of_le (F0.ext e293).lt gd0)) nin0))).ext el0).keep KA2 (ninS (Nat.ne_of_lt (Nat.lt_of_lt_of_le F0.lt (Nat.le_of_eq g291.symm))) (ninS ne1v nin0))).lt q))
  have gd3 : h0.size ≤ d3 := hd3.elim (fun q => q ▸ gd2') (fun q => Nat.le_trans (Nat.le_trans (Nat.le_trans (Nat.le_trans (Nat.le_trans (Nat.le_trans (Nat.le_refl _) e293.1) KB.1) KA1.1) el0.1) KA2.1) q)
  have gd3' := gd3
  show W.Go _ _ _ _ _ _ _ _ _ _ _ (mkF m 26 #[.val (.ref v)] [(.ref b290)])
  refine W.o_ldcT X rfl (pc' := 28) d_prog_9_method_2_26 rfl (hw _ (List.mem_of_getElem? (i := 116) rfl)) hwS (by decide) (vs := ([34, 32, 40, 102, 114, 111, 109, 32] : List Int32).map lo) (z := 8) ⟨by decide, by decide⟩ (by decide) (by decide) (nn := 32) (by decide) (by decide) (by decide) (by decide) (fun T hl1 l1 u1 kl1 el1 El1 Cl1 Vl1 Bl1 nl1 X => ?_)
  have Gl1 : Str Z hl1 l1 u1 [34, 32, 40, 102, 114, 111, 109, 32] := ⟨El1, Cl1, Vl1, ⟨kl1, Bl1⟩, by decide, by decide⟩
  have f326 := (B3.ext el1)
  have f329 := (B3.1.ext el1)
  refine W.o_virtual X (pc' := 31) d_prog_9_method_2_28 rfl (u := (⟨"java/lang/StringBuilder", "append", "(Ljava/lang/String;)Ljava/lang/StringBuilder;"⟩ : MethodName)) (z := (⟨"java/lang/StringBuilder", "append", "(Ljava/lang/String;)Ljava/lang/StringBuilder;"⟩ : MethodName)) (hw _ (List.mem_of_getElem? (i := 67) rfl)) (hw _ (List.mem_of_getElem? (i := 68) rfl)) (fun s' hZ => notFace_of_selects (args := #[]) (mvT hZ (hw _ (List.mem_of_getElem? (i := 70) rfl)))) (hw _ (List.mem_of_getElem? (i := 70) rfl)) (hw _ (List.mem_of_getElem? (i := 69) rfl)) (hw _ (List.mem_of_getElem? (i := 51) rfl)) (hw _ (List.mem_of_getElem? (i := 71) rfl)) (by decide) f329 (ctAppS l Z a0 hw b290 d3 l1 u1 cap3 ((cs0 ++ [32, 105, 115, 32, 34]) ++ cs1) [34, 32, 40, 102, 114, 111, 109, 32] cz hl1 C0 hcz (by simp only [List.length_append, List.length_cons, List.length_nil]; omega) (Ne.symm (nl1 d3 (by simp)).2) f326 Gl1) (allS ⟨(B3.ext el1).lt', (Or.inr (Or.inl (by simp)))⟩ all0) [(.ref l1)] rfl (rest := []) rfl pd__Ljava_lang_String__Ljava_lang_StringBuilder_ rfl rfl (by decide) (by exact Nat.le_of_ble_eq_true rfl) (by decide) (by decide) (fun v327 T q328 => ?_)
  obtain ⟨h332, S330, ⟨rfl, KA4, d4, cap4, hd4, B4, sd4⟩, X331⟩ := q328
  have X := X331 [d4] (allS ⟨B4.lt', sd4⟩ all0)
  have ne4s0 : s0 ≠ d4 := hd4.elim (fun q => q ▸ ne3s0) (fun q => Nat.ne_of_lt (Nat.lt_of_lt_of_le (((((((G0.ext e293).keep KB (ninS (Nat.ne_of_lt (Nat.lt_of_lt_of_le G0.lt (Nat.le_of_eq g291.symm))) nin0) (ninS (Nat.ne_of_lt (Nat.lt_of_lt_of_le G0.lt' (Nat.le_of_eq g291.symm))) nin0)).keep KA1 (ninS (Nat.ne_of_lt (Nat.lt_of_lt_of_le G0.lt (Nat.le_of_eq g291.symm))) (ninS (Nat.ne_of_lt (Nat.lt_of_lt_of_le (G0.ext e293).lt gd0)) nin0)) (ninS (Nat.ne_of_lt (Nat.lt_of_lt_of_le G0.lt' (Nat.le_of_eq g291.symm))) (ninS (Nat.ne_of_lt (Nat.lt_of_lt_of_le (G0.ext e293).lt' gd0)) nin0))).ext el0).keep KA2 (ninS (Nat.ne_of_lt (Nat.lt_of_lt_of_le G0.lt (Nat.le_of_eq g291.symm))) (ninS ne1s0 nin0)) (ninS (Nat.ne_of_lt (Nat.lt_of_lt_of_le G0.lt' (Nat.le_of_eq g291.symm))) (ninS ne1t0 nin0))).keep KA3 (ninS (Nat.ne_of_lt (Nat.lt_of_lt_of_le G0.lt (Nat.le_of_eq g291.symm))) (ninS ne2s0 nin0)) (ninS (Nat.ne_of_lt (Nat.lt_of_lt_of_le G0.lt' (Nat.le_of_eq g291.symm))) (ninS ne2t0 nin0))).ext el1).lt q))
  have ne4t0 : t0 ≠ d4 := hd4.elim (fun q => q ▸ ne3t0) (fun q => Nat.ne_of_lt (Nat.lt_of_lt_of_le (((((((G0.ext e293).keep KB (ninS (Nat.ne_of_lt (Nat.lt_of_lt_of_le G0.lt (Nat.le_of_eq g291.symm))) nin0) (ninS (Nat.ne_of_lt (Nat.lt_of_lt_of_le G0.lt' (Nat.le_of_eq g291.symm))) nin0)).keep KA1 (ninS (Nat.ne_of_lt (Nat.lt_of_lt_of_le G0.lt (Nat.le_of_eq g291.symm))) (ninS (Nat.ne_of_lt (Nat.lt_of_lt_of_le (G0.ext e293).lt gd0)) nin0)) (ninS (Nat.ne_of_lt (Nat.lt_of_lt_of_le G0.lt' (Nat.le_of_eq g291.symm))) (ninS (Nat.ne_of_lt (Nat.lt_of_lt_of_le (G0.ext e293).lt' gd0)) nin0))).ext el0).keep KA2 (ninS (Nat.ne_of_lt (Nat.lt_of_lt_of_le G0.lt (Nat.le_of_eq g291.symm))) (ninS ne1s0 nin0)) (ninS (Nat.ne_of_lt (Nat.lt_of_lt_of_le G0.lt' (Nat.le_of_eq g291.symm))) (ninS ne1t0 nin0))).keep KA3 (ninS (Nat.ne_of_lt (Nat.lt_of_lt_of_le G0.lt (Nat.le_of_eq g291.symm))) (ninS ne2s0 nin0)) (ninS (Nat.ne_of_lt (Nat.lt_of_lt_of_le G0.lt' (Nat.le_of_eq g291.symm))) (ninS ne2t0 nin0))).ext el1).lt' q))
  have ne4s1 : s1 ≠ d4 := hd4.elim (fun q => q ▸ ne3s1) (fun q => Nat.ne_of_lt (Nat.lt_of_lt_of_le (((((((G1.ext e293).keep KB (ninS (Nat.ne_of_lt (Nat.lt_of_lt_of_le G1.lt (Nat.le_of_eq g291.symm))) nin0) (ninS (Nat.ne_of_lt (Nat.lt_of_lt_of_le G1.lt' (Nat.le_of_eq g291.symm))) nin0)).keep KA1 (ninS (Nat.ne_of_lt (Nat.lt_of_lt_of_le G1.lt (Nat.le_of_eq g291.symm))) (ninS (Nat.ne_of_lt (Nat.lt_of_lt_of_le (G1.ext e293).lt gd0)) nin0)) (ninS (Nat.ne_of_lt (Nat.lt_of_lt_of_le G1.lt' (Nat.le_of_eq g291.symm))) (ninS (Nat.ne_of_lt (Nat.lt_of_lt_of_le (G1.ext e293).lt' gd0)) nin0))).ext el0).keep KA2 (ninS (Nat.ne_of_lt (Nat.lt_of_lt_of_le G1.lt (Nat.le_of_eq g291.symm))) (ninS ne1s1 nin0)) (ninS (Nat.ne_of_lt (Nat.lt_of_lt_of_le G1.lt' (Nat.le_of_eq g291.symm))) (ninS ne1t1 nin0))).keep KA3 (ninS (Nat.ne_of_lt (Nat.lt_of_lt_of_le G1.lt (Nat.le_of_eq g291.symm))) (ninS ne2s1 nin0)) (ninS (Nat.ne_of_lt (Nat.lt_of_lt_of_le G1.lt' (Nat.le_of_eq g291.symm))) (ninS ne2t1 nin0))).ext el1).lt q))
  have ne4t1 : t1 ≠ d4 := hd4.elim (fun q => q ▸ ne3t1) (fun q => Nat.ne_of_lt (Nat.lt_of_lt_of_le (((((((G1.ext e293).keep KB (ninS (Nat.ne_of_lt (Nat.lt_of_lt_of_le G1.lt (Nat.le_of_eq g291.symm))) nin0) (ninS (Nat.ne_of_lt (Nat.lt_of_lt_of_le G1.lt' (Nat.le_of_eq g291.symm))) nin0)).keep KA1 (ninS (Nat.ne_of_lt (Nat.lt_of_lt_of_le G1.lt (Nat.le_of_eq g291.symm))) (ninS (Nat.ne_of_lt (Nat.lt_of_lt_of_le (G1.ext e293).lt gd0)) nin0)) (ninS (Nat.ne_of_lt (Nat.lt_of_lt_of_le G1.lt' (Nat.le_of_eq g291.symm))) (ninS (Nat.ne_of_lt (Nat.lt_of_lt_of_le (G1.ext e293).lt' gd0)) nin0))).ext el0).keep KA2 (ninS (Nat.ne_of_lt (Nat.lt_of_lt_of_le G1.lt (Nat.le_of_eq g291.symm))) (ninS ne1s1 nin0)) (ninS (Nat.ne_of_lt (Nat.lt_of_lt_of_le G1.lt' (Nat.le_of_eq g291.symm))) (ninS ne1t1 nin0))).keep KA3 (ninS (Nat.ne_of_lt (Nat.lt_of_lt_of_le G1.lt (Nat.le_of_eq g291.symm))) (ninS ne2s1 nin0)) (ninS (Nat.ne_of_lt (Nat.lt_of_lt_of_le G1.lt' (Nat.le_of_eq g291.symm))) (ninS ne2t1 nin0))).ext el1).lt' q))
  have ne4s2 : s2 ≠ d4 := hd4.elim (fun q => q ▸ ne3s2) (fun q => Nat.ne_of_lt (Nat.lt_of_lt_of_le (((((((G2.ext e293).keep KB (ninS (Nat.ne_of_lt (Nat.lt_of_lt_of_le G2.lt (Nat.le_of_eq g291.symm))) nin0) (ninS (Nat.ne_of_lt (Nat.lt_of_lt_of_le G2.lt' (Nat.le_of_eq g291.symm))) nin0)).keep KA1 (ninS (Nat.ne_of_lt (Nat.lt_of_lt_of_le G2.lt (Nat.le_of_eq g291.symm))) (ninS (Nat.ne_of_lt (Nat.lt_of_lt_of_le (G2.ext e293).lt gd0)) nin0)) (ninS (Nat.ne_of_lt (Nat.lt_of_lt_of_le G2.lt' (Nat.le_of_eq g291.symm))) (ninS (Nat.ne_of_lt (Nat.lt_of_lt_of_le (G2.ext e293).lt' gd0)) nin0))).ext el0).keep KA2 (ninS (Nat.ne_of_lt (Nat.lt_of_lt_of_le G2.lt (Nat.le_of_eq g291.symm))) (ninS ne1s2 nin0)) (ninS (Nat.ne_of_lt (Nat.lt_of_lt_of_le G2.lt' (Nat.le_of_eq g291.symm))) (ninS ne1t2 nin0))).keep KA3 (ninS (Nat.ne_of_lt (Nat.lt_of_lt_of_le G2.lt (Nat.le_of_eq g291.symm))) (ninS ne2s2 nin0)) (ninS (Nat.ne_of_lt (Nat.lt_of_lt_of_le G2.lt' (Nat.le_of_eq g291.symm))) (ninS ne2t2 nin0))).ext el1).lt q))
  have ne4t2 : t2 ≠ d4 := hd4.elim (fun q => q ▸ ne3t2) (fun q => Nat.ne_of_lt (Nat.lt_of_lt_of_le (((((((G2.ext e293).keep KB (ninS (Nat.ne_of_lt (Nat.lt_of_lt_of_le G2.lt (Nat.le_of_eq g291.symm))) nin0) (ninS (Nat.ne_of_lt (Nat.lt_of_lt_of_le G2.lt' (Nat.le_of_eq g291.symm))) nin0)).keep KA1 (ninS (Nat.ne_of_lt (Nat.lt_of_lt_of_le G2.lt (Nat.le_of_eq g291.symm))) (ninS (Nat.ne_of_lt (Nat.lt_of_lt_of_le (G2.ext e293).lt gd0)) nin0)) (ninS (Nat.ne_of_lt (Nat.lt_of_lt_of_le G2.lt' (Nat.le_of_eq g291.symm))) (ninS (Nat.ne_of_lt (Nat.lt_of_lt_of_le (G2.ext e293).lt' gd0)) nin0))).ext el0).keep KA2 (ninS (Nat.ne_of_lt (Nat.lt_of_lt_of_le G2.lt (Nat.le_of_eq g291.symm))) (ninS ne1s2 nin0)) (ninS (Nat.ne_of_lt (Nat.lt_of_lt_of_le G2.lt' (Nat.le_of_eq g291.symm))) (ninS ne1t2 nin0))).keep KA3 (ninS (Nat.ne_of_lt (Nat.lt_of_lt_of_le G2.lt (Nat.le_of_eq g291.symm))) (ninS ne2s2 nin0)) (ninS (Nat.ne_of_lt (Nat.lt_of_lt_of_le G2.lt' (Nat.le_of_eq g291.symm))) (ninS ne2t2 nin0))).ext el1).lt' q))
  have ne4l0 : l0 ≠ d4 := hd4.elim (fun q => q ▸ ne3l0) (fun q => Nat.ne_of_lt (Nat.lt_of_lt_of_le (((Gl0.keep KA2 (ninS (Ne.symm (nl0 b290 (by simp)).1) (ninS (Ne.symm (nl0 d1 (by simp)).1) nin0)) (ninS (Ne.symm (nl0 b290 (by simp)).2) (ninS (Ne.symm (nl0 d1 (by simp)).2) nin0))).keep KA3 (ninS (Ne.symm (nl0 b290 (by simp)).1) (ninS ne2l0 nin0)) (ninS (Ne.symm (nl0 b290 (by simp)).2) (ninS ne2u0 nin0))).ext el1).lt q))
  have ne4u0 : u0 ≠ d4 := hd4.elim (fun q => q ▸ ne3u0) (fun q => Nat.ne_of_lt (Nat.lt_of_lt_of_le (((Gl0.keep KA2 (ninS (Ne.symm (nl0 b290 (by simp)).1) (ninS (Ne.symm (nl0 d1 (by simp)).1) nin0)) (ninS (Ne.symm (nl0 b290 (by simp)).2) (ninS (Ne.symm (nl0 d1 (by simp)).2) nin0))).keep KA3 (ninS (Ne.symm (nl0 b290 (by simp)).1) (ninS ne2l0 nin0)) (ninS (Ne.symm (nl0 b290 (by simp)).2) (ninS ne2u0 nin0))).ext el1).lt' q))
  have ne4l1 : l1 ≠ d4 := hd4.elim (fun q => q ▸ (Ne.symm (nl1 d3 (by simp)).1)) (fun q => Nat.ne_of_lt (Nat.lt_of_lt_of_le Gl1.lt q))
  have ne4u1 : u1 ≠ d4 := hd4.elim (fun q => q ▸ (Ne.symm (nl1 d3 (by simp)).2)) (fun q => Nat.ne_of_lt (Nat.lt_of_lt_of_le Gl1.lt' q))
  have ne4v : v ≠ d4 := hd4.elim (fun q => q ▸ ne3v) (fun q => Nat.ne_of_lt (Nat.lt_of_lt_of_le (((((((F0.ext e293).keep KB (ninS (Nat.ne_of_lt (Nat.lt_of_lt_of_le F0.lt (Nat.le_of_eq g291.symm))) nin0)).keep KA1 (ninS (Nat.ne_of_lt (Nat.lt_of_lt_of_le F0.lt (Nat.le_of_eq g291.symm))) (ninS (Nat.ne_of_lt (Nat.lt_of_lt_of_le (F0.ext e293).lt gd0)) nin0))).ext el0).keep KA2 (ninS (Nat.ne_of_lt (Nat.lt_of_lt_of_le F0.lt (Nat.le_of_eq g291.symm))) (ninS ne1v nin0))).keep KA3 (ninS (Nat.ne_of_lt (Nat.lt_of_lt_of_le F0.lt (Nat.le_of_eq g291.symm))) (ninS ne2v nin0))).ext el1).lt q))
  have gd4 : h0.size ≤ d4 := hd4.elim (fun q => q ▸ gd3') (fun q => Nat.le_trans (Nat.le_trans (Nat.le_trans (Nat.le_trans (Nat.le_trans (Nat.le_trans (Nat.le_trans (Nat.le_trans (Nat.le_refl _) e293.1) KB.1) KA1.1) el0.1) KA2.1) KA3.1) el1.1) q)
  have gd4' := gd4
  show W.Go _ _ _ _ _ _ _ _ _ _ _ (mkF m 31 #[.val (.ref v)] [(.ref b290)])
  refine W.o_aloadN X (pc' := 32) d_prog_9_method_2_31 rfl rfl rfl ?_
  have f333 := ((((((((F2.ext e293).keep KB (ninS (Nat.ne_of_lt (Nat.lt_of_lt_of_le F0.lt (Nat.le_of_eq g291.symm))) nin0)).keep KA1 (ninS (Nat.ne_of_lt (Nat.lt_of_lt_of_le F0.lt (Nat.le_of_eq g291.symm))) (ninS (Nat.ne_of_lt (Nat.lt_of_lt_of_le (F0.ext e293).lt gd0)) nin0))).ext el0).keep KA2 (ninS (Nat.ne_of_lt (Nat.lt_of_lt_of_le F0.lt (Nat.le_of_eq g291.symm))) (ninS ne1v nin0))).keep KA3 (ninS (Nat.ne_of_lt (Nat.lt_of_lt_of_le F0.lt (Nat.le_of_eq g291.symm))) (ninS ne2v nin0))).ext el1).keep KA4 (ninS (Nat.ne_of_lt (Nat.lt_of_lt_of_le F0.lt (Nat.le_of_eq g291.symm))) (ninS ne3v nin0)))
  refine W.o_getfield X (pc' := 35) d_prog_9_method_2_32 rfl (hw _ (List.mem_of_getElem? (i := 42) rfl)) Via.refl f333 (fun T X => ?_)
  have f334 := ((((((((G2.ext e293).keep KB (ninS (Nat.ne_of_lt (Nat.lt_of_lt_of_le G2.lt (Nat.le_of_eq g291.symm))) nin0) (ninS (Nat.ne_of_lt (Nat.lt_of_lt_of_le G2.lt' (Nat.le_of_eq g291.symm))) nin0)).keep KA1 (ninS (Nat.ne_of_lt (Nat.lt_of_lt_of_le G2.lt (Nat.le_of_eq g291.symm))) (ninS (Nat.ne_of_lt (Nat.lt_of_lt_of_le (G2.ext e293).lt gd0)) nin0)) (ninS (Nat.ne_of_lt (Nat.lt_of_lt_of_le G2.lt' (Nat.le_of_eq g291.symm))) (ninS (Nat.ne_of_lt (Nat.lt_of_lt_of_le (G2.ext e293).lt' gd0)) nin0))).ext el0).keep KA2 (ninS (Nat.ne_of_lt (Nat.lt_of_lt_of_le G2.lt (Nat.le_of_eq g291.symm))) (ninS ne1s2 nin0)) (ninS (Nat.ne_of_lt (Nat.lt_of_lt_of_le G2.lt' (Nat.le_of_eq g291.symm))) (ninS ne1t2 nin0))).keep KA3 (ninS (Nat.ne_of_lt (Nat.lt_of_lt_of_le G2.lt (Nat.le_of_eq g291.symm))) (ninS ne2s2 nin0)) (ninS (Nat.ne_of_lt (Nat.lt_of_lt_of_le G2.lt' (Nat.le_of_eq g291.symm))) (ninS ne2t2 nin0))).ext el1).keep KA4 (ninS (Nat.ne_of_lt (Nat.lt_of_lt_of_le G2.lt (Nat.le_of_eq g291.symm))) (ninS ne3s2 nin0)) (ninS (Nat.ne_of_lt (Nat.lt_of_lt_of_le G2.lt' (Nat.le_of_eq g291.symm))) (ninS ne3t2 nin0)))
  refine W.o_virtual X (pc' := 38) d_prog_9_method_2_35 rfl (u := (⟨"java/lang/StringBuilder", "append", "(Ljava/lang/String;)Ljava/lang/StringBuilder;"⟩ : MethodName)) (z := (⟨"java/lang/StringBuilder", "append", "(Ljava/lang/String;)Ljava/lang/StringBuilder;"⟩ : MethodName)) (hw _ (List.mem_of_getElem? (i := 67) rfl)) (hw _ (List.mem_of_getElem? (i := 68) rfl)) (fun s' hZ => notFace_of_selects (args := #[]) (mvT hZ (hw _ (List.mem_of_getElem? (i := 70) rfl)))) (hw _ (List.mem_of_getElem? (i := 70) rfl)) (hw _ (List.mem_of_getElem? (i := 69) rfl)) (hw _ (List.mem_of_getElem? (i := 51) rfl)) (hw _ (List.mem_of_getElem? (i := 71) rfl)) (by decide) B4.1 (ctAppS l Z a0 hw b290 d4 s2 t2 cap4 (((cs0 ++ [32, 105, 115, 32, 34]) ++ cs1) ++ [34, 32, 40, 102, 114, 111, 109, 32]) cs2 cz h332 C0 hcz (by simp only [List.length_append, List.length_cons, List.length_nil]; omega) ne4t2 B4 f334) (allS ⟨B4.lt', (Or.inr (Or.inl (by simp)))⟩ all0) [(.ref s2)] rfl (rest := []) rfl pd__Ljava_lang_String__Ljava_lang_StringBuilder_ rfl rfl (by decide) (by exact Nat.le_of_ble_eq_true rfl) (by decide) (by decide) (fun v335 T q336 => ?_)
  obtain ⟨h339, S337, ⟨rfl, KA5, d5, cap5, hd5, B5, sd5⟩, X338⟩ := q336
  have X := X338 [d5] (allS ⟨B5.lt', sd5⟩ all0)
  have ne5s0 : s0 ≠ d5 := hd5.elim (fun q => q ▸ ne4s0) (fun q => Nat.ne_of_lt (Nat.lt_of_lt_of_le ((((((((G0.ext e293).keep KB (ninS (Nat.ne_of_lt (Nat.lt_of_lt_of_le G0.lt (Nat.le_of_eq g291.symm))) nin0) (ninS (Nat.ne_of_lt (Nat.lt_of_lt_of_le G0.lt' (Nat.le_of_eq g291.symm))) nin0)).keep KA1 (ninS (Nat.ne_of_lt (Nat.lt_of_lt_of_le G0.lt (Nat.le_of_eq g291.symm))) (ninS (Nat.ne_of_lt (Nat.lt_of_lt_of_le (G0.ext e293).lt gd0)) nin0)) (ninS (Nat.ne_of_lt (Nat.lt_of_lt_of_le G0.lt' (Nat.le_of_eq g291.symm))) (ninS (Nat.ne_of_lt (Nat.lt_of_lt_of_le (G0.ext e293).lt' gd0)) nin0))).ext el0).keep KA2 (ninS (Nat.ne_of_lt (Nat.lt_of_lt_of_le G0.lt (Nat.le_of_eq g291.symm))) (ninS ne1s0 nin0)) (ninS (Nat.ne_of_lt (Nat.lt_of_lt_of_le G0.lt' (Nat.le_of_eq g291.symm))) (ninS ne1t0 nin0))).keep KA3 (ninS (Nat.ne_of_lt (Nat.lt_of_lt_of_le G0.lt (Nat.le_of_eq g291.symm))) (ninS ne2s0 nin0)) (ninS (Nat.ne_of_lt (Nat.lt_of_lt_of_le G0.lt' (Nat.le_of_eq g291.symm))) (ninS ne2t0 nin0))).ext el1).keep KA4 (ninS (Nat.ne_of_lt (Nat.lt_of_lt_of_le G0.lt (Nat.le_of_eq g291.symm))) (ninS ne3s0 nin0)) (ninS (Nat.ne_of_lt (Nat.lt_of_lt_of_le G0.lt' (Nat.le_of_eq g291.symm))) (ninS ne3t0 nin0))).lt q))
  have ne5t0 : t0 ≠ d5 := hd5.elim (fun q => q ▸ ne4t0) (fun q => Nat.ne_of_lt (Nat.lt_of_lt_of_le ((((((((G0.ext e293).keep KB (ninS (Nat.ne_of_lt (Nat.lt_of_lt_of_le G0.lt (Nat.le_of_eq g291.symm))) nin0) (ninS (Nat.ne_of_lt (Nat.lt_of_lt_of_le G0.lt' (Nat.le_of_eq g291.symm))) nin0)).keep KA1 (ninS (Nat.ne_of_lt (Nat.lt_of_lt_of_le G0.lt (Nat.le_of_eq g291.symm))) (ninS (Nat.ne_of_lt (Nat.lt_of_lt_of_le (G0.ext e293).lt gd0)) nin0)) (ninS (Nat.ne_of_lt (Nat.lt_of_lt_of_le G0.lt' (Nat.le_of_eq g291.symm))) (ninS (Nat.ne_of_lt (Nat.lt_of_lt_of_le (G0.ext e293).lt' gd0)) nin0))).ext el0).keep KA2 (ninS (Nat.ne_of_lt (Nat.lt_of_lt_of_le G0.lt (Nat.le_of_eq g291.symm))) (ninS ne1s0 nin0)) (ninS (Nat.ne_of_lt (Nat.lt_of_lt_of_le G0.lt' (Nat.le_of_eq g291.symm))) (ninS ne1t0 nin0))).keep KA3 (ninS (Nat.ne_of_lt (Nat.lt_of_lt_of_le G0.lt (Nat.le_of_eq g291.symm))) (ninS ne2s0 nin0)) (ninS (Nat.ne_of_lt (Nat.lt_of_lt_of_le G0.lt' (Nat.le_of_eq g291.symm))) (ninS ne2t0 nin0))).ext el1).keep KA4 (ninS (Nat.ne_of_lt (Nat.lt_of_lt_of_le G0.lt (Nat.le_of_eq g291.symm))) (ninS ne3s0 nin0)) (ninS (Nat.ne_of_lt (Nat.lt_of_lt_of_le G0.lt' (Nat.le_of_eq g291.symm))) (ninS ne3t0 nin0))).lt' q))
  have ne5s1 : s1 ≠ d5 := hd5.elim (fun q => q ▸ ne4s1) (fun q => Nat.ne_of_lt (Nat.lt_of_lt_of_le ((((((((G1.ext e293).keep KB (ninS (Nat.ne_of_lt (Nat.lt_of_lt_of_le G1.lt (Nat.le_of_eq g291.symm))) nin0) (ninS (Nat.ne_of_lt (Nat.lt_of_lt_of_le G1.lt' (Nat.le_of_eq g291.symm))) nin0)).keep KA1 (ninS (Nat.ne_of_lt (Nat.lt_of_lt_of_le G1.lt (Nat.le_of_eq g291.symm))) (ninS (Nat.ne_of_lt (Nat.lt_of_lt_of_le (G1.ext e293).lt gd0)) nin0)) (ninS (Nat.ne_of_lt (Nat.lt_of_lt_of_le G1.lt' (Nat.le_of_eq g291.symm))) (ninS (Nat.ne_of_lt (Nat.lt_of_lt_of_le (G1.ext e293).lt' gd0)) nin0))).ext el0).keep KA2 (ninS (Nat.ne_of_lt (Nat.lt_of_lt_of_le G1.lt (Nat.le_of_eq g291.symm))) (ninS ne1s1 nin0)) (ninS (Nat.ne_of_lt (Nat.lt_of_lt_of_le G1.lt' (Nat.le_of_eq g291.symm))) (ninS ne1t1 nin0))).keep KA3 (ninS (Nat.ne_of_lt (Nat.lt_of_lt_of_le G1.lt (Nat.le_of_eq g291.symm))) (ninS ne2s1 nin0)) (ninS (Nat.ne_of_lt (Nat.lt_of_lt_of_le G1.lt' (Nat.le_of_eq g291.symm))) (ninS ne2t1 nin0))).ext el1).keep KA4 (ninS (Nat.ne_of_lt (Nat.lt_of_lt_of_le G1.lt (Nat.le_of_eq g291.symm))) (ninS ne3s1 nin0)) (ninS (Nat.ne_of_lt (Nat.lt_of_lt_of_le G1.lt' (Nat.le_of_eq g291.symm))) (ninS ne3t1 nin0))).lt q))
  have ne5t1 : t1 ≠ d5 := hd5.elim (fun q => q ▸ ne4t1) (fun q => Nat.ne_of_lt (Nat.lt_of_lt_of_le ((((((((G1.ext e293).keep KB (ninS (Nat.ne_of_lt (Nat.lt_of_lt_of_le G1.lt (Nat.le_of_eq g291.symm))) nin0) (ninS (Nat.ne_of_lt (Nat.lt_of_lt_of_le G1.lt' (Nat.le_of_eq g291.symm))) nin0)).keep KA1 (ninS (Nat.ne_of_lt (Nat.lt_of_lt_of_le G1.lt (Nat.le_of_eq g291.symm))) (ninS (Nat.ne_of_lt (Nat.lt_of_lt_of_le (G1.ext e293).lt gd0)) nin0)) (ninS (Nat.ne_of_lt (Nat.lt_of_lt_of_le G1.lt' (Nat.le_of_eq g291.symm))) (ninS (Nat.ne_of_lt (Nat.lt_of_lt_of_le (G1.ext e293).lt' gd0)) nin0))).ext el0).keep KA2 (ninS (Nat.ne_of_lt (Nat.lt_of_lt_of_le G1.lt (Nat.le_of_eq g291.symm))) (ninS ne1s1 nin0)) (ninS (Nat.ne_of_lt (Nat.lt_of_lt_of_le G1.lt' (Nat.le_of_eq g291.symm))) (ninS ne1t1 nin0))).keep KA3 (ninS (Nat.ne_of_lt (Nat.lt_of_lt_of_le G1.lt (Nat.le_of_eq g291.symm))) (ninS ne2s1 nin0)) (ninS (Nat.ne_of_lt (Nat.lt_of_lt_of_le G1.lt' (Nat.le_of_eq g291.symm))) (ninS ne2t1 nin0))).ext el1).keep KA4 (ninS (Nat.ne_of_lt (Nat.lt_of_lt_of_le G1.lt (Nat.le_of_eq g291.symm))) (ninS ne3s1 nin0)) (ninS (Nat.ne_of_lt (Nat.lt_of_lt_of_le G1.lt' (Nat.le_of_eq g291.symm))) (ninS ne3t1 nin0))).lt' q))
  have ne5s2 : s2 ≠ d5 := hd5.elim (fun q => q ▸ ne4s2) (fun q => Nat.ne_of_lt (Nat.lt_of_lt_of_le ((((((((G2.ext e293).keep KB (ninS (Nat.ne_of_lt (Nat.lt_of_lt_of_le G2.lt (Nat.le_of_eq g291.symm))) nin0) (ninS (Nat.ne_of_lt (Nat.lt_of_lt_of_le G2.lt' (Nat.le_of_eq g291.symm))) nin0)).keep KA1 (ninS (Nat.ne_of_lt (Nat.lt_of_lt_of_le G2.lt (Nat.le_of_eq g291.symm))) (ninS (Nat.ne_of_lt (Nat.lt_of_lt_of_le (G2.ext e293).lt gd0)) nin0)) (ninS (Nat.ne_of_lt (Nat.lt_of_lt_of_le G2.lt' (Nat.le_of_eq g291.symm))) (ninS (Nat.ne_of_lt (Nat.lt_of_lt_of_le (G2.ext e293).lt' gd0)) nin0))).ext el0).keep KA2 (ninS (Nat.ne_of_lt (Nat.lt_of_lt_of_le G2.lt (Nat.le_of_eq g291.symm))) (ninS ne1s2 nin0)) (ninS (Nat.ne_of_lt (Nat.lt_of_lt_of_le G2.lt' (Nat.le_of_eq g291.symm))) (ninS ne1t2 nin0))).keep KA3 (ninS (Nat.ne_of_lt (Nat.lt_of_lt_of_le G2.lt (Nat.le_of_eq g291.symm))) (ninS ne2s2 nin0)) (ninS (Nat.ne_of_lt (Nat.lt_of_lt_of_le G2.lt' (Nat.le_of_eq g291.symm))) (ninS ne2t2 nin0))).ext el1).keep KA4 (ninS (Nat.ne_of_lt (Nat.lt_of_lt_of_le G2.lt (Nat.le_of_eq g291.symm))) (ninS ne3s2 nin0)) (ninS (Nat.ne_of_lt (Nat.lt_of_lt_of_le G2.lt' (Nat.le_of_eq g291.symm))) (ninS ne3t2 nin0))).lt q))
  have ne5t2 : t2 ≠ d5 := hd5.elim (fun q => q ▸ ne4t2) (fun q => Nat.ne_of_lt (Nat.lt_of_lt_of_le ((((((((G2.ext e293).keep KB (ninS (Nat.ne_of_lt (Nat.lt_of_lt_of_le G2.lt (Nat.le_of_eq g291.symm))) nin0) (ninS (Nat.ne_of_lt (Nat.lt_of_lt_of_le G2.lt' (Nat.le_of_eq g291.symm))) nin0)).keep KA1 (ninS (Nat.ne_of_lt (Nat.lt_of_lt_of_le G2.lt (Nat.le_of_eq g291.symm))) (ninS (Nat.ne_of_lt (Nat.lt_of_lt_of_le (G2.ext e293).lt gd0)) nin0)) (ninS (Nat.ne_of_lt (Nat.lt_of_lt_of_le G2.lt' (Nat.le_of_eq g291.symm))) (ninS (Nat.ne_of_lt (Nat.lt_of_lt_of_le (G2.ext e293).lt' gd0)) nin0))).ext el0).keep KA2 (ninS (Nat.ne_of_lt (Nat.lt_of_lt_of_le G2.lt (Nat.le_of_eq g291.symm))) (ninS ne1s2 nin0)) (ninS (Nat.ne_of_lt (Nat.lt_of_lt_of_le G2.lt' (Nat.le_of_eq g291.symm))) (ninS ne1t2 nin0))).keep KA3 (ninS (Nat.ne_of_lt (Nat.lt_of_lt_of_le G2.lt (Nat.le_of_eq g291.symm))) (ninS ne2s2 nin0)) (ninS (Nat.ne_of_lt (Nat.lt_of_lt_of_le G2.lt' (Nat.le_of_eq g291.symm))) (ninS ne2t2 nin0))).ext el1).keep KA4 (ninS (Nat.ne_of_lt (Nat.lt_of_lt_of_le G2.lt (Nat.le_of_eq g291.symm))) (ninS ne3s2 nin0)) (ninS (Nat.ne_of_lt (Nat.lt_of_lt_of_le G2.lt' (Nat.le_of_eq g291.symm))) (ninS ne3t2 nin0))).lt' q))
  have ne5l0 : l0 ≠ d5 := hd5.elim (fun q => q ▸ ne4l0) (fun q => Nat.ne_of_lt (Nat.lt_of_lt_of_le ((((Gl0.keep KA2 (ninS (Ne.symm (nl0 b290 (by simp)).1) (ninS (Ne.symm (nl0 d1 (by simp)).1) nin0)) (ninS (Ne.symm (nl0 b290 (by simp)).2) (ninS (Ne.symm (nl0 d1 (by simp)).2) nin0))).keep KA3 (ninS (Ne.symm (nl0 b290 (by simp)).1) (ninS ne2l0 nin0)) (ninS (Ne.symm (nl0 b290 (by simp)).2) (ninS ne2u0 nin0))).ext el1).keep KA4 (ninS (Ne.symm (nl0 b290 (by simp)).1) (ninS ne3l0 nin0)) (ninS (Ne.symm (nl0 b290 (by simp)).2) (ninS ne3u0 nin0))).lt q))
  have ne5u0 : u0 ≠ d5 := hd5.elim (fun q => q ▸ ne4u0) (fun q => Nat.ne_of_lt (Nat.lt_of_lt_of_le ((((Gl0.keep KA2 (ninS (Ne.symm (nl0 b290 (by simp)).1) (ninS (Ne.symm (nl0 d1 (by simp)).1) nin0)) (ninS (Ne.symm (nl0 b290 (by simp)).2) (ninS (Ne.symm (nl0 d1 (by simp)).2) nin0))).keep KA3 (ninS (Ne.symm (nl0 b290 (by simp)).1) (ninS ne2l0 nin0)) (ninS (Ne.symm (nl0 b290 (by simp)).2) (ninS ne2u0 nin0))).ext el1).keep KA4 (ninS (Ne.symm (nl0 b290 (by simp)).1) (ninS ne3l0 nin0)) (ninS (Ne.symm (nl0 b290 (by simp)).2) (ninS ne3u0 nin0))).lt' q))
  have ne5l1 : l1 ≠ d5 := hd5.elim (fun q => q ▸ ne4l1) (fun q => Nat.ne_of_lt (Nat.lt_of_lt_of_le (Gl1.keep KA4 (ninS (Ne.symm (nl1 b290 (by simp)).1) (ninS (Ne.symm (nl1 d3 (by simp)).1) nin0)) (ninS (Ne.symm (nl1 b290 (by simp)).2) (ninS (Ne.symm (nl1 d3 (by simp)).2) nin0))).lt q))
  have ne5u1 : u1 ≠ d5 := hd5.elim (fun q => q ▸ ne4u1) (fun q => Nat.ne_of_lt (Nat.lt_of_lt_of_le (Gl1.keep KA4 (ninS (Ne.symm (nl1 b290 (by simp)).1) (ninS (Ne.symm (nl1 d3 (by simp)).1) nin0)) (ninS (Ne.symm (nl1 b290 (by simp)).2) (ninS (Ne.symm (nl1 d3 (by simp)).2) nin0))).lt' q))
  have ne5v : v ≠ d5 := hd5.elim (fun q => q ▸ ne4v) (fun q => Nat.ne_of_lt (Nat.lt_of_lt_of_le ((((((((F0.ext e293).keep KB (ninS (Nat.ne_of_lt (Nat.lt_of_lt_of_le F0.lt (Nat.le_of_eq g291.symm))) nin0)).keep KA1 (ninS (Nat.ne_of_lt (Nat.lt_of_lt_of_le F0.lt (Nat.le_of_eq g291.symm))) (ninS (Nat.ne_of_lt (Nat.lt_of_lt_of_le (F0.ext e293).lt gd0)) nin0))).ext el0).keep KA2 (ninS (Nat.ne_of_lt (Nat.lt_of_lt_of_le F0.lt (Nat.le_of_eq g291.symm))) (ninS ne1v nin0))).keep KA3 (ninS (Nat.ne_of_lt (Nat.lt_of_lt_of_le F0.lt (Nat.le_of_eq g291.symm))) (ninS ne2v nin0))).ext el1).keep KA4 (ninS (Nat.ne_of_lt (Nat.lt_of_lt_of_le F0.lt (Nat.le_of_eq g291.symm))) (ninS ne3v nin0))).lt q))
  have gd5 : h0.size ≤ d5 := hd5.elim (fun q => q ▸ gd4') (fun q => Nat.le_trans (Nat.le_trans (Nat.le_trans (Nat.le_trans (Nat.le_trans (Nat.le_trans (Nat.le_trans (Nat.le_trans (Nat.le_trans (Nat.le_refl _) e293.1) KB.1) KA1.1) el0.1) KA2.1) KA3.1) el1.1) KA4.1) q)
  have gd5' := gd5
  show W.Go _ _ _ _ _ _ _ _ _ _ _ (mkF m 38 #[.val (.ref v)] [(.ref b290)])
  refine W.o_ldcT X rfl (pc' := 40) d_prog_9_method_2_38 rfl (hw _ (List.mem_of_getElem? (i := 117) rfl)) hwS (by decide) (vs := ([41] : List Int32).map lo) (z := 1) ⟨by decide, by decide⟩ (by decide) (by decide) (nn := 4) (by decide) (by decide) (by decide) (by decide) (fun T hl2 l2 u2 kl2 el2 El2 Cl2 Vl2 Bl2 nl2 X => ?_)
  have Gl2 : Str Z hl2 l2 u2 [41] := ⟨El2, Cl2, Vl2, ⟨kl2, Bl2⟩, by decide, by decide⟩
  have f340 := (B5.ext el2)
  have f343 := (B5.1.ext el2)
  refine W.o_virtual X (pc' := 43) d_prog_9_method_2_40 rfl (u := (⟨"java/lang/StringBuilder", "append", "(Ljava/lang/String;)Ljava/lang/StringBuilder;"⟩ : MethodName)) (z := (⟨"java/lang/StringBuilder", "append", "(Ljava/lang/String;)Ljava/lang/StringBuilder;"⟩ : MethodName)) (hw _ (List.mem_of_getElem? (i := 67) rfl)) (hw _ (List.mem_of_getElem? (i := 68) rfl)) (fun s' hZ => notFace_of_selects (args := #[]) (mvT hZ (hw _ (List.mem_of_getElem? (i := 70) rfl)))) (hw _ (List.mem_of_getElem? (i := 70) rfl)) (hw _ (List.mem_of_getElem? (i := 69) rfl)) (hw _ (List.mem_of_getElem? (i := 51) rfl)) (hw _ (List.mem_of_getElem? (i := 71) rfl)) (by decide) f343 (ctAppS l Z a0 hw b290 d5 l2 u2 cap5 ((((cs0 ++ [32, 105, 115, 32, 34]) ++ cs1) ++ [34, 32, 40, 102, 114, 111, 109, 32]) ++ cs2) [41] cz hl2 C0 hcz (by simp only [List.length_append, List.length_cons, List.length_nil]; omega) (Ne.symm (nl2 d5 (by simp)).2) f340 Gl2) (allS ⟨(B5.ext el2).lt', (Or.inr (Or.inl (by simp)))⟩ all0) [(.ref l2)] rfl (rest := []) rfl pd__Ljava_lang_String__Ljava_lang_StringBuilder_ rfl rfl (by decide) (by exact Nat.le_of_ble_eq_true rfl) (by decide) (by decide) (fun v341 T q342 => ?_)
  obtain ⟨h346, S344, ⟨rfl, KA6, d6, cap6, hd6, B6, sd6⟩, X345⟩ := q342
  have X := X345 [d6] (allS ⟨B6.lt', sd6⟩ all0)
  have ne6s0 : s0 ≠ d6 := hd6.elim (fun q => q ▸ ne5s0) (fun q => Nat.ne_of_lt (Nat.lt_of_lt_of_le ((((((((((G0.ext e293).keep KB (ninS (Nat.ne_of_lt (Nat.lt_of_lt_of_le G0.lt (Nat.le_of_eq g291.symm))) nin0) (ninS (Nat.ne_of_lt (Nat.lt_of_lt_of_le G0.lt' (Nat.le_of_eq g291.symm))) nin0)).keep KA1 (ninS (Nat.ne_of_lt (Nat.lt_of_lt_of_le G0.lt (Nat.le_of_eq g291.symm))) (ninS (Nat.ne_of_lt (Nat.lt_of_lt_of_le (G0.ext e293).lt gd0)) nin0)) (ninS (Nat.ne_of_lt (Nat.lt_of_lt_of_le G0.lt' (Nat.le_of_eq g291.symm))) (ninS (Nat.ne_of_lt (Nat.lt_of_lt_of_le (G0.ext e293).lt' gd0)) nin0))).ext el0).keep KA2 (ninS (Nat.ne_of_lt (Nat.lt_of_lt_of_le G0.lt (Nat.le_of_eq g291.symm))) (ninS ne1s0 nin0)) (ninS (Nat.ne_of_lt (Nat.lt_of_lt_of_le G0.lt' (Nat.le_of_eq g291.symm))) (ninS ne1t0 nin0))).keep KA3 (ninS (Nat.ne_of_lt (Nat.lt_of_lt_of_le G0.lt (Nat.le_of_eq g291.symm))) (ninS ne2s0 nin0)) (ninS (Nat.ne_of_lt (Nat.lt_of_lt_of_le G0.lt' (Nat.le_of_eq g291.symm))) (ninS ne2t0 nin0))).ext el1).keep KA4 (ninS (Nat.ne_of_lt (Nat.lt_of_lt_of_le G0.lt (Nat.le_of_eq g291.symm))) (ninS ne3s0 nin0)) (ninS (Nat.ne_of_lt (Nat.lt_of_lt_of_le G0.lt' (Nat.le_of_eq g291.symm))) (ninS ne3t0 nin0))).keep KA5 (ninS (Nat.ne_of_lt (Nat.lt_of_lt_of_le G0.lt (Nat.le_of_eq g291.symm))) (ninS ne4s0 nin0)) (ninS (Nat.ne_of_lt (Nat.lt_of_lt_of_le G0.lt' (Nat.le_of_eq g291.symm))) (ninS ne4t0 nin0))).ext el2).lt q))
  have ne6t0 : t0 ≠ d6 := hd6.elim (fun q => q ▸ ne5t0) (fun q => Nat.ne_of_lt (Nat.lt_of_lt_of_le ((((((((((G0.ext e293).keep KB (ninS (Nat.ne_of_lt (Nat.lt_of_lt_of_le G0.lt (Nat.le_of_eq g291.symm))) nin0) (ninS (Nat.ne_of_lt (Nat.lt_of_lt_of_le G0.lt' (Nat.le_of_eq g291.symm))) nin0)).keep KA1 (ninS (Nat.ne_of_lt (Nat.lt_of_lt_of_le G0.lt (Nat.le_of_eq g291.symm))) (ninS (Nat.ne_of_lt (Nat.lt_of_lt_of_le (G0.ext e293).lt gd0)) nin0)) (ninS (Nat.ne_of_lt (Nat.lt_of_lt_of_le G0.lt' (Nat.le_of_eq g291.symm))) (ninS (Nat.ne_of_lt (Nat.lt_of_lt_of_le (G0.ext e293).lt' gd0)) nin0))).ext el0).keep KA2 (ninS (Nat.ne_of_lt (Nat.lt_of_lt_of_le G0.lt (Nat.le_of_eq g291.symm))) (ninS ne1s0 nin0)) (ninS (Nat.ne_of_lt (Nat.lt_of_lt_of_le G0.lt' (Nat.le_of_eq g291.symm))) (ninS ne1t0 nin0))).keep KA3 (ninS (Nat.ne_of_lt (Nat.lt_of_lt_of_le G0.lt (Nat.le_of_eq g291.symm))) (ninS ne2s0 nin0)) (ninS (Nat.ne_of_lt (Nat.lt_of_lt_of_le G0.lt' (Nat.le_of_eq g291.symm))) (ninS ne2t0 nin0))).ext el1).keep KA4 (ninS (Nat.ne_of_lt (Nat.lt_of_lt_of_le G0.lt (Nat.le_of_eq g291.symm))) (ninS ne3s0 nin0)) (ninS (Nat.ne_of_lt (Nat.lt_of_lt_of_le G0.lt' (Nat.le_of_eq g291.symm))) (ninS ne3t0 nin0))).keep KA5 (ninS (Nat.ne_of_lt (Nat.lt_of_lt_of_le G0.lt (Nat.le_of_eq g291.symm))) (ninS ne4s0 nin0)) (ninS (Nat.ne_of_lt (Nat.lt_of_lt_of_le G0.lt' (Nat.le_of_eq g291.symm))) (ninS ne4t0 nin0))).ext el2).lt' q))
  have ne6s1 : s1 ≠ d6 := hd6.elim (fun q => q ▸ ne5s1) (fun q => Nat.ne_of_lt (Nat.lt_of_lt_of_le ((((((((((G1.ext e293).keep KB (ninS (Nat.ne_of_lt (Nat.lt_of_lt_of_le G1.lt (Nat.le_of_eq g291.symm))) nin0) (ninS (Nat.ne_of_lt (Nat.lt_of_lt_of_le G1.lt' (Nat.le_of_eq g291.symm))) nin0)).keep KA1 (ninS (Nat.ne_of_lt (Nat.lt_of_lt_of_le G1.lt (Nat.le_of_eq g291.symm))) (ninS (Nat.ne_of_lt (Nat.lt_of_lt_of_le (G1.ext e293).lt gd0)) nin0)) (ninS (Nat.ne_of_lt (Nat.lt_of_lt_of_le G1.lt' (Nat.le_of_eq g291.symm))) (ninS (Nat.ne_of_lt (Nat.lt_of_lt_of_le (G1.ext e293).lt' gd0)) nin0))).ext el0).keep KA2 (ninS (Nat.ne_of_lt (Nat.lt_of_lt_of_le G1.lt (Nat.le_of_eq g291.symm))) (ninS ne1s1 nin0)) (ninS (Nat.ne_of_lt (Nat.lt_of_lt_of_le G1.lt' (Nat.le_of_eq g291.symm))) (ninS ne1t1 nin0))).keep KA3 (ninS (Nat.ne_of_lt (Nat.lt_of_lt_of_le G1.lt (Nat.le_of_eq g291.symm))) (ninS ne2s1 nin0)) (ninS (Nat.ne_of_lt (Nat.lt_of_lt_of_le G1.lt' (Nat.le_of_eq g291.symm))) (ninS ne2t1 nin0))).ext el1).keep KA4 (ninS (Nat.ne_of_lt (Nat.lt_of_lt_of_le G1.lt (Nat.le_of_eq g291.symm))) (ninS ne3s1 nin0)) (ninS (Nat.ne_of_lt (Nat.lt_of_lt_of_le G1.lt' (Nat.le_of_eq g291.symm))) (ninS ne3t1 nin0))).keep KA5 (ninS (Nat.ne_of_lt (Nat.lt_of_lt_of_le G1.lt (Nat.le_of_eq g291.symm))) (ninS ne4s1 nin0)) (ninS (Nat.ne_of_lt (Nat.lt_of_lt_of_le G1.lt' (Nat.le_of_eq g291.symm))) (ninS ne4t1 nin0))).ext el2).lt q))
  have ne6t1 : t1 ≠ d6 := hd6.elim (fun q => q ▸ ne5t1) (fun q => Nat.ne_of_lt (Nat.lt_of_lt_of_le ((((((((((G1.ext e293).keep KB (ninS (Nat.ne_of_lt (Nat.lt_of_lt_of_le G1.lt (Nat.le_of_eq g291.symm))) nin0) (ninS (Nat.ne_of_lt (Nat.lt_of_lt_of_le G1.lt' (Nat.le_of_eq g291.symm))) nin0)).keep KA1 (ninS (Nat.ne_of_lt (Nat.lt_of_lt_of_le G1.lt (Nat.le_of_eq g291.symm))) (ninS (Nat.ne_of_lt (Nat.lt_of_lt_of_le (G1.ext e293).lt gd0)) nin0)) (ninS (Nat.ne_of_lt (Nat.lt_of_lt_of_le G1.lt' (Nat.le_of_eq g291.symm))) (ninS (Nat.ne_of_lt (Nat.lt_of_lt_of_le (G1.ext e293).lt' gd0)) nin0))).ext el0).keep KA2 (ninS (Nat.ne_of_lt (Nat.lt_of_lt_of_le G1.lt (Nat.le_of_eq g291.symm))) (ninS ne1s1 nin0)) (ninS (Nat.ne_of_lt (Nat.lt_of_lt_of_le G1.lt' (Nat.le_of_eq g291.symm))) (ninS ne1t1 nin0))).keep KA3 (ninS (Nat.ne_of_lt (Nat.lt_of_lt_of_le G1.lt (Nat.le_of_eq g291.symm))) (ninS ne2s1 nin0)) (ninS (Nat.ne_of_lt (Nat.lt_of_lt_of_le G1.lt' (Nat.le_of_eq g291.symm))) (ninS ne2t1 nin0))).ext el1).keep KA4 (ninS (Nat.ne_of_lt (Nat.lt_of_lt_of_le G1.lt (Nat.le_of_eq g291.symm))) (ninS ne3s1 nin0)) (ninS (Nat.ne_of_lt (Nat.lt_of_lt_of_le G1.lt' (Nat.le_of_eq g291.symm))) (ninS ne3t1 nin0))).keep KA5 (ninS (Nat.ne_of_lt (Nat.lt_of_lt_of_le G1.lt (Nat.le_of_eq g291.symm))) (ninS ne4s1 nin0)) (ninS (Nat.ne_of_lt (Nat.lt_of_lt_of_le G1.lt' (Nat.le_of_eq g291.symm))) (ninS ne4t1 nin0))).ext el2).lt' q))
  have ne6s2 : s2 ≠ d6 := hd6.elim (fun q => q ▸ ne5s2) (fun q => Nat.ne_of_lt (Nat.lt_of_lt_of_le ((((((((((G2.ext e293).keep KB (ninS (Nat.ne_of_lt (Nat.lt_of_lt_of_le G2.lt (Nat.le_of_eq g291.symm))) nin0) (ninS (Nat.ne_of_lt (Nat.lt_of_lt_of_le G2.lt' (Nat.le_of_eq g291.symm))) nin0)).keep KA1 (ninS (Nat.ne_of_lt (Nat.lt_of_lt_of_le G2.lt (Nat.le_of_eq g291.symm))) (ninS (Nat.ne_of_lt (Nat.lt_of_lt_of_le (G2.ext e293).lt gd0)) nin0)) (ninS (Nat.ne_of_lt (Nat.lt_of_lt_of_le G2.lt' (Nat.le_of_eq g291.symm))) (ninS (Nat.ne_of_lt (Nat.lt_of_lt_of_le (G2.ext e293).lt' gd0)) nin0))).ext el0).keep KA2 (ninS (Nat.ne_of_lt (Nat.lt_of_lt_of_le G2.lt (Nat.le_of_eq g291.symm))) (ninS ne1s2 nin0)) (ninS (Nat.ne_of_lt (Nat.lt_of_lt_of_le G2.lt' (Nat.le_of_eq g291.symm))) (ninS ne1t2 nin0))).keep KA3 (ninS (Nat.ne_of_lt (Nat.lt_of_lt_of_le G2.lt (Nat.le_of_eq g291.symm))) (ninS ne2s2 nin0)) (ninS (Nat.ne_of_lt (Nat.lt_of_lt_of_le G2.lt' (Nat.le_of_eq g291.symm))) (ninS ne2t2 nin0))).ext el1).keep KA4 (ninS (Nat.ne_of_lt (Nat.lt_of_lt_of_le G2.lt (Nat.le_of_eq g291.symm))) (ninS ne3s2 nin0)) (ninS (Nat.ne_of_lt (Nat.lt_of_lt_of_le G2.lt' (Nat.le_of_eq g291.symm))) (ninS ne3t2 nin0))).keep KA5 (ninS (Nat.ne_of_lt (Nat.lt_of_lt_of_le G2.lt (Nat.le_of_eq g291.symm))) (ninS ne4s2 nin0)) (ninS (Nat.ne_of_lt (Nat.lt_of_lt_of_le G2.lt' (Nat.le_of_eq g291.symm))) (ninS ne4t2 nin0))).ext el2).lt q))
  have ne6t2 : t2 ≠ d6 := hd6.elim (fun q => q ▸ ne5t2) (fun q => Nat.ne_of_lt (Nat.lt_of_lt_of_le ((((((((((G2.ext e293).keep KB (ninS (Nat.ne_of_lt (Nat.lt_of_lt_of_le G2.lt (Nat.le_of_eq g291.symm))) nin0) (ninS (Nat.ne_of_lt (Nat.lt_of_lt_of_le G2.lt' (Nat.le_of_eq g291.symm))) nin0)).keep KA1 (ninS (Nat.ne_of_lt (Nat.lt_of_lt_of_le G2.lt (Nat.le_of_eq g291.symm))) (ninS (Nat.ne_of_lt (Nat.lt_of_lt_of_le (G2.ext e293).lt gd0)) nin0)) (ninS (Nat.ne_of_lt (Nat.lt_of_lt_of_le G2.lt' (Nat.le_of_eq g291.symm))) (ninS (Nat.ne_of_lt (Nat.lt_of_lt_of_le (G2.ext e293).lt' gd0)) nin0))).ext el0).keep KA2 (ninS (Nat.ne_of_lt (Nat.lt_of_lt_of_le G2.lt (Nat.le_of_eq g291.symm))) (ninS ne1s2 nin0)) (ninS (Nat.ne_of_lt (Nat.lt_of_lt_of_le G2.lt' (Nat.le_of_eq g291.symm))) (ninS ne1t2 nin0))).keep KA3 (ninS (Nat.ne_of_lt (Nat.lt_of_lt_of_le G2.lt (Nat.le_of_eq g291.symm))) (ninS ne2s2 nin0)) (ninS (Nat.ne_of_lt (Nat.lt_of_lt_of_le G2.lt' (Nat.le_of_eq g291.symm))) (ninS ne2t2 nin0))).ext el1).keep KA4 (ninS (Nat.ne_of_lt (Nat.lt_of_lt_of_le G2.lt (Nat.le_of_eq g291.symm))) (ninS ne3s2 nin0)) (ninS (Nat.ne_of_lt (Nat.lt_of_lt_of_le G2.lt' (Nat.le_of_eq g291.symm))) (ninS ne3t2 nin0))).keep KA5 (ninS (Nat.ne_of_lt (Nat.lt_of_lt_of_le G2.lt (Nat.le_of_eq g291.symm))) (ninS ne4s2 nin0)) (ninS (Nat.ne_of_lt (Nat.lt_of_lt_of_le G2.lt' (Nat.le_of_eq g291.symm))) (ninS ne4t2 nin0))).ext el2).lt' q))
  have ne6l0 : l0 ≠ d6 := hd6.elim (fun q => q ▸ ne5l0) (fun q => Nat.ne_of_lt (Nat.lt_of_lt_of_le ((((((Gl0.keep KA2 (ninS (Ne.symm (nl0 b290 (by simp)).1) (ninS (Ne.symm (nl0 d1 (by simp)).1) nin0)) (ninS (Ne.symm (nl0 b290 (by simp)).2) (ninS (Ne.symm (nl0 d1 (by simp)).2) nin0))).keep KA3 (ninS (Ne.symm (nl0 b290 (by simp)).1) (ninS ne2l0 nin0)) (ninS (Ne.symm (nl0 b290 (by simp)).2) (ninS ne2u0 nin0))).ext el1).keep KA4 (ninS (Ne.symm (nl0 b290 (by simp)).1) (ninS ne3l0 nin0)) (ninS (Ne.symm (nl0 b290 (by simp)).2) (ninS ne3u0 nin0))).keep KA5 (ninS (Ne.symm (nl0 b290 (by simp)).1) (ninS ne4l0 nin0)) (ninS (Ne.symm (nl0 b290 (by simp)).2) (ninS ne4u0 nin0))).ext el2).lt q))
  have ne6u0 : u0 ≠ d6 := hd6.elim (fun q => q ▸ ne5u0) (fun q => Nat.ne_of_lt (Nat.lt_of_lt_of_le ((((((Gl0.keep KA2 (ninS (Ne.symm (nl0 b290 (by simp)).1) (ninS (Ne.symm (nl0 d1 (by simp)).1) nin0)) (ninS (Ne.symm (nl0 b290 (by simp)).2) (ninS (Ne.symm (nl0 d1 (by simp)).2) nin0))).keep KA3 (ninS (Ne.symm (nl0 b290 (by simp)).1) (ninS ne2l0 nin0)) (ninS (Ne.symm (nl0 b290 (by simp)).2) (ninS ne2u0 nin0))).ext el1).keep KA4 (ninS (Ne.symm (nl0 b290 (by simp)).1) (ninS ne3l0 nin0)) (ninS (Ne.symm (nl0 b290 (by simp)).2) (ninS ne3u0 nin0))).keep KA5 (ninS (Ne.symm (nl0 b290 (by simp)).1) (ninS ne4l0 nin0)) (ninS (Ne.symm (nl0 b290 (by simp)).2) (ninS ne4u0 nin0))).ext el2).lt' q))
  have ne6l1 : l1 ≠ d6 := hd6.elim (fun q => q ▸ ne5l1) (fun q => Nat.ne_of_lt (Nat.lt_of_lt_of_le (((Gl1.keep KA4 (ninS (Ne.symm (nl1 b290 (by simp)).1) (ninS (Ne.symm (nl1 d3 (by simp)).1) nin0)) (ninS (Ne.symm (nl1 b290 (by simp)).2) (ninS (Ne.symm (nl1 d3 (by simp)).2) nin0))).keep KA5 (ninS (Ne.symm (nl1 b290 (by simp)).1) (ninS ne4l1 nin0)) (ninS (Ne.symm (nl1 b290 (by simp)).2) (ninS ne4u1 nin0))).ext el2).lt q))
  have ne6u1 : u1 ≠ d6 := hd6.elim (fun q => q ▸ ne5u1) (fun q => Nat.ne_of_lt (Nat.lt_of_lt_of_le (((Gl1.keep KA4 (ninS (Ne.symm (nl1 b290 (by simp)).1) (ninS (Ne.symm (nl1 d3 (by simp)).1) nin0)) (ninS (Ne.symm (nl1 b290 (by simp)).2) (ninS (Ne.symm (nl1 d3 (by simp)).2) nin0))).keep KA5 (ninS (Ne.symm (nl1 b290 (by simp)).1) (ninS ne4l1 nin0)) (ninS (Ne.symm (nl1 b290 (by simp)).2) (ninS ne4u1 nin0))).ext el2).lt' q))
  have ne6l2 : l2 ≠ d6 := hd6.elim (fun q => q ▸ (Ne.symm (nl2 d5 (by simp)).1)) (fun q => Nat.ne_of_lt (Nat.lt_of_lt_of_le Gl2.lt q))
  have ne6u2 : u2 ≠ d6 := hd6.elim (fun q => q ▸ (Ne.symm (nl2 d5 (by simp)).2)) (fun q => Nat.ne_of_lt (Nat.lt_of_lt_of_le Gl2.lt' q))
  have ne6v : v ≠ d6 := hd6.elim (fun q => q ▸ ne5v) (fun q => Nat.ne_of_lt (Nat.lt_of_lt_of_le ((((((((((F0.ext e293).keep KB (ninS (Nat.ne_of_lt (Nat.lt_of_lt_of_le F0.lt (Nat.le_of_eq g291.symm))) nin0)).keep KA1 (ninS (Nat.ne_of_lt (Nat.lt_of_lt_of_le F0.lt (Nat.le_of_eq g291.symm))) (ninS (Nat.ne_of_lt (Nat.lt_of_lt_of_le (F0.ext e293).lt gd0)) nin0))).ext el0).keep KA2 (ninS (Nat.ne_of_lt (Nat.lt_of_lt_of_le F0.lt (Nat.le_of_eq g291.symm))) (ninS ne1v nin0))).keep KA3 (ninS (Nat.ne_of_lt (Nat.lt_of_lt_of_le F0.lt (Nat.le_of_eq g291.symm))) (ninS ne2v nin0))).ext el1).keep KA4 (ninS (Nat.ne_of_lt (Nat.lt_of_lt_of_le F0.lt (Nat.le_of_eq g291.symm))) (ninS ne3v nin0))).keep KA5 (ninS (Nat.ne_of_lt (Nat.lt_of_lt_of_le F0.lt (Nat.le_of_eq g291.symm))) (ninS ne4v nin0))).ext el2).lt q))
  have gd6 : h0.size ≤ d6 := hd6.elim (fun q => q ▸ gd5') (fun q => Nat.le_trans (Nat.le_trans (Nat.le_trans (Nat.le_trans (Nat.le_trans (Nat.le_trans (Nat.le_trans (Nat.le_trans (Nat.le_trans (Nat.le_trans (Nat.le_trans (Nat.le_refl _) e293.1) KB.1) KA1.1) el0.1) KA2.1) KA3.1) el1.1) KA4.1) KA5.1) el2.1) q)
  have gd6' := gd6
  show W.Go _ _ _ _ _ _ _ _ _ _ _ (mkF m 43 #[.val (.ref v)] [(.ref b290)])
  refine W.o_virtual X (pc' := 46) d_prog_9_method_2_43 rfl (u := (⟨"java/lang/StringBuilder", "toString", "()Ljava/lang/String;"⟩ : MethodName)) (z := (⟨"java/lang/StringBuilder", "toString", "()Ljava/lang/String;"⟩ : MethodName)) (hw _ (List.mem_of_getElem? (i := 118) rfl)) (hw _ (List.mem_of_getElem? (i := 119) rfl)) (fun s' hZ => notFace_of_selects (args := #[]) (mvT hZ (hw _ (List.mem_of_getElem? (i := 121) rfl)))) (hw _ (List.mem_of_getElem? (i := 121) rfl)) (hw _ (List.mem_of_getElem? (i := 120) rfl)) (hw _ (List.mem_of_getElem? (i := 51) rfl)) (hw _ (List.mem_of_getElem? (i := 122) rfl)) (by decide) B6.1 (ctTS l Z a0 hw b290 d6 cap6 (((((cs0 ++ [32, 105, 115, 32, 34]) ++ cs1) ++ [34, 32, 40, 102, 114, 111, 109, 32]) ++ cs2) ++ [41]) cz h346 C0 hcz B6) (fun _ q => nomatch q) [] rfl (rest := []) rfl pd___Ljava_lang_String_ rfl rfl (by decide) (by exact Nat.le_of_ble_eq_true rfl) (by decide) (by decide) (fun v347 T q348 => ?_)
  obtain ⟨h351, S349, ⟨r, tr, rfl, KT, gr, RR⟩, X350⟩ := q348
  have X := X350 [] all0
  show W.Go _ _ _ _ _ _ _ _ _ _ _ (mkF m 46 #[.val (.ref v)] [(.ref r)])
  exact W.o_areturn X d_prog_9_method_2_46 rfl rfl rfl (by decide) (by decide) fun P hP => ⟨r, tr, rfl, (((((((((((((Keep.refl h0 []).ext e293).trans KB (allS (Or.inr (Nat.le_trans (Nat.le_refl _) (Nat.le_of_eq g291.symm))) all0)).trans KA1 (allS (Or.inr (Nat.le_trans (Nat.le_refl _) (Nat.le_of_eq g291.symm))) (allS (Or.inr gd0') all0))).ext el0).trans KA2 (allS (Or.inr (Nat.le_trans (Nat.le_refl _) (Nat.le_of_eq g291.symm))) (allS (Or.inr gd1') all0))).trans KA3 (allS (Or.inr (Nat.le_trans (Nat.le_refl _) (Nat.le_of_eq g291.symm))) (allS (Or.inr gd2') all0))).ext el1).trans KA4 (allS (Or.inr (Nat.le_trans (Nat.le_refl _) (Nat.le_of_eq g291.symm))) (allS (Or.inr gd3') all0))).trans KA5 (allS (Or.inr (Nat.le_trans (Nat.le_refl _) (Nat.le_of_eq g291.symm))) (allS (Or.inr gd4') all0))).ext el2).trans KA6 (allS (Or.inr (Nat.le_trans (Nat.le_refl _) (Nat.le_of_eq g291.symm))) (allS (Or.inr gd5') all0))).trans KT all0), (Nat.le_trans (Nat.le_trans (Nat.le_trans (Nat.le_trans (Nat.le_trans (Nat.le_trans (Nat.le_trans (Nat.le_trans (Nat.le_trans (Nat.le_trans (Nat.le_trans (Nat.le_trans (Nat.le_refl _) e293.1) KB.1) KA1.1) el0.1) KA2.1) KA3.1) el1.1) KA4.1) KA5.1) el2.1) KA6.1) gr), RR⟩
theorem l4 (x : Int32) : (x &&& 255) % 4 = 0 ∨ (x &&& 255) % 4 = 1 ∨ (x &&& 255) % 4 = 2 ∨ (x &&& 255) % 4 = 3 := by
  have r := c_and x 255 (by decide)
  have z3 : (255 : Int32).toInt = 255 := rfl
  have q := (c_irem (x &&& 255) 4 4 rfl).1 r.1
  generalize (x &&& 255) % 4 = k at q
  have e0 : k = 0 ↔ k.toInt = 0 := ⟨fun q => by rw [q]; rfl, fun q => Int32.toInt_inj.mp q⟩
  have e1 : k = 1 ↔ k.toInt = 1 := ⟨fun q => by rw [q]; rfl, fun q => Int32.toInt_inj.mp q⟩
  have e2 : k = 2 ↔ k.toInt = 2 := ⟨fun q => by rw [q]; rfl, fun q => Int32.toInt_inj.mp q⟩
  have e3 : k = 3 ↔ k.toInt = 3 := ⟨fun q => by rw [q]; rfl, fun q => Int32.toInt_inj.mp q⟩
  rw [e0, e1, e2, e3]
  omega
set_option maxRecDepth 65536 in
set_option maxHeartbeats 40000000 in
theorem ctDraw (l : Launch) (Z : State) (a0 : Array Value) (hw : ∀ d ∈ tables_1, d.before a0 Z = true) (x cz : Int32) (h0 : Heap) (C0 : Sta Z Z.heap "java/lang/String" "COMPACT_STRINGS" "Z" (.int cz)) (hcz : ¬ cz = 0) :
    W.Ct wd Z a0 el l (⟨"com/example/kindling/kindling/ValueDescribedPinLaw", "draw", "(I)Ljava/lang/String;"⟩ : MethodName) method_2_code 3 (some (.object "java/lang/String")) ({ frames := 4, cells := 6, slots := 39, locals := 71 } : Room) #[(.int x)] h0 [] (fun v h S => ∃ a t cs, v = some (.ref a) ∧ Keep h0 h [] ∧ h0.size ≤ a ∧ Str Z h a t cs ∧ cs.length ≤ 3) := by
  refine W.Ct.walk hwe (plainFor_of_name pn_com_example_kindling_kindling_ValueDescribedPinLaw) ?_
  intro p e s m below meth c T hE0 X
  refine W.castG (show entryFrame m #[(.int x)] 3 = mkF m 0 #[.val (.int x), .unset, .unset] [] from by first | (simp [entryFrame, mkF, argsToLocals, Value.category]; done) | rfl) ?_
  refine W.o_iloadN X (pc' := 1) d_method_2_0 rfl rfl ?_
  refine W.o_bipush X (24 : Int32) (pc' := 3) d_method_2_1 rfl rfl ?_
  refine W.o_iushr X (pc' := 4) d_method_2_3 rfl ?_
  refine W.o_sipush X (255 : Int32) (pc' := 7) d_method_2_4 rfl rfl ?_
  refine W.o_iand X (pc' := 8) d_method_2_7 rfl ?_
  refine W.o_iconst X (4 : Int32) (pc' := 9) d_method_2_8 rfl rfl ?_
  refine W.o_irem X (pc' := 10) d_method_2_9 rfl (by decide) ?_
  generalize hn : ((((x.toUInt32 >>> ((24 : Int32) &&& 31).toUInt32).toInt32) &&& (255 : Int32)) % (4 : Int32)) = n
  have h4 : n = 0 ∨ n = 1 ∨ n = 2 ∨ n = 3 := hn ▸ l4 _
  rcases h4 with rfl | rfl | rfl | rfl
  · show W.Go _ _ _ _ _ _ _ _ _ _ _ (mkF m 10 #[.val (.int x), .unset, .unset] [(.int (0 : Int32))])
    refine W.o_istoreN X (pc' := 11) d_method_2_10 rfl (L' := #[.val (.int x), .val (.int (0 : Int32)), .unset]) rfl ?_
    refine W.o_iloadN X (pc' := 12) d_method_2_11 rfl rfl ?_
    refine W.o_newarray X (pc' := 14) d_method_2_12 rfl (hw _ (List.mem_of_getElem? (i := 4) rfl)) (by decide) (cap := 0) (by decide) (by decide) (by decide) (by decide) (fun T h352 b353 k354 g355 z356 e357 a358 X => ?_)
    have f360 : Arv Z h352 b353 k354 .char (0 : Int32) [] (.int (0 : Int32)) := a358.pad (pad_rep [] (.int (0 : Int32)) 0)
    refine W.o_astoreN X (pc' := 15) d_method_2_14 rfl (L' := #[.val (.int x), .val (.int (0 : Int32)), .val (.ref b353)]) rfl rfl ?_
    refine W.o_iloadN X (pc' := 16) d_method_2_15 rfl rfl ?_
    refine W.o_ifle X (pt := 28) (pf := 19) d_method_2_16 ⟨by decide, by decide⟩ rfl (fun _ => ?_) (fun hc => absurd hc (by decide))
    refine W.o_iloadN X (pc' := 29) d_method_2_28 rfl rfl ?_
    refine W.o_iconst X (1 : Int32) (pc' := 30) d_method_2_29 rfl rfl ?_
    refine W.o_if_icmple X (pt := 45) (pf := 33) d_method_2_30 ⟨by decide, by decide⟩ rfl (fun _ => ?_) (fun hc => absurd hc (by decide))
    refine W.o_iloadN X (pc' := 46) d_method_2_45 rfl rfl ?_
    refine W.o_iconst X (2 : Int32) (pc' := 47) d_method_2_46 rfl rfl ?_
    refine W.o_if_icmple X (pt := 62) (pf := 50) d_method_2_47 ⟨by decide, by decide⟩ rfl (fun _ => ?_) (fun hc => absurd hc (by decide))
    refine W.o_new X (pc' := 65) d_method_2_62 rfl (hw _ (List.mem_of_getElem? (i := 5) rfl)) (hw _ (List.mem_of_getElem? (i := 6) rfl)) (hw _ (List.mem_of_getElem? (i := 7) rfl)) (by decide) (by decide) (fun T h361 b362 g363 z364 e365 a366 D367 X => ?_)
    have f368 : Fld Z h361 b362 "java/lang/String" "value" "[B" .null := D367 (Or.inr (hw _ (List.mem_of_getElem? (i := 20) rfl))) (ty := (.array .byte)) (by decide)
    have f369 : Fld Z h361 b362 "java/lang/String" "coder" "B" (.int (0 : Int32)) := D367 (Or.inr (hw _ (List.mem_of_getElem? (i := 21) rfl))) (ty := .byte) (by decide)
    refine W.o_dup X (pc' := 66) d_method_2_65 rfl rfl ?_
    refine W.o_aloadN X (pc' := 67) d_method_2_66 rfl rfl rfl ?_
    have f374 := (f360.ext e365)
    refine W.o_special X (pc' := 70) d_method_2_67 rfl (z := (⟨"java/lang/String", "<init>", "([C)V"⟩ : MethodName)) rfl (hw _ (List.mem_of_getElem? (i := 8) rfl)) (hw _ (List.mem_of_getElem? (i := 9) rfl)) (hw _ (List.mem_of_getElem? (i := 7) rfl)) (hw _ (List.mem_of_getElem? (i := 10) rfl)) (by decide) (ctNew1E l Z a0 hw b362 b353 k354 h361 z364 a366 f368 f369 f374) (allS ⟨a366.lt, (Or.inr (Or.inl (by simp)))⟩ all0) [(.ref b353)] rfl (rest := [(.ref b362)]) rfl pd___C_V rfl rfl (by decide) (by exact Nat.le_of_ble_eq_true rfl) (by decide) (by decide) (fun v375 T q376 => ?_)
    obtain ⟨h379, S377, ⟨rfl, K370, t371, R373⟩, X378⟩ := q376
    have X := X378 [] all0
    show W.Go _ _ _ _ _ _ _ _ _ _ _ (mkF m 70 #[.val (.int x), .val (.int (0 : Int32)), .val (.ref b353)] [(.ref b362)])
    exact W.o_areturn X d_method_2_70 rfl rfl rfl (by decide) (by decide) fun P hP => ⟨b362, t371, [], rfl, ((((Keep.refl h0 []).ext e357).ext e365).trans K370 (allS (Or.inr (Nat.le_trans (Nat.le_trans (Nat.le_refl _) e357.1) (Nat.le_of_eq g363.symm))) all0)), (Nat.le_trans (Nat.le_trans (Nat.le_refl _) e357.1) (Nat.le_of_eq g363.symm)), R373, by exact Nat.le_of_ble_eq_true rfl⟩
  · show W.Go _ _ _ _ _ _ _ _ _ _ _ (mkF m 10 #[.val (.int x), .unset, .unset] [(.int (1 : Int32))])
    refine W.o_istoreN X (pc' := 11) d_method_2_10 rfl (L' := #[.val (.int x), .val (.int (1 : Int32)), .unset]) rfl ?_
    refine W.o_iloadN X (pc' := 12) d_method_2_11 rfl rfl ?_
    refine W.o_newarray X (pc' := 14) d_method_2_12 rfl (hw _ (List.mem_of_getElem? (i := 4) rfl)) (by decide) (cap := 1) (by decide) (by decide) (by decide) (by decide) (fun T h380 b381 k382 g383 z384 e385 a386 X => ?_)
    have f388 : Arv Z h380 b381 k382 .char (1 : Int32) [(.int (0 : Int32))] (.int (0 : Int32)) := a386.pad (pad_rep [] (.int (0 : Int32)) 1)
    refine W.o_astoreN X (pc' := 15) d_method_2_14 rfl (L' := #[.val (.int x), .val (.int (1 : Int32)), .val (.ref b381)]) rfl rfl ?_
    refine W.o_iloadN X (pc' := 16) d_method_2_15 rfl rfl ?_
    refine W.o_ifle X (pt := 28) (pf := 19) d_method_2_16 ⟨by decide, by decide⟩ rfl (fun hc => absurd (by decide) hc) (fun _ => ?_)
    refine W.o_aloadN X (pc' := 20) d_method_2_19 rfl rfl rfl ?_
    refine W.o_iconst X (0 : Int32) (pc' := 21) d_method_2_20 rfl rfl ?_
    refine W.o_iloadN X (pc' := 22) d_method_2_21 rfl rfl ?_
    refine W.o_sipush X (255 : Int32) (pc' := 25) d_method_2_22 rfl rfl ?_
    refine W.o_iand X (pc' := 26) d_method_2_25 rfl ?_
    refine W.o_i2c X (pc' := 27) d_method_2_26 rfl ?_
    generalize hc0 : ((x &&& (255 : Int32)).toUInt32.toUInt16.toUInt32.toInt32) = c0
    have qc0 : ¬ c0 < 0 ∧ ¬ 255 < c0 := hc0 ▸ and_ch _
    refine W.o_castore X (pc' := 28) d_method_2_27 rfl f388 0 rfl ⟨by decide, by decide⟩ (by exact Nat.le_of_ble_eq_true rfl) z384 (Or.inr (Or.inl (by simp))) (fun T h389 w390 a391 X => ?_)
    rw [nar_ch qc0.1 (no_big qc0.2)] at a391
    have f392 : Arv Z h389 b381 k382 .char (1 : Int32) [(.int c0)] (.int (0 : Int32)) := a391
    refine W.o_iloadN X (pc' := 29) d_method_2_28 rfl rfl ?_
    refine W.o_iconst X (1 : Int32) (pc' := 30) d_method_2_29 rfl rfl ?_
    refine W.o_if_icmple X (pt := 45) (pf := 33) d_method_2_30 ⟨by decide, by decide⟩ rfl (fun _ => ?_) (fun hc => absurd hc (by decide))
    refine W.o_iloadN X (pc' := 46) d_method_2_45 rfl rfl ?_
    refine W.o_iconst X (2 : Int32) (pc' := 47) d_method_2_46 rfl rfl ?_
    refine W.o_if_icmple X (pt := 62) (pf := 50) d_method_2_47 ⟨by decide, by decide⟩ rfl (fun _ => ?_) (fun hc => absurd hc (by decide))
    refine W.o_new X (pc' := 65) d_method_2_62 rfl (hw _ (List.mem_of_getElem? (i := 5) rfl)) (hw _ (List.mem_of_getElem? (i := 6) rfl)) (hw _ (List.mem_of_getElem? (i := 7) rfl)) (by decide) (by decide) (fun T h393 b394 g395 z396 e397 a398 D399 X => ?_)
    have f400 : Fld Z h393 b394 "java/lang/String" "value" "[B" .null := D399 (Or.inr (hw _ (List.mem_of_getElem? (i := 20) rfl))) (ty := (.array .byte)) (by decide)
    have f401 : Fld Z h393 b394 "java/lang/String" "coder" "B" (.int (0 : Int32)) := D399 (Or.inr (hw _ (List.mem_of_getElem? (i := 21) rfl))) (ty := .byte) (by decide)
    refine W.o_dup X (pc' := 66) d_method_2_65 rfl rfl ?_
    refine W.o_aloadN X (pc' := 67) d_method_2_66 rfl rfl rfl ?_
    have f406 := (f392.ext e397)
    have hl407 : ∀ c ∈ ([c0] : List Int32), ¬ c < 0 ∧ ¬ 255 < c := (allI qc0 (fun _ q => nomatch q))
    refine W.o_special X (pc' := 70) d_method_2_67 rfl (z := (⟨"java/lang/String", "<init>", "([C)V"⟩ : MethodName)) rfl (hw _ (List.mem_of_getElem? (i := 8) rfl)) (hw _ (List.mem_of_getElem? (i := 9) rfl)) (hw _ (List.mem_of_getElem? (i := 7) rfl)) (hw _ (List.mem_of_getElem? (i := 10) rfl)) (by decide) (ctNew1 l Z a0 hw b394 b381 k382 [c0] cz h393 (by exact Nat.le_of_ble_eq_true rfl) (by exact Nat.succ_ne_zero _) hl407 C0 hcz z396 a398 f400 f401 f406) (allS ⟨a398.lt, (Or.inr (Or.inl (by simp)))⟩ all0) [(.ref b381)] rfl (rest := [(.ref b394)]) rfl pd___C_V rfl rfl (by decide) (by exact Nat.le_of_ble_eq_true rfl) (by decide) (by decide) (fun v408 T q409 => ?_)
    obtain ⟨h412, S410, ⟨rfl, K402, t403, g404, R405⟩, X411⟩ := q409
    have X := X411 [] all0
    show W.Go _ _ _ _ _ _ _ _ _ _ _ (mkF m 70 #[.val (.int x), .val (.int (1 : Int32)), .val (.ref b381)] [(.ref b394)])
    exact W.o_areturn X d_method_2_70 rfl rfl rfl (by decide) (by decide) fun P hP => ⟨b394, t403, [c0], rfl, (((((Keep.refl h0 []).ext e385).wr w390 (Or.inr (Nat.le_trans (Nat.le_refl _) (Nat.le_of_eq g383.symm)))).ext e397).trans K402 (allS (Or.inr (Nat.le_trans (Nat.le_trans (Nat.le_trans (Nat.le_refl _) e385.1) (Nat.le_of_eq w390.size.symm)) (Nat.le_of_eq g395.symm))) all0)), (Nat.le_trans (Nat.le_trans (Nat.le_trans (Nat.le_refl _) e385.1) (Nat.le_of_eq w390.size.symm)) (Nat.le_of_eq g395.symm)), R405, by exact Nat.le_of_ble_eq_true rfl⟩
  · show W.Go _ _ _ _ _ _ _ _ _ _ _ (mkF m 10 #[.val (.int x), .unset, .unset] [(.int (2 : Int32))])
    refine W.o_istoreN X (pc' := 11) d_method_2_10 rfl (L' := #[.val (.int x), .val (.int (2 : Int32)), .unset]) rfl ?_
    refine W.o_iloadN X (pc' := 12) d_method_2_11 rfl rfl ?_
    refine W.o_newarray X (pc' := 14) d_method_2_12 rfl (hw _ (List.mem_of_getElem? (i := 4) rfl)) (by decide) (cap := 2) (by decide) (by decide) (by decide) (by decide) (fun T h413 b414 k415 g416 z417 e418 a419 X => ?_)
    have f421 : Arv Z h413 b414 k415 .char (2 : Int32) [(.int (0 : Int32)), (.int (0 : Int32))] (.int (0 : Int32)) := a419.pad (pad_rep [] (.int (0 : Int32)) 2)
    refine W.o_astoreN X (pc' := 15) d_method_2_14 rfl (L' := #[.val (.int x), .val (.int (2 : Int32)), .val (.ref b414)]) rfl rfl ?_
    refine W.o_iloadN X (pc' := 16) d_method_2_15 rfl rfl ?_
    refine W.o_ifle X (pt := 28) (pf := 19) d_method_2_16 ⟨by decide, by decide⟩ rfl (fun hc => absurd (by decide) hc) (fun _ => ?_)
    refine W.o_aloadN X (pc' := 20) d_method_2_19 rfl rfl rfl ?_
    refine W.o_iconst X (0 : Int32) (pc' := 21) d_method_2_20 rfl rfl ?_
    refine W.o_iloadN X (pc' := 22) d_method_2_21 rfl rfl ?_
    refine W.o_sipush X (255 : Int32) (pc' := 25) d_method_2_22 rfl rfl ?_
    refine W.o_iand X (pc' := 26) d_method_2_25 rfl ?_
    refine W.o_i2c X (pc' := 27) d_method_2_26 rfl ?_
    generalize hc0 : ((x &&& (255 : Int32)).toUInt32.toUInt16.toUInt32.toInt32) = c0
    have qc0 : ¬ c0 < 0 ∧ ¬ 255 < c0 := hc0 ▸ and_ch _
    refine W.o_castore X (pc' := 28) d_method_2_27 rfl f421 0 rfl ⟨by decide, by decide⟩ (by exact Nat.le_of_ble_eq_true rfl) z417 (Or.inr (Or.inl (by simp))) (fun T h422 w423 a424 X => ?_)
    rw [nar_ch qc0.1 (no_big qc0.2)] at a424
    have f425 : Arv Z h422 b414 k415 .char (2 : Int32) [(.int c0), (.int (0 : Int32))] (.int (0 : Int32)) := a424
    refine W.o_iloadN X (pc' := 29) d_method_2_28 rfl rfl ?_
    refine W.o_iconst X (1 : Int32) (pc' := 30) d_method_2_29 rfl rfl ?_
    refine W.o_if_icmple X (pt := 45) (pf := 33) d_method_2_30 ⟨by decide, by decide⟩ rfl (fun hc => absurd (by decide) hc) (fun _ => ?_)
    refine W.o_aloadN X (pc' := 34) d_method_2_33 rfl rfl rfl ?_
    refine W.o_iconst X (1 : Int32) (pc' := 35) d_method_2_34 rfl rfl ?_
    refine W.o_iloadN X (pc' := 36) d_method_2_35 rfl rfl ?_
    refine W.o_bipush X (8 : Int32) (pc' := 38) d_method_2_36 rfl rfl ?_
    refine W.o_iushr X (pc' := 39) d_method_2_38 rfl ?_
    refine W.o_sipush X (255 : Int32) (pc' := 42) d_method_2_39 rfl rfl ?_
    refine W.o_iand X (pc' := 43) d_method_2_42 rfl ?_
    refine W.o_i2c X (pc' := 44) d_method_2_43 rfl ?_
    generalize hc1 : ((((x.toUInt32 >>> ((8 : Int32) &&& 31).toUInt32).toInt32) &&& (255 : Int32)).toUInt32.toUInt16.toUInt32.toInt32) = c1
    have qc1 : ¬ c1 < 0 ∧ ¬ 255 < c1 := hc1 ▸ and_ch _
    refine W.o_castore X (pc' := 45) d_method_2_44 rfl f425 1 rfl ⟨by decide, by decide⟩ (by exact Nat.le_of_ble_eq_true rfl) z417 (Or.inr (Or.inl (by simp))) (fun T h426 w427 a428 X => ?_)
    rw [nar_ch qc1.1 (no_big qc1.2)] at a428
    have f429 : Arv Z h426 b414 k415 .char (2 : Int32) [(.int c0), (.int c1)] (.int (0 : Int32)) := a428
    refine W.o_iloadN X (pc' := 46) d_method_2_45 rfl rfl ?_
    refine W.o_iconst X (2 : Int32) (pc' := 47) d_method_2_46 rfl rfl ?_
    refine W.o_if_icmple X (pt := 62) (pf := 50) d_method_2_47 ⟨by decide, by decide⟩ rfl (fun _ => ?_) (fun hc => absurd hc (by decide))
    refine W.o_new X (pc' := 65) d_method_2_62 rfl (hw _ (List.mem_of_getElem? (i := 5) rfl)) (hw _ (List.mem_of_getElem? (i := 6) rfl)) (hw _ (List.mem_of_getElem? (i := 7) rfl)) (by decide) (by decide) (fun T h430 b431 g432 z433 e434 a435 D436 X => ?_)
    have f437 : Fld Z h430 b431 "java/lang/String" "value" "[B" .null := D436 (Or.inr (hw _ (List.mem_of_getElem? (i := 20) rfl))) (ty := (.array .byte)) (by decide)
    have f438 : Fld Z h430 b431 "java/lang/String" "coder" "B" (.int (0 : Int32)) := D436 (Or.inr (hw _ (List.mem_of_getElem? (i := 21) rfl))) (ty := .byte) (by decide)
    refine W.o_dup X (pc' := 66) d_method_2_65 rfl rfl ?_
    refine W.o_aloadN X (pc' := 67) d_method_2_66 rfl rfl rfl ?_
    have f443 := (f429.ext e434)
    have hl444 : ∀ c ∈ ([c0, c1] : List Int32), ¬ c < 0 ∧ ¬ 255 < c := (allI qc0 (allI qc1 (fun _ q => nomatch q)))
    refine W.o_special X (pc' := 70) d_method_2_67 rfl (z := (⟨"java/lang/String", "<init>", "([C)V"⟩ : MethodName)) rfl (hw _ (List.mem_of_getElem? (i := 8) rfl)) (hw _ (List.mem_of_getElem? (i := 9) rfl)) (hw _ (List.mem_of_getElem? (i := 7) rfl)) (hw _ (List.mem_of_getElem? (i := 10) rfl)) (by decide) (ctNew1 l Z a0 hw b431 b414 k415 [c0, c1] cz h430 (by exact Nat.le_of_ble_eq_true rfl) (by exact Nat.succ_ne_zero _) hl444 C0 hcz z433 a435 f437 f438 f443) (allS ⟨a435.lt, (Or.inr (Or.inl (by simp)))⟩ all0) [(.ref b414)] rfl (rest := [(.ref b431)]) rfl pd___C_V rfl rfl (by decide) (by exact Nat.le_of_ble_eq_true rfl) (by decide) (by decide) (fun v445 T q446 => ?_)
    obtain ⟨h449, S447, ⟨rfl, K439, t440, g441, R442⟩, X448⟩ := q446
    have X := X448 [] all0
    show W.Go _ _ _ _ _ _ _ _ _ _ _ (mkF m 70 #[.val (.int x), .val (.int (2 : Int32)), .val (.ref b414)] [(.ref b431)])
    exact W.o_areturn X d_method_2_70 rfl rfl rfl (by decide) (by decide) fun P hP => ⟨b431, t440, [c0, c1], rfl, ((((((Keep.refl h0 []).ext e418).wr w423 (Or.inr (Nat.le_trans (Nat.le_refl _) (Nat.le_of_eq g416.symm)))).wr w427 (Or.inr (Nat.le_trans (Nat.le_refl _) (Nat.le_of_eq g416.symm)))).ext e434).trans K439 (allS (Or.inr (Nat.le_trans (Nat.le_trans (Nat.le_trans (Nat.le_trans (Nat.le_refl _) e418.1) (Nat.le_of_eq w423.size.symm)) (Nat.le_of_eq w427.size.symm)) (Nat.le_of_eq g432.symm))) all0)), (Nat.le_trans (Nat.le_trans (Nat.le_trans (Nat.le_trans (Nat.le_refl _) e418.1) (Nat.le_of_eq w423.size.symm)) (Nat.le_of_eq w427.size.symm)) (Nat.le_of_eq g432.symm)), R442, by exact Nat.le_of_ble_eq_true rfl⟩
  · show W.Go _ _ _ _ _ _ _ _ _ _ _ (mkF m 10 #[.val (.int x), .unset, .unset] [(.int (3 : Int32))])
    refine W.o_istoreN X (pc' := 11) d_method_2_10 rfl (L' := #[.val (.int x), .val (.int (3 : Int32)), .unset]) rfl ?_
    refine W.o_iloadN X (pc' := 12) d_method_2_11 rfl rfl ?_
    refine W.o_newarray X (pc' := 14) d_method_2_12 rfl (hw _ (List.mem_of_getElem? (i := 4) rfl)) (by decide) (cap := 3) (by decide) (by decide) (by decide) (by decide) (fun T h450 b451 k452 g453 z454 e455 a456 X => ?_)
    have f458 : Arv Z h450 b451 k452 .char (3 : Int32) [(.int (0 : Int32)), (.int (0 : Int32)), (.int (0 : Int32))] (.int (0 : Int32)) := a456.pad (pad_rep [] (.int (0 : Int32)) 3)
    refine W.o_astoreN X (pc' := 15) d_method_2_14 rfl (L' := #[.val (.int x), .val (.int (3 : Int32)), .val (.ref b451)]) rfl rfl ?_
    refine W.o_iloadN X (pc' := 16) d_method_2_15 rfl rfl ?_
    refine W.o_ifle X (pt := 28) (pf := 19) d_method_2_16 ⟨by decide, by decide⟩ rfl (fun hc => absurd (by decide) hc) (fun _ => ?_)
    refine W.o_aloadN X (pc' := 20) d_method_2_19 rfl rfl rfl ?_
    refine W.o_iconst X (0 : Int32) (pc' := 21) d_method_2_20 rfl rfl ?_
    refine W.o_iloadN X (pc' := 22) d_method_2_21 rfl rfl ?_
    refine W.o_sipush X (255 : Int32) (pc' := 25) d_method_2_22 rfl rfl ?_
    refine W.o_iand X (pc' := 26) d_method_2_25 rfl ?_
    refine W.o_i2c X (pc' := 27) d_method_2_26 rfl ?_
    generalize hc0 : ((x &&& (255 : Int32)).toUInt32.toUInt16.toUInt32.toInt32) = c0
    have qc0 : ¬ c0 < 0 ∧ ¬ 255 < c0 := hc0 ▸ and_ch _
    refine W.o_castore X (pc' := 28) d_method_2_27 rfl f458 0 rfl ⟨by decide, by decide⟩ (by exact Nat.le_of_ble_eq_true rfl) z454 (Or.inr (Or.inl (by simp))) (fun T h459 w460 a461 X => ?_)
    rw [nar_ch qc0.1 (no_big qc0.2)] at a461
    have f462 : Arv Z h459 b451 k452 .char (3 : Int32) [(.int c0), (.int (0 : Int32)), (.int (0 : Int32))] (.int (0 : Int32)) := a461
    refine W.o_iloadN X (pc' := 29) d_method_2_28 rfl rfl ?_
    refine W.o_iconst X (1 : Int32) (pc' := 30) d_method_2_29 rfl rfl ?_
    refine W.o_if_icmple X (pt := 45) (pf := 33) d_method_2_30 ⟨by decide, by decide⟩ rfl (fun hc => absurd (by decide) hc) (fun _ => ?_)
    refine W.o_aloadN X (pc' := 34) d_method_2_33 rfl rfl rfl ?_
    refine W.o_iconst X (1 : Int32) (pc' := 35) d_method_2_34 rfl rfl ?_
    refine W.o_iloadN X (pc' := 36) d_method_2_35 rfl rfl ?_
    refine W.o_bipush X (8 : Int32) (pc' := 38) d_method_2_36 rfl rfl ?_
    refine W.o_iushr X (pc' := 39) d_method_2_38 rfl ?_
    refine W.o_sipush X (255 : Int32) (pc' := 42) d_method_2_39 rfl rfl ?_
    refine W.o_iand X (pc' := 43) d_method_2_42 rfl ?_
    refine W.o_i2c X (pc' := 44) d_method_2_43 rfl ?_
    generalize hc1 : ((((x.toUInt32 >>> ((8 : Int32) &&& 31).toUInt32).toInt32) &&& (255 : Int32)).toUInt32.toUInt16.toUInt32.toInt32) = c1
    have qc1 : ¬ c1 < 0 ∧ ¬ 255 < c1 := hc1 ▸ and_ch _
    refine W.o_castore X (pc' := 45) d_method_2_44 rfl f462 1 rfl ⟨by decide, by decide⟩ (by exact Nat.le_of_ble_eq_true rfl) z454 (Or.inr (Or.inl (by simp))) (fun T h463 w464 a465 X => ?_)
    rw [nar_ch qc1.1 (no_big qc1.2)] at a465
    have f466 : Arv Z h463 b451 k452 .char (3 : Int32) [(.int c0), (.int c1), (.int (0 : Int32))] (.int (0 : Int32)) := a465
    refine W.o_iloadN X (pc' := 46) d_method_2_45 rfl rfl ?_
    refine W.o_iconst X (2 : Int32) (pc' := 47) d_method_2_46 rfl rfl ?_
    refine W.o_if_icmple X (pt := 62) (pf := 50) d_method_2_47 ⟨by decide, by decide⟩ rfl (fun hc => absurd (by decide) hc) (fun _ => ?_)
    refine W.o_aloadN X (pc' := 51) d_method_2_50 rfl rfl rfl ?_
    refine W.o_iconst X (2 : Int32) (pc' := 52) d_method_2_51 rfl rfl ?_
    refine W.o_iloadN X (pc' := 53) d_method_2_52 rfl rfl ?_
    refine W.o_bipush X (16 : Int32) (pc' := 55) d_method_2_53 rfl rfl ?_
    refine W.o_iushr X (pc' := 56) d_method_2_55 rfl ?_
    refine W.o_sipush X (255 : Int32) (pc' := 59) d_method_2_56 rfl rfl ?_
    refine W.o_iand X (pc' := 60) d_method_2_59 rfl ?_
    refine W.o_i2c X (pc' := 61) d_method_2_60 rfl ?_
    generalize hc2 : ((((x.toUInt32 >>> ((16 : Int32) &&& 31).toUInt32).toInt32) &&& (255 : Int32)).toUInt32.toUInt16.toUInt32.toInt32) = c2
    have qc2 : ¬ c2 < 0 ∧ ¬ 255 < c2 := hc2 ▸ and_ch _
    refine W.o_castore X (pc' := 62) d_method_2_61 rfl f466 2 rfl ⟨by decide, by decide⟩ (by exact Nat.le_of_ble_eq_true rfl) z454 (Or.inr (Or.inl (by simp))) (fun T h467 w468 a469 X => ?_)
    rw [nar_ch qc2.1 (no_big qc2.2)] at a469
    have f470 : Arv Z h467 b451 k452 .char (3 : Int32) [(.int c0), (.int c1), (.int c2)] (.int (0 : Int32)) := a469
    refine W.o_new X (pc' := 65) d_method_2_62 rfl (hw _ (List.mem_of_getElem? (i := 5) rfl)) (hw _ (List.mem_of_getElem? (i := 6) rfl)) (hw _ (List.mem_of_getElem? (i := 7) rfl)) (by decide) (by decide) (fun T h471 b472 g473 z474 e475 a476 D477 X => ?_)
    have f478 : Fld Z h471 b472 "java/lang/String" "value" "[B" .null := D477 (Or.inr (hw _ (List.mem_of_getElem? (i := 20) rfl))) (ty := (.array .byte)) (by decide)
    have f479 : Fld Z h471 b472 "java/lang/String" "coder" "B" (.int (0 : Int32)) := D477 (Or.inr (hw _ (List.mem_of_getElem? (i := 21) rfl))) (ty := .byte) (by decide)
    refine W.o_dup X (pc' := 66) d_method_2_65 rfl rfl ?_
    refine W.o_aloadN X (pc' := 67) d_method_2_66 rfl rfl rfl ?_
    have f484 := (f470.ext e475)
    have hl485 : ∀ c ∈ ([c0, c1, c2] : List Int32), ¬ c < 0 ∧ ¬ 255 < c := (allI qc0 (allI qc1 (allI qc2 (fun _ q => nomatch q))))
    refine W.o_special X (pc' := 70) d_method_2_67 rfl (z := (⟨"java/lang/String", "<init>", "([C)V"⟩ : MethodName)) rfl (hw _ (List.mem_of_getElem? (i := 8) rfl)) (hw _ (List.mem_of_getElem? (i := 9) rfl)) (hw _ (List.mem_of_getElem? (i := 7) rfl)) (hw _ (List.mem_of_getElem? (i := 10) rfl)) (by decide) (ctNew1 l Z a0 hw b472 b451 k452 [c0, c1, c2] cz h471 (by exact Nat.le_of_ble_eq_true rfl) (by exact Nat.succ_ne_zero _) hl485 C0 hcz z474 a476 f478 f479 f484) (allS ⟨a476.lt, (Or.inr (Or.inl (by simp)))⟩ all0) [(.ref b451)] rfl (rest := [(.ref b472)]) rfl pd___C_V rfl rfl (by decide) (by exact Nat.le_of_ble_eq_true rfl) (by decide) (by decide) (fun v486 T q487 => ?_)
    obtain ⟨h490, S488, ⟨rfl, K480, t481, g482, R483⟩, X489⟩ := q487
    have X := X489 [] all0
    show W.Go _ _ _ _ _ _ _ _ _ _ _ (mkF m 70 #[.val (.int x), .val (.int (3 : Int32)), .val (.ref b451)] [(.ref b472)])
    exact W.o_areturn X d_method_2_70 rfl rfl rfl (by decide) (by decide) fun P hP => ⟨b472, t481, [c0, c1, c2], rfl, (((((((Keep.refl h0 []).ext e455).wr w460 (Or.inr (Nat.le_trans (Nat.le_refl _) (Nat.le_of_eq g453.symm)))).wr w464 (Or.inr (Nat.le_trans (Nat.le_refl _) (Nat.le_of_eq g453.symm)))).wr w468 (Or.inr (Nat.le_trans (Nat.le_refl _) (Nat.le_of_eq g453.symm)))).ext e475).trans K480 (allS (Or.inr (Nat.le_trans (Nat.le_trans (Nat.le_trans (Nat.le_trans (Nat.le_trans (Nat.le_refl _) e455.1) (Nat.le_of_eq w460.size.symm)) (Nat.le_of_eq w464.size.symm)) (Nat.le_of_eq w468.size.symm)) (Nat.le_of_eq g473.symm))) all0)), (Nat.le_trans (Nat.le_trans (Nat.le_trans (Nat.le_trans (Nat.le_trans (Nat.le_refl _) e455.1) (Nat.le_of_eq w460.size.symm)) (Nat.le_of_eq w464.size.symm)) (Nat.le_of_eq w468.size.symm)) (Nat.le_of_eq g473.symm)), R483, by exact Nat.le_of_ble_eq_true rfl⟩
set_option maxRecDepth 65536 in
set_option maxHeartbeats 40000000 in
theorem ctPre (l : Launch) (Z : State) (a0 : Array Value) (hw : ∀ d ∈ tables_1, d.before a0 Z = true) (i n : Nat) (fv : Value) (h0 : Heap) (hfv : fv.isRef = true) (hi : i < n) (hn : n ≤ 1000) :
    W.Ct wd Z a0 el l (⟨"jdk/internal/util/Preconditions", "checkIndex", "(IILjava/util/function/BiFunction;)I"⟩ : MethodName) jdk_41_method_11_code 3 (some .int) ({ frames := 0, cells := 0, slots := 0, locals := 0 } : Room) #[(.int (Int32.ofNat i)), (.int (Int32.ofNat n)), fv] h0 [] (fun v h S => v = some (.int (Int32.ofNat i)) ∧ h = h0) := by
  rcases ref_cases hfv with rfl | ⟨fa, rfl⟩
  all_goals
    refine W.Ct.walk hwe (plainFor_of_name pn_jdk_internal_util_Preconditions) ?_
    intro p e s m below meth c T hE0 X
    refine W.castG (show entryFrame m _ 3 = mkF m 0 #[.val (.int (Int32.ofNat i)), .val (.int (Int32.ofNat n)), .val _] [] from by first | (simp [entryFrame, mkF, argsToLocals, Value.category]; done) | rfl) ?_
    refine W.o_iloadN X (pc' := 1) d_jdk_41_method_11_0 rfl rfl ?_
    refine W.o_iflt X (pt := 9) (pf := 4) d_jdk_41_method_11_1 ⟨by decide, by decide⟩ rfl (fun hc => absurd hc (o32_lt hi (by omega)).1) (fun _ => ?_)
    refine W.o_iloadN X (pc' := 5) d_jdk_41_method_11_4 rfl rfl ?_
    refine W.o_iloadN X (pc' := 6) d_jdk_41_method_11_5 rfl rfl ?_
    refine W.o_if_icmplt X (pt := 16) (pf := 9) d_jdk_41_method_11_6 ⟨by decide, by decide⟩ rfl (fun _ => ?_) (fun hc => absurd (o32_lt hi (by omega)).2 hc)
    refine W.o_iloadN X (pc' := 17) d_jdk_41_method_11_16 rfl rfl ?_
    exact W.o_ireturnI X d_jdk_41_method_11_17 rfl (by decide) (by decide) fun P hP => ⟨rfl, rfl⟩
set_option maxRecDepth 65536 in
set_option maxHeartbeats 40000000 in
theorem ctSCk (l : Launch) (Z : State) (a0 : Array Value) (hw : ∀ d ∈ tables_1, d.before a0 Z = true) (i n : Nat) (fv : Value) (h0 : Heap) (FM : Sta Z Z.heap "jdk/internal/util/Preconditions" "SIOOBE_FORMATTER" "Ljava/util/function/BiFunction;" fv) (hfv : fv.isRef = true) (hi : i < n) (hn : n ≤ 1000) :
    W.Ct wd Z a0 el l (⟨"java/lang/String", "checkIndex", "(II)V"⟩ : MethodName) jdk_42_method_155_code 2 none ({ frames := 1, cells := 0, slots := 0, locals := 14 } : Room) #[(.int (Int32.ofNat i)), (.int (Int32.ofNat n))] h0 [] (fun v h S => v = none ∧ h = h0) := by
  refine W.Ct.walk hwe (plainFor_of_name pn_java_lang_String) ?_
  intro p e s m below meth c T hE0 X
  refine W.castG (show entryFrame m #[(.int (Int32.ofNat i)), (.int (Int32.ofNat n))] 2 = mkF m 0 #[.val (.int (Int32.ofNat i)), .val (.int (Int32.ofNat n))] [] from by first | (simp [entryFrame, mkF, argsToLocals, Value.category]; done) | rfl) ?_
  refine W.o_iloadN X (pc' := 1) d_jdk_42_method_155_0 rfl rfl ?_
  refine W.o_iloadN X (pc' := 2) d_jdk_42_method_155_1 rfl rfl ?_
  refine W.o_getstatic X (pc' := 5) d_jdk_42_method_155_2 rfl (hw _ (List.mem_of_getElem? (i := 220) rfl)) Via.refl FM (fun T X => ?_)
  refine W.o_static X (pc' := 8) d_jdk_42_method_155_5 rfl (z := (⟨"jdk/internal/util/Preconditions", "checkIndex", "(IILjava/util/function/BiFunction;)I"⟩ : MethodName)) (hw _ (List.mem_of_getElem? (i := 222) rfl)) (hw _ (List.mem_of_getElem? (i := 223) rfl)) (hw _ (List.mem_of_getElem? (i := 221) rfl)) (hw _ (List.mem_of_getElem? (i := 224) rfl)) (by decide) (ctPre l Z a0 hw i n fv h0 hfv hi hn) (fun _ q => nomatch q) [(.int (Int32.ofNat i)), (.int (Int32.ofNat n)), fv] rfl (rest := []) rfl pd__IILjava_util_function_BiFunction__I rfl rfl (by decide) (by exact Nat.le_of_ble_eq_true rfl) (by decide) (by decide) (fun v491 T q492 => ?_)
  obtain ⟨h495, S493, ⟨rfl, eh⟩, X494⟩ := q492
  have eh := eh.symm
  subst eh
  have X := X494 [] all0
  show W.Go _ _ _ _ _ _ _ _ _ _ _ (mkF m 8 #[.val (.int (Int32.ofNat i)), .val (.int (Int32.ofNat n))] [(.int (Int32.ofNat i))])
  refine W.o_pop X (pc' := 9) d_jdk_42_method_155_8 rfl rfl ?_
  exact W.o_return X d_jdk_42_method_155_9 (by decide) (by decide) fun P hP => ⟨rfl, rfl⟩
set_option maxRecDepth 65536 in
set_option maxHeartbeats 40000000 in
theorem ctLCh (l : Launch) (Z : State) (a0 : Array Value) (hw : ∀ d ∈ tables_1, d.before a0 Z = true) (d : Addr) (kd : ClassId) (cs : List Int32) (i : Nat) (fv : Value) (h0 : Heap) (FM : Sta Z Z.heap "jdk/internal/util/Preconditions" "SIOOBE_FORMATTER" "Ljava/util/function/BiFunction;" fv) (hfv : fv.isRef = true) (hN : cs.length ≤ 1000) (hi : i < cs.length) (hch : ∀ c ∈ cs, ¬ c < 0 ∧ ¬ 255 < c) (B0 : Arv Z h0 d kd .byte (Int32.ofNat cs.length) (cs.map lo) (.int 0)) :
    W.Ct wd Z a0 el l (⟨"java/lang/StringLatin1", "charAt", "([BI)C"⟩ : MethodName) jdk_43_method_2_code 2 (some .char) ({ frames := 2, cells := 0, slots := 0, locals := 27 } : Room) #[(.ref d), (.int (Int32.ofNat i))] h0 [] (fun v h S => v = some (.int cs[i]) ∧ h = h0) := by
  refine W.Ct.walk hwe (plainFor_of_name pn_java_lang_StringLatin1) ?_
  intro p e s m below meth c T hE0 X
  refine W.castG (show entryFrame m #[(.ref d), (.int (Int32.ofNat i))] 2 = mkF m 0 #[.val (.ref d), .val (.int (Int32.ofNat i))] [] from by first | (simp [entryFrame, mkF, argsToLocals, Value.category]; done) | rfl) ?_
  refine W.o_iloadN X (pc' := 1) d_jdk_43_method_2_0 rfl rfl ?_
  refine W.o_aloadN X (pc' := 2) d_jdk_43_method_2_1 rfl rfl rfl ?_
  refine W.o_arraylength X (pc' := 3) d_jdk_43_method_2_2 rfl B0 ?_
  refine W.o_static X (pc' := 6) d_jdk_43_method_2_3 rfl (z := (⟨"java/lang/String", "checkIndex", "(II)V"⟩ : MethodName)) (hw _ (List.mem_of_getElem? (i := 217) rfl)) (hw _ (List.mem_of_getElem? (i := 218) rfl)) (hw _ (List.mem_of_getElem? (i := 7) rfl)) (hw _ (List.mem_of_getElem? (i := 219) rfl)) (by decide) (ctSCk l Z a0 hw i cs.length fv h0 FM hfv hi (by omega)) (fun _ q => nomatch q) [(.int (Int32.ofNat i)), (.int (Int32.ofNat cs.length))] rfl (rest := []) rfl pd__II_V rfl rfl (by decide) (by exact Nat.le_of_ble_eq_true rfl) (by decide) (by decide) (fun v496 T q497 => ?_)
  obtain ⟨h500, S498, ⟨rfl, eh⟩, X499⟩ := q497
  have eh := eh.symm
  subst eh
  have X := X499 [] all0
  show W.Go _ _ _ _ _ _ _ _ _ _ _ (mkF m 6 #[.val (.ref d), .val (.int (Int32.ofNat i))] [])
  refine W.o_aloadN X (pc' := 7) d_jdk_43_method_2_6 rfl rfl rfl ?_
  refine W.o_iloadN X (pc' := 8) d_jdk_43_method_2_7 rfl rfl ?_
  refine W.o_baload X (pc' := 9) d_jdk_43_method_2_8 rfl B0 (o32_lt hi (by omega)) (v := lo cs[i]) (by rw [o32_clamp (by omega)]; simp [List.getD, hi]) ?_
  unfold lo
  refine W.o_sipush X (255 : Int32) (pc' := 12) d_jdk_43_method_2_9 rfl rfl ?_
  refine W.o_iand X (pc' := 13) d_jdk_43_method_2_12 rfl ?_
  refine W.o_i2c X (pc' := 14) d_jdk_43_method_2_13 rfl ?_
  have hc := hch cs[i] (List.getElem_mem hi)
  rw [lo255 hc.1 hc.2]
  exact W.o_ireturn X d_jdk_43_method_2_14 rfl (Or.inr (Or.inr (Or.inl rfl))) (v := cs[i]) (nar_ch hc.1 (no_big hc.2)) (by decide) (by decide) fun P hP => ⟨rfl, rfl⟩
set_option maxRecDepth 65536 in
set_option maxHeartbeats 40000000 in
theorem ctCh (l : Launch) (Z : State) (a0 : Array Value) (hw : ∀ d ∈ tables_1, d.before a0 Z = true) (a t : Addr) (cs : List Int32) (i : Nat) (fv : Value) (cz : Int32) (h0 : Heap) (FM : Sta Z Z.heap "jdk/internal/util/Preconditions" "SIOOBE_FORMATTER" "Ljava/util/function/BiFunction;" fv) (hfv : fv.isRef = true) (C0 : Sta Z Z.heap "java/lang/String" "COMPACT_STRINGS" "Z" (.int cz)) (hcz : ¬ cz = 0) (hi : i < cs.length) (G0 : Str Z h0 a t cs) :
    W.Ct wd Z a0 el l (⟨"java/lang/String", "charAt", "(I)C"⟩ : MethodName) jdk_42_method_56_code 2 (some .char) ({ frames := 3, cells := 0, slots := 0, locals := 40 } : Room) #[(.ref a), (.int (Int32.ofNat i))] h0 [] (fun v h S => v = some (.int cs[i]) ∧ h = h0) := by
  refine W.Ct.walk hwe (plainFor_of_name pn_java_lang_String) ?_
  intro p e s m below meth c T hE0 X
  refine W.castG (show entryFrame m #[(.ref a), (.int (Int32.ofNat i))] 2 = mkF m 0 #[.val (.ref a), .val (.int (Int32.ofNat i))] [] from by first | (simp [entryFrame, mkF, argsToLocals, Value.category]; done) | rfl) ?_
  obtain ⟨E0, F0, F1, ⟨kt, T0⟩, n1, l1⟩ := G0
  have hc := l1 cs[i] (List.getElem_mem hi)
  refine W.o_aloadN X (pc' := 1) d_jdk_42_method_56_0 rfl rfl rfl ?_
  refine W.o_virtual X (pc' := 4) d_jdk_42_method_56_1 rfl (u := (⟨"java/lang/String", "isLatin1", "()Z"⟩ : MethodName)) (z := (⟨"java/lang/String", "isLatin1", "()Z"⟩ : MethodName)) (hw _ (List.mem_of_getElem? (i := 209) rfl)) (hw _ (List.mem_of_getElem? (i := 210) rfl)) (fun s' hZ => notFace_of_selects (args := #[]) (mvT hZ (hw _ (List.mem_of_getElem? (i := 212) rfl)))) (hw _ (List.mem_of_getElem? (i := 212) rfl)) (hw _ (List.mem_of_getElem? (i := 211) rfl)) (hw _ (List.mem_of_getElem? (i := 7) rfl)) (hw _ (List.mem_of_getElem? (i := 213) rfl)) (by decide) E0 (ctIsL l Z a0 hw a cz 0 h0 C0 hcz F0) (fun _ q => nomatch q) [] rfl (rest := []) rfl pd___Z rfl rfl (by decide) (by exact Nat.le_of_ble_eq_true rfl) (by decide) (by decide) (fun v501 T q502 => ?_)
  obtain ⟨h505, S503, ⟨rfl, eh⟩, X504⟩ := q502
  have eh := eh.symm
  subst eh
  have X := X504 [] all0
  show W.Go _ _ _ _ _ _ _ _ _ _ _ (mkF m 4 #[.val (.ref a), .val (.int (Int32.ofNat i))] [(.int (1 : Int32))])
  refine W.o_ifeq X (pt := 16) (pf := 7) d_jdk_42_method_56_4 ⟨by decide, by decide⟩ rfl (fun hc => absurd hc (by decide)) (fun _ => ?_)
  refine W.o_aloadN X (pc' := 8) d_jdk_42_method_56_7 rfl rfl rfl ?_
  refine W.o_getfield X (pc' := 11) d_jdk_42_method_56_8 rfl (hw _ (List.mem_of_getElem? (i := 24) rfl)) Via.refl F1 (fun T X => ?_)
  refine W.o_iloadN X (pc' := 12) d_jdk_42_method_56_11 rfl rfl ?_
  refine W.o_static X (pc' := 15) d_jdk_42_method_56_12 rfl (z := (⟨"java/lang/StringLatin1", "charAt", "([BI)C"⟩ : MethodName)) (hw _ (List.mem_of_getElem? (i := 214) rfl)) (hw _ (List.mem_of_getElem? (i := 215) rfl)) (hw _ (List.mem_of_getElem? (i := 185) rfl)) (hw _ (List.mem_of_getElem? (i := 216) rfl)) (by decide) (ctLCh l Z a0 hw t kt cs i fv h0 FM hfv n1 hi l1 T0) (fun _ q => nomatch q) [(.ref t), (.int (Int32.ofNat i))] rfl (rest := []) rfl pd___BI_C rfl rfl (by decide) (by exact Nat.le_of_ble_eq_true rfl) (by decide) (by decide) (fun v506 T q507 => ?_)
  obtain ⟨h510, S508, ⟨rfl, eh⟩, X509⟩ := q507
  have eh := eh.symm
  subst eh
  have X := X509 [] all0
  show W.Go _ _ _ _ _ _ _ _ _ _ _ (mkF m 15 #[.val (.ref a), .val (.int (Int32.ofNat i))] [(.int cs[i])])
  exact W.o_ireturn X d_jdk_42_method_56_15 rfl (Or.inr (Or.inr (Or.inl rfl))) (v := cs[i]) (nar_ch hc.1 (no_big hc.2)) (by decide) (by decide) fun P hP => ⟨rfl, rfl⟩
set_option maxRecDepth 65536 in
set_option maxHeartbeats 40000000 in
theorem ctPut (l : Launch) (Z : State) (a0 : Array Value) (hw : ∀ d ∈ tables_1, d.before a0 Z = true) (ar sg t : Addr) (ka : ClassId) (n : Nat) (P ds : List Int32) (fv : Value) (cz : Int32) (h0 : Heap) (FM : Sta Z Z.heap "jdk/internal/util/Preconditions" "SIOOBE_FORMATTER" "Ljava/util/function/BiFunction;" fv) (hfv : fv.isRef = true) (C0 : Sta Z Z.heap "java/lang/String" "COMPACT_STRINGS" "Z" (.int cz)) (hcz : ¬ cz = 0) (hn : n ≤ 1000) (hds : ds.length ≤ 3) (hsum : P.length + ds.length ≤ n) (gz : Z.heap.size ≤ ar) (hsa : sg ≠ ar) (hta : t ≠ ar) (G0 : Str Z h0 sg t ds) (A0 : Arv Z h0 ar ka .char (Int32.ofNat n) (layC n P) (.int 0)) :
    W.Ct wd Z a0 el l (⟨"com/example/kindling/kindling/ValueDescribedPinLaw", "put", "([CILjava/lang/String;)I"⟩ : MethodName) method_3_code 4 (some .int) ({ frames := 4, cells := 0, slots := 0, locals := 55 } : Room) #[(.ref ar), (.int (Int32.ofNat P.length)), (.ref sg)] h0 [] (fun v h S => v = some (.int (Int32.ofNat (P ++ ds).length)) ∧ Keep h0 h [ar] ∧ Arv Z h ar ka .char (Int32.ofNat n) (layC n (P ++ ds)) (.int 0)) := by
  refine W.Ct.walk hwe (plainFor_of_name pn_com_example_kindling_kindling_ValueDescribedPinLaw) ?_
  intro p e s m below meth c T hE0 X
  refine W.castG (show entryFrame m #[(.ref ar), (.int (Int32.ofNat P.length)), (.ref sg)] 4 = mkF m 0 #[.val (.ref ar), .val (.int (Int32.ofNat P.length)), .val (.ref sg), .unset] [] from by first | (simp [entryFrame, mkF, argsToLocals, Value.category]; done) | rfl) ?_
  have lat := G0.2.2.2.2.2
  rcases ds with _ | ⟨x0, _ | ⟨x1, _ | ⟨x2, _ | ⟨x3, rr⟩⟩⟩⟩
  · have hs : P.length + 0 ≤ n := hsum
    refine W.o_aloadN X (pc' := 1) d_method_3_0 rfl rfl rfl ?_
    refine W.o_virtual X (pc' := 4) d_method_3_1 rfl (u := (⟨"java/lang/String", "length", "()I"⟩ : MethodName)) (z := (⟨"java/lang/String", "length", "()I"⟩ : MethodName)) (hw _ (List.mem_of_getElem? (i := 163) rfl)) (hw _ (List.mem_of_getElem? (i := 78) rfl)) (fun s' hZ => notFace_of_selects (args := #[]) (mvT hZ (hw _ (List.mem_of_getElem? (i := 80) rfl)))) (hw _ (List.mem_of_getElem? (i := 80) rfl)) (hw _ (List.mem_of_getElem? (i := 79) rfl)) (hw _ (List.mem_of_getElem? (i := 7) rfl)) (hw _ (List.mem_of_getElem? (i := 81) rfl)) (by decide) G0.1 (ctLen l Z a0 hw sg t ([] : List Int32) cz h0 C0 hcz G0) (fun _ q => nomatch q) [] rfl (rest := []) rfl pd___I rfl rfl (by decide) (by exact Nat.le_of_ble_eq_true rfl) (by decide) (by decide) (fun v511 T q512 => ?_)
    obtain ⟨h515, S513, ⟨rfl, eh⟩, X514⟩ := q512
    have eh := eh.symm
    subst eh
    have X := X514 [] all0
    show W.Go _ _ _ _ _ _ _ _ _ _ _ (mkF m 4 #[.val (.ref ar), .val (.int (Int32.ofNat P.length)), .val (.ref sg), .unset] [(.int (0 : Int32))])
    refine W.o_istoreN X (pc' := 5) d_method_3_4 rfl (L' := #[.val (.ref ar), .val (.int (Int32.ofNat P.length)), .val (.ref sg), .val (.int (0 : Int32))]) rfl ?_
    refine W.o_iloadN X (pc' := 6) d_method_3_5 rfl rfl ?_
    refine W.o_ifle X (pt := 17) (pf := 9) d_method_3_6 ⟨by decide, by decide⟩ rfl (fun _ => ?_) (fun hc => absurd hc (by decide))
    refine W.o_iloadN X (pc' := 18) d_method_3_17 rfl rfl ?_
    refine W.o_iconst X (1 : Int32) (pc' := 19) d_method_3_18 rfl rfl ?_
    refine W.o_if_icmple X (pt := 32) (pf := 22) d_method_3_19 ⟨by decide, by decide⟩ rfl (fun _ => ?_) (fun hc => absurd hc (by decide))
    refine W.o_iloadN X (pc' := 33) d_method_3_32 rfl rfl ?_
    refine W.o_iconst X (2 : Int32) (pc' := 34) d_method_3_33 rfl rfl ?_
    refine W.o_if_icmple X (pt := 47) (pf := 37) d_method_3_34 ⟨by decide, by decide⟩ rfl (fun _ => ?_) (fun hc => absurd hc (by decide))
    refine W.o_iloadN X (pc' := 48) d_method_3_47 rfl rfl ?_
    refine W.o_iloadN X (pc' := 49) d_method_3_48 rfl rfl ?_
    refine W.o_iadd X (pc' := 50) d_method_3_49 rfl ?_
    have fin : P ++ ([] : List Int32) = P := by simp
    exact W.o_ireturnI X d_method_3_50 rfl (by decide) (by decide) fun P hP => ⟨by rw [List.length_append]; exact congrArg (fun z => some (Value.int z)) (o32_add _ 0), (Keep.refl h0 [ar]), by rw [fin]; exact A0⟩
  · have hs : P.length + 1 ≤ n := hsum
    have qx0 := lat x0 (by simp)
    refine W.o_aloadN X (pc' := 1) d_method_3_0 rfl rfl rfl ?_
    refine W.o_virtual X (pc' := 4) d_method_3_1 rfl (u := (⟨"java/lang/String", "length", "()I"⟩ : MethodName)) (z := (⟨"java/lang/String", "length", "()I"⟩ : MethodName)) (hw _ (List.mem_of_getElem? (i := 163) rfl)) (hw _ (List.mem_of_getElem? (i := 78) rfl)) (fun s' hZ => notFace_of_selects (args := #[]) (mvT hZ (hw _ (List.mem_of_getElem? (i := 80) rfl)))) (hw _ (List.mem_of_getElem? (i := 80) rfl)) (hw _ (List.mem_of_getElem? (i := 79) rfl)) (hw _ (List.mem_of_getElem? (i := 7) rfl)) (hw _ (List.mem_of_getElem? (i := 81) rfl)) (by decide) G0.1 (ctLen l Z a0 hw sg t [x0] cz h0 C0 hcz G0) (fun _ q => nomatch q) [] rfl (rest := []) rfl pd___I rfl rfl (by decide) (by exact Nat.le_of_ble_eq_true rfl) (by decide) (by decide) (fun v516 T q517 => ?_)
    obtain ⟨h520, S518, ⟨rfl, eh⟩, X519⟩ := q517
    have eh := eh.symm
    subst eh
    have X := X519 [] all0
    show W.Go _ _ _ _ _ _ _ _ _ _ _ (mkF m 4 #[.val (.ref ar), .val (.int (Int32.ofNat P.length)), .val (.ref sg), .unset] [(.int (1 : Int32))])
    refine W.o_istoreN X (pc' := 5) d_method_3_4 rfl (L' := #[.val (.ref ar), .val (.int (Int32.ofNat P.length)), .val (.ref sg), .val (.int (1 : Int32))]) rfl ?_
    refine W.o_iloadN X (pc' := 6) d_method_3_5 rfl rfl ?_
    refine W.o_ifle X (pt := 17) (pf := 9) d_method_3_6 ⟨by decide, by decide⟩ rfl (fun hc => absurd (by decide) hc) (fun _ => ?_)
    refine W.o_aloadN X (pc' := 10) d_method_3_9 rfl rfl rfl ?_
    refine W.o_iloadN X (pc' := 11) d_method_3_10 rfl rfl ?_
    refine W.o_aloadN X (pc' := 12) d_method_3_11 rfl rfl rfl ?_
    refine W.o_iconst X (0 : Int32) (pc' := 13) d_method_3_12 rfl rfl ?_
    refine W.o_virtual X (pc' := 16) d_method_3_13 rfl (u := (⟨"java/lang/String", "charAt", "(I)C"⟩ : MethodName)) (z := (⟨"java/lang/String", "charAt", "(I)C"⟩ : MethodName)) (hw _ (List.mem_of_getElem? (i := 204) rfl)) (hw _ (List.mem_of_getElem? (i := 205) rfl)) (fun s' hZ => notFace_of_selects (args := #[]) (mvT hZ (hw _ (List.mem_of_getElem? (i := 207) rfl)))) (hw _ (List.mem_of_getElem? (i := 207) rfl)) (hw _ (List.mem_of_getElem? (i := 206) rfl)) (hw _ (List.mem_of_getElem? (i := 7) rfl)) (hw _ (List.mem_of_getElem? (i := 208) rfl)) (by decide) G0.1 (ctCh l Z a0 hw sg t [x0] 0 fv cz h0 FM hfv C0 hcz (by exact Nat.le_of_ble_eq_true rfl) G0) (fun _ q => nomatch q) [(.int (0 : Int32))] rfl (rest := [(.int (Int32.ofNat P.length)), (.ref ar)]) rfl pd__I_C rfl rfl (by decide) (by exact Nat.le_of_ble_eq_true rfl) (by decide) (by decide) (fun v521 T q522 => ?_)
    obtain ⟨h525, S523, ⟨rfl, eh⟩, X524⟩ := q522
    have eh := eh.symm
    subst eh
    have X := X524 [] all0
    show W.Go _ _ _ _ _ _ _ _ _ _ _ (mkF m 16 #[.val (.ref ar), .val (.int (Int32.ofNat P.length)), .val (.ref sg), .val (.int (1 : Int32))] [(.int x0), (.int (Int32.ofNat P.length)), (.ref ar)])
    have hq530 : P.length < n := (by omega)
    refine W.o_castore X (pc' := 17) d_method_3_16 rfl A0 P.length (o32_clamp (Nat.lt_trans hq530 (Nat.lt_trans (by omega : n < 1001) (by decide)))) (o32_lt hq530 (Nat.lt_trans (by omega : n < 1001) (by decide))) (by rw [layC_len (Nat.le_of_lt hq530)]; exact hq530) gz (Or.inr (Or.inr (Or.inr (W.okArr A0 (by decide))))) (fun T h526 w527 a528 X => ?_)
    rw [nar_ch qx0.1 (no_big qx0.2)] at a528
    have A529 : Arv Z h526 ar ka .char (Int32.ofNat n) (layC n (P ++ [x0])) (.int 0) := by rw [← layC_set hq530]; exact a528
    have le1 : (P ++ [x0]).length = P.length + 1 := List.length_append.trans (congrArg (fun z => z + 1) rfl)
    refine W.o_iloadN X (pc' := 18) d_method_3_17 rfl rfl ?_
    refine W.o_iconst X (1 : Int32) (pc' := 19) d_method_3_18 rfl rfl ?_
    refine W.o_if_icmple X (pt := 32) (pf := 22) d_method_3_19 ⟨by decide, by decide⟩ rfl (fun _ => ?_) (fun hc => absurd hc (by decide))
    refine W.o_iloadN X (pc' := 33) d_method_3_32 rfl rfl ?_
    refine W.o_iconst X (2 : Int32) (pc' := 34) d_method_3_33 rfl rfl ?_
    refine W.o_if_icmple X (pt := 47) (pf := 37) d_method_3_34 ⟨by decide, by decide⟩ rfl (fun _ => ?_) (fun hc => absurd hc (by decide))
    refine W.o_iloadN X (pc' := 48) d_method_3_47 rfl rfl ?_
    refine W.o_iloadN X (pc' := 49) d_method_3_48 rfl rfl ?_
    refine W.o_iadd X (pc' := 50) d_method_3_49 rfl ?_
    have fin : P ++ [x0] = (P ++ [x0]) := by simp
    exact W.o_ireturnI X d_method_3_50 rfl (by decide) (by decide) fun P hP => ⟨by rw [List.length_append]; exact congrArg (fun z => some (Value.int z)) (o32_add _ 1), ((Keep.refl h0 [ar]).wr w527 (Or.inl (List.mem_of_getElem? (i := 0) rfl))), by rw [fin]; exact A529⟩
  · have hs : P.length + 2 ≤ n := hsum
    have qx0 := lat x0 (by simp)
    have qx1 := lat x1 (by simp)
    refine W.o_aloadN X (pc' := 1) d_method_3_0 rfl rfl rfl ?_
    refine W.o_virtual X (pc' := 4) d_method_3_1 rfl (u := (⟨"java/lang/String", "length", "()I"⟩ : MethodName)) (z := (⟨"java/lang/String", "length", "()I"⟩ : MethodName)) (hw _ (List.mem_of_getElem? (i := 163) rfl)) (hw _ (List.mem_of_getElem? (i := 78) rfl)) (fun s' hZ => notFace_of_selects (args := #[]) (mvT hZ (hw _ (List.mem_of_getElem? (i := 80) rfl)))) (hw _ (List.mem_of_getElem? (i := 80) rfl)) (hw _ (List.mem_of_getElem? (i := 79) rfl)) (hw _ (List.mem_of_getElem? (i := 7) rfl)) (hw _ (List.mem_of_getElem? (i := 81) rfl)) (by decide) G0.1 (ctLen l Z a0 hw sg t [x0, x1] cz h0 C0 hcz G0) (fun _ q => nomatch q) [] rfl (rest := []) rfl pd___I rfl rfl (by decide) (by exact Nat.le_of_ble_eq_true rfl) (by decide) (by decide) (fun v531 T q532 => ?_)
    obtain ⟨h535, S533, ⟨rfl, eh⟩, X534⟩ := q532
    have eh := eh.symm
    subst eh
    have X := X534 [] all0
    show W.Go _ _ _ _ _ _ _ _ _ _ _ (mkF m 4 #[.val (.ref ar), .val (.int (Int32.ofNat P.length)), .val (.ref sg), .unset] [(.int (2 : Int32))])
    refine W.o_istoreN X (pc' := 5) d_method_3_4 rfl (L' := #[.val (.ref ar), .val (.int (Int32.ofNat P.length)), .val (.ref sg), .val (.int (2 : Int32))]) rfl ?_
    refine W.o_iloadN X (pc' := 6) d_method_3_5 rfl rfl ?_
    refine W.o_ifle X (pt := 17) (pf := 9) d_method_3_6 ⟨by decide, by decide⟩ rfl (fun hc => absurd (by decide) hc) (fun _ => ?_)
    refine W.o_aloadN X (pc' := 10) d_method_3_9 rfl rfl rfl ?_
    refine W.o_iloadN X (pc' := 11) d_method_3_10 rfl rfl ?_
    refine W.o_aloadN X (pc' := 12) d_method_3_11 rfl rfl rfl ?_
    refine W.o_iconst X (0 : Int32) (pc' := 13) d_method_3_12 rfl rfl ?_
    refine W.o_virtual X (pc' := 16) d_method_3_13 rfl (u := (⟨"java/lang/String", "charAt", "(I)C"⟩ : MethodName)) (z := (⟨"java/lang/String", "charAt", "(I)C"⟩ : MethodName)) (hw _ (List.mem_of_getElem? (i := 204) rfl)) (hw _ (List.mem_of_getElem? (i := 205) rfl)) (fun s' hZ => notFace_of_selects (args := #[]) (mvT hZ (hw _ (List.mem_of_getElem? (i := 207) rfl)))) (hw _ (List.mem_of_getElem? (i := 207) rfl)) (hw _ (List.mem_of_getElem? (i := 206) rfl)) (hw _ (List.mem_of_getElem? (i := 7) rfl)) (hw _ (List.mem_of_getElem? (i := 208) rfl)) (by decide) G0.1 (ctCh l Z a0 hw sg t [x0, x1] 0 fv cz h0 FM hfv C0 hcz (by exact Nat.le_of_ble_eq_true rfl) G0) (fun _ q => nomatch q) [(.int (0 : Int32))] rfl (rest := [(.int (Int32.ofNat P.length)), (.ref ar)]) rfl pd__I_C rfl rfl (by decide) (by exact Nat.le_of_ble_eq_true rfl) (by decide) (by decide) (fun v536 T q537 => ?_)
    obtain ⟨h540, S538, ⟨rfl, eh⟩, X539⟩ := q537
    have eh := eh.symm
    subst eh
    have X := X539 [] all0
    show W.Go _ _ _ _ _ _ _ _ _ _ _ (mkF m 16 #[.val (.ref ar), .val (.int (Int32.ofNat P.length)), .val (.ref sg), .val (.int (2 : Int32))] [(.int x0), (.int (Int32.ofNat P.length)), (.ref ar)])
    have hq545 : P.length < n := (by omega)
    refine W.o_castore X (pc' := 17) d_method_3_16 rfl A0 P.length (o32_clamp (Nat.lt_trans hq545 (Nat.lt_trans (by omega : n < 1001) (by decide)))) (o32_lt hq545 (Nat.lt_trans (by omega : n < 1001) (by decide))) (by rw [layC_len (Nat.le_of_lt hq545)]; exact hq545) gz (Or.inr (Or.inr (Or.inr (W.okArr A0 (by decide))))) (fun T h541 w542 a543 X => ?_)
    rw [nar_ch qx0.1 (no_big qx0.2)] at a543
    have A544 : Arv Z h541 ar ka .char (Int32.ofNat n) (layC n (P ++ [x0])) (.int 0) := by rw [← layC_set hq545]; exact a543
    have le1 : (P ++ [x0]).length = P.length + 1 := List.length_append.trans (congrArg (fun z => z + 1) rfl)
    refine W.o_iloadN X (pc' := 18) d_method_3_17 rfl rfl ?_
    refine W.o_iconst X (1 : Int32) (pc' := 19) d_method_3_18 rfl rfl ?_
    refine W.o_if_icmple X (pt := 32) (pf := 22) d_method_3_19 ⟨by decide, by decide⟩ rfl (fun hc => absurd (by decide) hc) (fun _ => ?_)
    refine W.o_aloadN X (pc' := 23) d_method_3_22 rfl rfl rfl ?_
    refine W.o_iloadN X (pc' := 24) d_method_3_23 rfl rfl ?_
    refine W.o_iconst X (1 : Int32) (pc' := 25) d_method_3_24 rfl rfl ?_
    refine W.o_iadd X (pc' := 26) d_method_3_25 rfl ?_
    refine W.o_aloadN X (pc' := 27) d_method_3_26 rfl rfl rfl ?_
    refine W.o_iconst X (1 : Int32) (pc' := 28) d_method_3_27 rfl rfl ?_
    have f546 := (G0.other w542 hsa hta)
    have f549 := (G0.1.wr w542)
    refine W.o_virtual X (pc' := 31) d_method_3_28 rfl (u := (⟨"java/lang/String", "charAt", "(I)C"⟩ : MethodName)) (z := (⟨"java/lang/String", "charAt", "(I)C"⟩ : MethodName)) (hw _ (List.mem_of_getElem? (i := 204) rfl)) (hw _ (List.mem_of_getElem? (i := 205) rfl)) (fun s' hZ => notFace_of_selects (args := #[]) (mvT hZ (hw _ (List.mem_of_getElem? (i := 207) rfl)))) (hw _ (List.mem_of_getElem? (i := 207) rfl)) (hw _ (List.mem_of_getElem? (i := 206) rfl)) (hw _ (List.mem_of_getElem? (i := 7) rfl)) (hw _ (List.mem_of_getElem? (i := 208) rfl)) (by decide) f549 (ctCh l Z a0 hw sg t [x0, x1] 1 fv cz h541 FM hfv C0 hcz (by exact Nat.le_of_ble_eq_true rfl) f546) (fun _ q => nomatch q) [(.int (1 : Int32))] rfl (rest := [(.int ((Int32.ofNat P.length) + (1 : Int32))), (.ref ar)]) rfl pd__I_C rfl rfl (by decide) (by exact Nat.le_of_ble_eq_true rfl) (by decide) (by decide) (fun v547 T q548 => ?_)
    obtain ⟨h552, S550, ⟨rfl, eh⟩, X551⟩ := q548
    have eh := eh.symm
    subst eh
    have X := X551 [] all0
    show W.Go _ _ _ _ _ _ _ _ _ _ _ (mkF m 31 #[.val (.ref ar), .val (.int (Int32.ofNat P.length)), .val (.ref sg), .val (.int (2 : Int32))] [(.int x1), (.int ((Int32.ofNat P.length) + (1 : Int32))), (.ref ar)])
    have hx1 : ((Int32.ofNat P.length) + (1 : Int32)) = (Int32.ofNat (P ++ [x0]).length) := by rw [le1]; exact o32_add _ 1
    rw [hx1]
    have hq557 : (P ++ [x0]).length < n := (by omega)
    refine W.o_castore X (pc' := 32) d_method_3_31 rfl A544 (P ++ [x0]).length (o32_clamp (Nat.lt_trans hq557 (Nat.lt_trans (by omega : n < 1001) (by decide)))) (o32_lt hq557 (Nat.lt_trans (by omega : n < 1001) (by decide))) (by rw [layC_len (Nat.le_of_lt hq557)]; exact hq557) gz (Or.inr (Or.inr (Or.inr (W.okArr A544 (by decide))))) (fun T h553 w554 a555 X => ?_)
    rw [nar_ch qx1.1 (no_big qx1.2)] at a555
    have A556 : Arv Z h553 ar ka .char (Int32.ofNat n) (layC n ((P ++ [x0]) ++ [x1])) (.int 0) := by rw [← layC_set hq557]; exact a555
    have le2 : ((P ++ [x0]) ++ [x1]).length = P.length + 2 := List.length_append.trans (congrArg (fun z => z + 1) le1)
    refine W.o_iloadN X (pc' := 33) d_method_3_32 rfl rfl ?_
    refine W.o_iconst X (2 : Int32) (pc' := 34) d_method_3_33 rfl rfl ?_
    refine W.o_if_icmple X (pt := 47) (pf := 37) d_method_3_34 ⟨by decide, by decide⟩ rfl (fun _ => ?_) (fun hc => absurd hc (by decide))
    refine W.o_iloadN X (pc' := 48) d_method_3_47 rfl rfl ?_
    refine W.o_iloadN X (pc' := 49) d_method_3_48 rfl rfl ?_
    refine W.o_iadd X (pc' := 50) d_method_3_49 rfl ?_
    have fin : P ++ [x0, x1] = ((P ++ [x0]) ++ [x1]) := by simp
    exact W.o_ireturnI X d_method_3_50 rfl (by decide) (by decide) fun P hP => ⟨by rw [List.length_append]; exact congrArg (fun z => some (Value.int z)) (o32_add _ 2), (((Keep.refl h0 [ar]).wr w542 (Or.inl (List.mem_of_getElem? (i := 0) rfl))).wr w554 (Or.inl (List.mem_of_getElem? (i := 0) rfl))), by rw [fin]; exact A556⟩
  · have hs : P.length + 3 ≤ n := hsum
    have qx0 := lat x0 (by simp)
    have qx1 := lat x1 (by simp)
    have qx2 := lat x2 (by simp)
    refine W.o_aloadN X (pc' := 1) d_method_3_0 rfl rfl rfl ?_
    refine W.o_virtual X (pc' := 4) d_method_3_1 rfl (u := (⟨"java/lang/String", "length", "()I"⟩ : MethodName)) (z := (⟨"java/lang/String", "length", "()I"⟩ : MethodName)) (hw _ (List.mem_of_getElem? (i := 163) rfl)) (hw _ (List.mem_of_getElem? (i := 78) rfl)) (fun s' hZ => notFace_of_selects (args := #[]) (mvT hZ (hw _ (List.mem_of_getElem? (i := 80) rfl)))) (hw _ (List.mem_of_getElem? (i := 80) rfl)) (hw _ (List.mem_of_getElem? (i := 79) rfl)) (hw _ (List.mem_of_getElem? (i := 7) rfl)) (hw _ (List.mem_of_getElem? (i := 81) rfl)) (by decide) G0.1 (ctLen l Z a0 hw sg t [x0, x1, x2] cz h0 C0 hcz G0) (fun _ q => nomatch q) [] rfl (rest := []) rfl pd___I rfl rfl (by decide) (by exact Nat.le_of_ble_eq_true rfl) (by decide) (by decide) (fun v558 T q559 => ?_)
    obtain ⟨h562, S560, ⟨rfl, eh⟩, X561⟩ := q559
    have eh := eh.symm
    subst eh
    have X := X561 [] all0
    show W.Go _ _ _ _ _ _ _ _ _ _ _ (mkF m 4 #[.val (.ref ar), .val (.int (Int32.ofNat P.length)), .val (.ref sg), .unset] [(.int (3 : Int32))])
    refine W.o_istoreN X (pc' := 5) d_method_3_4 rfl (L' := #[.val (.ref ar), .val (.int (Int32.ofNat P.length)), .val (.ref sg), .val (.int (3 : Int32))]) rfl ?_
    refine W.o_iloadN X (pc' := 6) d_method_3_5 rfl rfl ?_
    refine W.o_ifle X (pt := 17) (pf := 9) d_method_3_6 ⟨by decide, by decide⟩ rfl (fun hc => absurd (by decide) hc) (fun _ => ?_)
    refine W.o_aloadN X (pc' := 10) d_method_3_9 rfl rfl rfl ?_
    refine W.o_iloadN X (pc' := 11) d_method_3_10 rfl rfl ?_
    refine W.o_aloadN X (pc' := 12) d_method_3_11 rfl rfl rfl ?_
    refine W.o_iconst X (0 : Int32) (pc' := 13) d_method_3_12 rfl rfl ?_
    refine W.o_virtual X (pc' := 16) d_method_3_13 rfl (u := (⟨"java/lang/String", "charAt", "(I)C"⟩ : MethodName)) (z := (⟨"java/lang/String", "charAt", "(I)C"⟩ : MethodName)) (hw _ (List.mem_of_getElem? (i := 204) rfl)) (hw _ (List.mem_of_getElem? (i := 205) rfl)) (fun s' hZ => notFace_of_selects (args := #[]) (mvT hZ (hw _ (List.mem_of_getElem? (i := 207) rfl)))) (hw _ (List.mem_of_getElem? (i := 207) rfl)) (hw _ (List.mem_of_getElem? (i := 206) rfl)) (hw _ (List.mem_of_getElem? (i := 7) rfl)) (hw _ (List.mem_of_getElem? (i := 208) rfl)) (by decide) G0.1 (ctCh l Z a0 hw sg t [x0, x1, x2] 0 fv cz h0 FM hfv C0 hcz (by exact Nat.le_of_ble_eq_true rfl) G0) (fun _ q => nomatch q) [(.int (0 : Int32))] rfl (rest := [(.int (Int32.ofNat P.length)), (.ref ar)]) rfl pd__I_C rfl rfl (by decide) (by exact Nat.le_of_ble_eq_true rfl) (by decide) (by decide) (fun v563 T q564 => ?_)
    obtain ⟨h567, S565, ⟨rfl, eh⟩, X566⟩ := q564
    have eh := eh.symm
    subst eh
    have X := X566 [] all0
    show W.Go _ _ _ _ _ _ _ _ _ _ _ (mkF m 16 #[.val (.ref ar), .val (.int (Int32.ofNat P.length)), .val (.ref sg), .val (.int (3 : Int32))] [(.int x0), (.int (Int32.ofNat P.length)), (.ref ar)])
    have hq572 : P.length < n := (by omega)
    refine W.o_castore X (pc' := 17) d_method_3_16 rfl A0 P.length (o32_clamp (Nat.lt_trans hq572 (Nat.lt_trans (by omega : n < 1001) (by decide)))) (o32_lt hq572 (Nat.lt_trans (by omega : n < 1001) (by decide))) (by rw [layC_len (Nat.le_of_lt hq572)]; exact hq572) gz (Or.inr (Or.inr (Or.inr (W.okArr A0 (by decide))))) (fun T h568 w569 a570 X => ?_)
    rw [nar_ch qx0.1 (no_big qx0.2)] at a570
    have A571 : Arv Z h568 ar ka .char (Int32.ofNat n) (layC n (P ++ [x0])) (.int 0) := by rw [← layC_set hq572]; exact a570
    have le1 : (P ++ [x0]).length = P.length + 1 := List.length_append.trans (congrArg (fun z => z + 1) rfl)
    refine W.o_iloadN X (pc' := 18) d_method_3_17 rfl rfl ?_
    refine W.o_iconst X (1 : Int32) (pc' := 19) d_method_3_18 rfl rfl ?_
    refine W.o_if_icmple X (pt := 32) (pf := 22) d_method_3_19 ⟨by decide, by decide⟩ rfl (fun hc => absurd (by decide) hc) (fun _ => ?_)
    refine W.o_aloadN X (pc' := 23) d_method_3_22 rfl rfl rfl ?_
    refine W.o_iloadN X (pc' := 24) d_method_3_23 rfl rfl ?_
    refine W.o_iconst X (1 : Int32) (pc' := 25) d_method_3_24 rfl rfl ?_
    refine W.o_iadd X (pc' := 26) d_method_3_25 rfl ?_
    refine W.o_aloadN X (pc' := 27) d_method_3_26 rfl rfl rfl ?_
    refine W.o_iconst X (1 : Int32) (pc' := 28) d_method_3_27 rfl rfl ?_
    have f573 := (G0.other w569 hsa hta)
    have f576 := (G0.1.wr w569)
    refine W.o_virtual X (pc' := 31) d_method_3_28 rfl (u := (⟨"java/lang/String", "charAt", "(I)C"⟩ : MethodName)) (z := (⟨"java/lang/String", "charAt", "(I)C"⟩ : MethodName)) (hw _ (List.mem_of_getElem? (i := 204) rfl)) (hw _ (List.mem_of_getElem? (i := 205) rfl)) (fun s' hZ => notFace_of_selects (args := #[]) (mvT hZ (hw _ (List.mem_of_getElem? (i := 207) rfl)))) (hw _ (List.mem_of_getElem? (i := 207) rfl)) (hw _ (List.mem_of_getElem? (i := 206) rfl)) (hw _ (List.mem_of_getElem? (i := 7) rfl)) (hw _ (List.mem_of_getElem? (i := 208) rfl)) (by decide) f576 (ctCh l Z a0 hw sg t [x0, x1, x2] 1 fv cz h568 FM hfv C0 hcz (by exact Nat.le_of_ble_eq_true rfl) f573) (fun _ q => nomatch q) [(.int (1 : Int32))] rfl (rest := [(.int ((Int32.ofNat P.length) + (1 : Int32))), (.ref ar)]) rfl pd__I_C rfl rfl (by decide) (by exact Nat.le_of_ble_eq_true rfl) (by decide) (by decide) (fun v574 T q575 => ?_)
    obtain ⟨h579, S577, ⟨rfl, eh⟩, X578⟩ := q575
    have eh := eh.symm
    subst eh
    have X := X578 [] all0
    show W.Go _ _ _ _ _ _ _ _ _ _ _ (mkF m 31 #[.val (.ref ar), .val (.int (Int32.ofNat P.length)), .val (.ref sg), .val (.int (3 : Int32))] [(.int x1), (.int ((Int32.ofNat P.length) + (1 : Int32))), (.ref ar)])
    have hx1 : ((Int32.ofNat P.length) + (1 : Int32)) = (Int32.ofNat (P ++ [x0]).length) := by rw [le1]; exact o32_add _ 1
    rw [hx1]
    have hq584 : (P ++ [x0]).length < n := (by omega)
    refine W.o_castore X (pc' := 32) d_method_3_31 rfl A571 (P ++ [x0]).length (o32_clamp (Nat.lt_trans hq584 (Nat.lt_trans (by omega : n < 1001) (by decide)))) (o32_lt hq584 (Nat.lt_trans (by omega : n < 1001) (by decide))) (by rw [layC_len (Nat.le_of_lt hq584)]; exact hq584) gz (Or.inr (Or.inr (Or.inr (W.okArr A571 (by decide))))) (fun T h580 w581 a582 X => ?_)
    rw [nar_ch qx1.1 (no_big qx1.2)] at a582
    have A583 : Arv Z h580 ar ka .char (Int32.ofNat n) (layC n ((P ++ [x0]) ++ [x1])) (.int 0) := by rw [← layC_set hq584]; exact a582
    have le2 : ((P ++ [x0]) ++ [x1]).length = P.length + 2 := List.length_append.trans (congrArg (fun z => z + 1) le1)
    refine W.o_iloadN X (pc' := 33) d_method_3_32 rfl rfl ?_
    refine W.o_iconst X (2 : Int32) (pc' := 34) d_method_3_33 rfl rfl ?_
    refine W.o_if_icmple X (pt := 47) (pf := 37) d_method_3_34 ⟨by decide, by decide⟩ rfl (fun hc => absurd (by decide) hc) (fun _ => ?_)
    refine W.o_aloadN X (pc' := 38) d_method_3_37 rfl rfl rfl ?_
    refine W.o_iloadN X (pc' := 39) d_method_3_38 rfl rfl ?_
    refine W.o_iconst X (2 : Int32) (pc' := 40) d_method_3_39 rfl rfl ?_
    refine W.o_iadd X (pc' := 41) d_method_3_40 rfl ?_
    refine W.o_aloadN X (pc' := 42) d_method_3_41 rfl rfl rfl ?_
    refine W.o_iconst X (2 : Int32) (pc' := 43) d_method_3_42 rfl rfl ?_
    have f585 := (f573.other w581 hsa hta)
    have f588 := (f576.wr w581)
    refine W.o_virtual X (pc' := 46) d_method_3_43 rfl (u := (⟨"java/lang/String", "charAt", "(I)C"⟩ : MethodName)) (z := (⟨"java/lang/String", "charAt", "(I)C"⟩ : MethodName)) (hw _ (List.mem_of_getElem? (i := 204) rfl)) (hw _ (List.mem_of_getElem? (i := 205) rfl)) (fun s' hZ => notFace_of_selects (args := #[]) (mvT hZ (hw _ (List.mem_of_getElem? (i := 207) rfl)))) (hw _ (List.mem_of_getElem? (i := 207) rfl)) (hw _ (List.mem_of_getElem? (i := 206) rfl)) (hw _ (List.mem_of_getElem? (i := 7) rfl)) (hw _ (List.mem_of_getElem? (i := 208) rfl)) (by decide) f588 (ctCh l Z a0 hw sg t [x0, x1, x2] 2 fv cz h580 FM hfv C0 hcz (by exact Nat.le_of_ble_eq_true rfl) f585) (fun _ q => nomatch q) [(.int (2 : Int32))] rfl (rest := [(.int ((Int32.ofNat P.length) + (2 : Int32))), (.ref ar)]) rfl pd__I_C rfl rfl (by decide) (by exact Nat.le_of_ble_eq_true rfl) (by decide) (by decide) (fun v586 T q587 => ?_)
    obtain ⟨h591, S589, ⟨rfl, eh⟩, X590⟩ := q587
    have eh := eh.symm
    subst eh
    have X := X590 [] all0
    show W.Go _ _ _ _ _ _ _ _ _ _ _ (mkF m 46 #[.val (.ref ar), .val (.int (Int32.ofNat P.length)), .val (.ref sg), .val (.int (3 : Int32))] [(.int x2), (.int ((Int32.ofNat P.length) + (2 : Int32))), (.ref ar)])
    have hx2 : ((Int32.ofNat P.length) + (2 : Int32)) = (Int32.ofNat ((P ++ [x0]) ++ [x1]).length) := by rw [le2]; exact o32_add _ 2
    rw [hx2]
    have hq596 : ((P ++ [x0]) ++ [x1]).length < n := (by omega)
    refine W.o_castore X (pc' := 47) d_method_3_46 rfl A583 ((P ++ [x0]) ++ [x1]).length (o32_clamp (Nat.lt_trans hq596 (Nat.lt_trans (by omega : n < 1001) (by decide)))) (o32_lt hq596 (Nat.lt_trans (by omega : n < 1001) (by decide))) (by rw [layC_len (Nat.le_of_lt hq596)]; exact hq596) gz (Or.inr (Or.inr (Or.inr (W.okArr A583 (by decide))))) (fun T h592 w593 a594 X => ?_)
    rw [nar_ch qx2.1 (no_big qx2.2)] at a594
    have A595 : Arv Z h592 ar ka .char (Int32.ofNat n) (layC n (((P ++ [x0]) ++ [x1]) ++ [x2])) (.int 0) := by rw [← layC_set hq596]; exact a594
    have le3 : (((P ++ [x0]) ++ [x1]) ++ [x2]).length = P.length + 3 := List.length_append.trans (congrArg (fun z => z + 1) le2)
    refine W.o_iloadN X (pc' := 48) d_method_3_47 rfl rfl ?_
    refine W.o_iloadN X (pc' := 49) d_method_3_48 rfl rfl ?_
    refine W.o_iadd X (pc' := 50) d_method_3_49 rfl ?_
    have fin : P ++ [x0, x1, x2] = (((P ++ [x0]) ++ [x1]) ++ [x2]) := by simp
    exact W.o_ireturnI X d_method_3_50 rfl (by decide) (by decide) fun P hP => ⟨by rw [List.length_append]; exact congrArg (fun z => some (Value.int z)) (o32_add _ 3), ((((Keep.refl h0 [ar]).wr w569 (Or.inl (List.mem_of_getElem? (i := 0) rfl))).wr w581 (Or.inl (List.mem_of_getElem? (i := 0) rfl))).wr w593 (Or.inl (List.mem_of_getElem? (i := 0) rfl))), by rw [fin]; exact A595⟩
  · exact absurd hds (by simp only [List.length_cons]; omega)
theorem len_0 {q l0 l1 l2 n : Nat} (hn : n = l0 + l1 + l2 + 14) (hq : q = 0) : q + l0 ≤ n := by omega
theorem len_1 {q l0 l1 l2 n : Nat} (hn : n = l0 + l1 + l2 + 14) (hq : q = l0 + 0) : q < n := by omega
theorem len_2 {q l0 l1 l2 n : Nat} (hn : n = l0 + l1 + l2 + 14) (hq : q = l0 + 1) : q < n := by omega
theorem len_3 {q l0 l1 l2 n : Nat} (hn : n = l0 + l1 + l2 + 14) (hq : q = l0 + 2) : q < n := by omega
theorem len_4 {q l0 l1 l2 n : Nat} (hn : n = l0 + l1 + l2 + 14) (hq : q = l0 + 3) : q < n := by omega
theorem len_5 {q l0 l1 l2 n : Nat} (hn : n = l0 + l1 + l2 + 14) (hq : q = l0 + 4) : q < n := by omega
theorem len_6 {q l0 l1 l2 n : Nat} (hn : n = l0 + l1 + l2 + 14) (hq : q = l0 + 5) : q + l1 ≤ n := by omega
theorem len_7 {q l0 l1 l2 n : Nat} (hn : n = l0 + l1 + l2 + 14) (hq : q = l0 + 5 + l1 + 0) : q < n := by omega
theorem len_8 {q l0 l1 l2 n : Nat} (hn : n = l0 + l1 + l2 + 14) (hq : q = l0 + 5 + l1 + 1) : q < n := by omega
theorem len_9 {q l0 l1 l2 n : Nat} (hn : n = l0 + l1 + l2 + 14) (hq : q = l0 + 5 + l1 + 2) : q < n := by omega
theorem len_10 {q l0 l1 l2 n : Nat} (hn : n = l0 + l1 + l2 + 14) (hq : q = l0 + 5 + l1 + 3) : q < n := by omega
theorem len_11 {q l0 l1 l2 n : Nat} (hn : n = l0 + l1 + l2 + 14) (hq : q = l0 + 5 + l1 + 4) : q < n := by omega
theorem len_12 {q l0 l1 l2 n : Nat} (hn : n = l0 + l1 + l2 + 14) (hq : q = l0 + 5 + l1 + 5) : q < n := by omega
theorem len_13 {q l0 l1 l2 n : Nat} (hn : n = l0 + l1 + l2 + 14) (hq : q = l0 + 5 + l1 + 6) : q < n := by omega
theorem len_14 {q l0 l1 l2 n : Nat} (hn : n = l0 + l1 + l2 + 14) (hq : q = l0 + 5 + l1 + 7) : q < n := by omega
theorem len_15 {q l0 l1 l2 n : Nat} (hn : n = l0 + l1 + l2 + 14) (hq : q = l0 + 5 + l1 + 8) : q + l2 ≤ n := by omega
theorem len_16 {q l0 l1 l2 n : Nat} (hn : n = l0 + l1 + l2 + 14) (hq : q = l0 + 5 + l1 + 8 + l2 + 0) : q < n := by omega
theorem len_17 {q l0 l1 l2 n : Nat} (hn : n = l0 + l1 + l2 + 14) (hq : q = l0 + 5 + l1 + 8 + l2 + 1) : q = n := by omega
set_option maxRecDepth 65536 in
set_option maxHeartbeats 40000000 in
theorem ctLaw (l : Launch) (Z : State) (a0 : Array Value) (hw : ∀ d ∈ tables_1, d.before a0 Z = true) (p0 p1 p2 cz : Int32) (fv : Value) (h0 : Heap) (C0 : Sta Z Z.heap "java/lang/String" "COMPACT_STRINGS" "Z" (.int cz)) (hcz : ¬ cz = 0) (FM : Sta Z Z.heap "jdk/internal/util/Preconditions" "SIOOBE_FORMATTER" "Ljava/util/function/BiFunction;" fv) (hfv : fv.isRef = true) :
    W.Ct wd Z a0 el l x code maxLocals ret room_1 #[(.int p0), (.int p1), (.int p2)] h0 [] (fun v h S => v = some (.int 1)) := by
  refine W.Ct.walk hwe (plainFor_of_name pn_com_example_kindling_kindling_ValueDescribedPinLaw) ?_
  intro p e s m below meth c T hE0 X
  refine W.castG (show entryFrame m #[(.int p0), (.int p1), (.int p2)] maxLocals = mkF m 0 #[.val (.int p0), .val (.int p1), .val (.int p2), .unset, .unset, .unset, .unset, .unset, .unset] [] from by first | (simp [entryFrame, mkF, argsToLocals, Value.category, maxLocals]; done) | rfl) ?_
  refine W.o_iloadN X (pc' := 1) at_0 rfl rfl ?_
  refine W.o_static X (pc' := 4) at_1 rfl (z := (⟨"com/example/kindling/kindling/ValueDescribedPinLaw", "draw", "(I)Ljava/lang/String;"⟩ : MethodName)) (hw _ (List.mem_of_getElem? (i := 0) rfl)) (hw _ (List.mem_of_getElem? (i := 1) rfl)) (hw _ (List.mem_of_getElem? (i := 2) rfl)) (hw _ (List.mem_of_getElem? (i := 3) rfl)) (by decide) (ctDraw l Z a0 hw p0 cz h0 C0 hcz) (fun _ q => nomatch q) [(.int p0)] rfl (rest := []) rfl pd__I_Ljava_lang_String_ rfl rfl (by decide) (by exact Nat.le_of_ble_eq_true rfl) (by decide) (by decide) (fun v597 T q598 => ?_)
  obtain ⟨h601, S599, ⟨s0, t0, cs0, rfl, K0, g0, G0, n0⟩, X600⟩ := q598
  have X := X600 [] all0
  show W.Go _ _ _ _ _ _ _ _ _ _ _ (mkF m 4 #[.val (.int p0), .val (.int p1), .val (.int p2), .unset, .unset, .unset, .unset, .unset, .unset] [(.ref s0)])
  refine W.o_astoreN X (pc' := 5) at_4 rfl (L' := #[.val (.int p0), .val (.int p1), .val (.int p2), .val (.ref s0), .unset, .unset, .unset, .unset, .unset]) rfl rfl ?_
  refine W.o_iloadN X (pc' := 6) at_5 rfl rfl ?_
  refine W.o_static X (pc' := 9) at_6 rfl (z := (⟨"com/example/kindling/kindling/ValueDescribedPinLaw", "draw", "(I)Ljava/lang/String;"⟩ : MethodName)) (hw _ (List.mem_of_getElem? (i := 0) rfl)) (hw _ (List.mem_of_getElem? (i := 1) rfl)) (hw _ (List.mem_of_getElem? (i := 2) rfl)) (hw _ (List.mem_of_getElem? (i := 3) rfl)) (by decide) (ctDraw l Z a0 hw p1 cz h601 C0 hcz) (fun _ q => nomatch q) [(.int p1)] rfl (rest := []) rfl pd__I_Ljava_lang_String_ rfl rfl (by decide) (by exact Nat.le_of_ble_eq_true rfl) (by decide) (by decide) (fun v602 T q603 => ?_)
  obtain ⟨h606, S604, ⟨s1, t1, cs1, rfl, K1, g1, G1, n1⟩, X605⟩ := q603
  have X := X605 [] all0
  show W.Go _ _ _ _ _ _ _ _ _ _ _ (mkF m 9 #[.val (.int p0), .val (.int p1), .val (.int p2), .val (.ref s0), .unset, .unset, .unset, .unset, .unset] [(.ref s1)])
  refine W.o_astore X (pc' := 11) at_9 rfl (L' := #[.val (.int p0), .val (.int p1), .val (.int p2), .val (.ref s0), .val (.ref s1), .unset, .unset, .unset, .unset]) rfl rfl ?_
  refine W.o_iloadN X (pc' := 12) at_11 rfl rfl ?_
  refine W.o_static X (pc' := 15) at_12 rfl (z := (⟨"com/example/kindling/kindling/ValueDescribedPinLaw", "draw", "(I)Ljava/lang/String;"⟩ : MethodName)) (hw _ (List.mem_of_getElem? (i := 0) rfl)) (hw _ (List.mem_of_getElem? (i := 1) rfl)) (hw _ (List.mem_of_getElem? (i := 2) rfl)) (hw _ (List.mem_of_getElem? (i := 3) rfl)) (by decide) (ctDraw l Z a0 hw p2 cz h606 C0 hcz) (fun _ q => nomatch q) [(.int p2)] rfl (rest := []) rfl pd__I_Ljava_lang_String_ rfl rfl (by decide) (by exact Nat.le_of_ble_eq_true rfl) (by decide) (by decide) (fun v607 T q608 => ?_)
  obtain ⟨h611, S609, ⟨s2, t2, cs2, rfl, K2, g2, G2, n2⟩, X610⟩ := q608
  have X := X610 [] all0
  show W.Go _ _ _ _ _ _ _ _ _ _ _ (mkF m 15 #[.val (.int p0), .val (.int p1), .val (.int p2), .val (.ref s0), .val (.ref s1), .unset, .unset, .unset, .unset] [(.ref s2)])
  refine W.o_astore X (pc' := 17) at_15 rfl (L' := #[.val (.int p0), .val (.int p1), .val (.int p2), .val (.ref s0), .val (.ref s1), .val (.ref s2), .unset, .unset, .unset]) rfl rfl ?_
  refine W.o_new X (pc' := 20) at_17 rfl (hw _ (List.mem_of_getElem? (i := 26) rfl)) (hw _ (List.mem_of_getElem? (i := 27) rfl)) (hw _ (List.mem_of_getElem? (i := 28) rfl)) (by decide) (by decide) (fun T h612 b613 g614 z615 e616 a617 D618 X => ?_)
  have f619 : Fld Z h612 b613 "com/example/kindling/kindling/Environment$Value" "key" "Ljava/lang/String;" .null := D618 (Or.inr (hw _ (List.mem_of_getElem? (i := 39) rfl))) (ty := (.object "java/lang/String")) (by decide)
  have f620 : Fld Z h612 b613 "com/example/kindling/kindling/Environment$Value" "text" "Ljava/lang/String;" .null := D618 (Or.inr (hw _ (List.mem_of_getElem? (i := 41) rfl))) (ty := (.object "java/lang/String")) (by decide)
  have f621 : Fld Z h612 b613 "com/example/kindling/kindling/Environment$Value" "origin" "Ljava/lang/String;" .null := D618 (Or.inr (hw _ (List.mem_of_getElem? (i := 43) rfl))) (ty := (.object "java/lang/String")) (by decide)
  refine W.o_dup X (pc' := 21) at_20 rfl rfl ?_
  refine W.o_aloadN X (pc' := 22) at_21 rfl rfl rfl ?_
  refine W.o_aload X (pc' := 24) at_22 rfl rfl rfl ?_
  refine W.o_aload X (pc' := 26) at_24 rfl rfl rfl ?_
  refine W.o_special X (pc' := 29) at_26 rfl (z := (⟨"com/example/kindling/kindling/Environment$Value", "<init>", "(Ljava/lang/String;Ljava/lang/String;Ljava/lang/String;)V"⟩ : MethodName)) rfl (hw _ (List.mem_of_getElem? (i := 29) rfl)) (hw _ (List.mem_of_getElem? (i := 30) rfl)) (hw _ (List.mem_of_getElem? (i := 28) rfl)) (hw _ (List.mem_of_getElem? (i := 31) rfl)) (by decide) (ctVI l Z a0 hw b613 s0 s1 s2 h612 z615 a617 f619 f620 f621) (fun _ q => nomatch q) [(.ref s0), (.ref s1), (.ref s2)] rfl (rest := [(.ref b613)]) rfl pd__Ljava_lang_String_Ljava_lang_String_Ljava_lang_String__V rfl rfl (by decide) (by exact Nat.le_of_ble_eq_true rfl) (by decide) (by decide) (fun v622 T q623 => ?_)
  obtain ⟨h626, S624, ⟨rfl, KV, EVV, FV0, FV1, FV2⟩, X625⟩ := q623
  have X := X625 [] all0
  show W.Go _ _ _ _ _ _ _ _ _ _ _ (mkF m 29 #[.val (.int p0), .val (.int p1), .val (.int p2), .val (.ref s0), .val (.ref s1), .val (.ref s2), .unset, .unset, .unset] [(.ref b613)])
  have f627 := ((((G0.keep K1 nin0 nin0).keep K2 nin0 nin0).ext e616).keep KV (ninS (Nat.ne_of_lt (Nat.lt_of_lt_of_le ((G0.keep K1 nin0 nin0).keep K2 nin0 nin0).lt (Nat.le_of_eq g614.symm))) nin0) (ninS (Nat.ne_of_lt (Nat.lt_of_lt_of_le ((G0.keep K1 nin0 nin0).keep K2 nin0 nin0).lt' (Nat.le_of_eq g614.symm))) nin0))
  have f628 := (((G1.keep K2 nin0 nin0).ext e616).keep KV (ninS (Nat.ne_of_lt (Nat.lt_of_lt_of_le (G1.keep K2 nin0 nin0).lt (Nat.le_of_eq g614.symm))) nin0) (ninS (Nat.ne_of_lt (Nat.lt_of_lt_of_le (G1.keep K2 nin0 nin0).lt' (Nat.le_of_eq g614.symm))) nin0))
  have f629 := ((G2.ext e616).keep KV (ninS (Nat.ne_of_lt (Nat.lt_of_lt_of_le G2.lt (Nat.le_of_eq g614.symm))) nin0) (ninS (Nat.ne_of_lt (Nat.lt_of_lt_of_le G2.lt' (Nat.le_of_eq g614.symm))) nin0))
  refine W.o_virtual X (pc' := 32) at_29 rfl (u := (⟨"com/example/kindling/kindling/Environment$Value", "described", "()Ljava/lang/String;"⟩ : MethodName)) (z := (⟨"com/example/kindling/kindling/Environment$Value", "described", "()Ljava/lang/String;"⟩ : MethodName)) (hw _ (List.mem_of_getElem? (i := 44) rfl)) (hw _ (List.mem_of_getElem? (i := 45) rfl)) (fun s' hZ => notFace_of_selects (args := #[]) (mvT hZ (hw _ (List.mem_of_getElem? (i := 47) rfl)))) (hw _ (List.mem_of_getElem? (i := 47) rfl)) (hw _ (List.mem_of_getElem? (i := 46) rfl)) (hw _ (List.mem_of_getElem? (i := 28) rfl)) (hw _ (List.mem_of_getElem? (i := 48) rfl)) (by decide) EVV (ctDes l Z a0 hw b613 s0 s1 s2 t0 t1 t2 cs0 cs1 cs2 cz h626 C0 hcz EVV FV0 f627 n0 FV1 f628 n1 FV2 f629 n2) (fun _ q => nomatch q) [] rfl (rest := []) rfl pd___Ljava_lang_String_ rfl rfl (by decide) (by exact Nat.le_of_ble_eq_true rfl) (by decide) (by decide) (fun v630 T q631 => ?_)
  obtain ⟨h634, S632, ⟨rd, tr, rfl, KD, gr, RD⟩, X633⟩ := q631
  have X := X633 [] all0
  show W.Go _ _ _ _ _ _ _ _ _ _ _ (mkF m 32 #[.val (.int p0), .val (.int p1), .val (.int p2), .val (.ref s0), .val (.ref s1), .val (.ref s2), .unset, .unset, .unset] [(.ref rd)])
  refine W.o_astore X (pc' := 34) at_32 rfl (L' := #[.val (.int p0), .val (.int p1), .val (.int p2), .val (.ref s0), .val (.ref s1), .val (.ref s2), .val (.ref rd), .unset, .unset]) rfl rfl ?_
  refine W.o_aloadN X (pc' := 35) at_34 rfl rfl rfl ?_
  have f635 := (f627.keep KD nin0 nin0)
  have f638 := (((((G0.1.keep K1).keep K2).ext e616).keep KV).keep KD)
  refine W.o_virtual X (pc' := 38) at_35 rfl (u := (⟨"java/lang/String", "length", "()I"⟩ : MethodName)) (z := (⟨"java/lang/String", "length", "()I"⟩ : MethodName)) (hw _ (List.mem_of_getElem? (i := 163) rfl)) (hw _ (List.mem_of_getElem? (i := 78) rfl)) (fun s' hZ => notFace_of_selects (args := #[]) (mvT hZ (hw _ (List.mem_of_getElem? (i := 80) rfl)))) (hw _ (List.mem_of_getElem? (i := 80) rfl)) (hw _ (List.mem_of_getElem? (i := 79) rfl)) (hw _ (List.mem_of_getElem? (i := 7) rfl)) (hw _ (List.mem_of_getElem? (i := 81) rfl)) (by decide) f638 (ctLen l Z a0 hw s0 t0 cs0 cz h634 C0 hcz f635) (fun _ q => nomatch q) [] rfl (rest := []) rfl pd___I rfl rfl (by decide) (by exact Nat.le_of_ble_eq_true rfl) (by decide) (by decide) (fun v636 T q637 => ?_)
  obtain ⟨h641, S639, ⟨rfl, eh⟩, X640⟩ := q637
  have eh := eh.symm
  subst eh
  have X := X640 [] all0
  show W.Go _ _ _ _ _ _ _ _ _ _ _ (mkF m 38 #[.val (.int p0), .val (.int p1), .val (.int p2), .val (.ref s0), .val (.ref s1), .val (.ref s2), .val (.ref rd), .unset, .unset] [(.int (Int32.ofNat cs0.length))])
  refine W.o_aload X (pc' := 40) at_38 rfl rfl rfl ?_
  have f642 := (f628.keep KD nin0 nin0)
  have f645 := ((((G1.1.keep K2).ext e616).keep KV).keep KD)
  refine W.o_virtual X (pc' := 43) at_40 rfl (u := (⟨"java/lang/String", "length", "()I"⟩ : MethodName)) (z := (⟨"java/lang/String", "length", "()I"⟩ : MethodName)) (hw _ (List.mem_of_getElem? (i := 163) rfl)) (hw _ (List.mem_of_getElem? (i := 78) rfl)) (fun s' hZ => notFace_of_selects (args := #[]) (mvT hZ (hw _ (List.mem_of_getElem? (i := 80) rfl)))) (hw _ (List.mem_of_getElem? (i := 80) rfl)) (hw _ (List.mem_of_getElem? (i := 79) rfl)) (hw _ (List.mem_of_getElem? (i := 7) rfl)) (hw _ (List.mem_of_getElem? (i := 81) rfl)) (by decide) f645 (ctLen l Z a0 hw s1 t1 cs1 cz h634 C0 hcz f642) (fun _ q => nomatch q) [] rfl (rest := [(.int (Int32.ofNat cs0.length))]) rfl pd___I rfl rfl (by decide) (by exact Nat.le_of_ble_eq_true rfl) (by decide) (by decide) (fun v643 T q644 => ?_)
  obtain ⟨h648, S646, ⟨rfl, eh⟩, X647⟩ := q644
  have eh := eh.symm
  subst eh
  have X := X647 [] all0
  show W.Go _ _ _ _ _ _ _ _ _ _ _ (mkF m 43 #[.val (.int p0), .val (.int p1), .val (.int p2), .val (.ref s0), .val (.ref s1), .val (.ref s2), .val (.ref rd), .unset, .unset] [(.int (Int32.ofNat cs1.length)), (.int (Int32.ofNat cs0.length))])
  refine W.o_iadd X (pc' := 44) at_43 rfl ?_
  rw [o32_add]
  refine W.o_aload X (pc' := 46) at_44 rfl rfl rfl ?_
  have f649 := (f629.keep KD nin0 nin0)
  have f652 := (((G2.1.ext e616).keep KV).keep KD)
  refine W.o_virtual X (pc' := 49) at_46 rfl (u := (⟨"java/lang/String", "length", "()I"⟩ : MethodName)) (z := (⟨"java/lang/String", "length", "()I"⟩ : MethodName)) (hw _ (List.mem_of_getElem? (i := 163) rfl)) (hw _ (List.mem_of_getElem? (i := 78) rfl)) (fun s' hZ => notFace_of_selects (args := #[]) (mvT hZ (hw _ (List.mem_of_getElem? (i := 80) rfl)))) (hw _ (List.mem_of_getElem? (i := 80) rfl)) (hw _ (List.mem_of_getElem? (i := 79) rfl)) (hw _ (List.mem_of_getElem? (i := 7) rfl)) (hw _ (List.mem_of_getElem? (i := 81) rfl)) (by decide) f652 (ctLen l Z a0 hw s2 t2 cs2 cz h634 C0 hcz f649) (fun _ q => nomatch q) [] rfl (rest := [(.int (Int32.ofNat (cs0.length + cs1.length)))]) rfl pd___I rfl rfl (by decide) (by exact Nat.le_of_ble_eq_true rfl) (by decide) (by decide) (fun v650 T q651 => ?_)
  obtain ⟨h655, S653, ⟨rfl, eh⟩, X654⟩ := q651
  have eh := eh.symm
  subst eh
  have X := X654 [] all0
  show W.Go _ _ _ _ _ _ _ _ _ _ _ (mkF m 49 #[.val (.int p0), .val (.int p1), .val (.int p2), .val (.ref s0), .val (.ref s1), .val (.ref s2), .val (.ref rd), .unset, .unset] [(.int (Int32.ofNat cs2.length)), (.int (Int32.ofNat (cs0.length + cs1.length)))])
  refine W.o_iadd X (pc' := 50) at_49 rfl ?_
  rw [o32_add]
  refine W.o_bipush X (14 : Int32) (pc' := 52) at_50 rfl rfl ?_
  refine W.o_iadd X (pc' := 53) at_52 rfl ?_
  obtain ⟨n, hn⟩ : ∃ n, n = cs0.length + cs1.length + cs2.length + 14 := ⟨_, rfl⟩
  rw [show Int32.ofNat (cs0.length + cs1.length + cs2.length) + (14 : Int32) = Int32.ofNat n from by rw [hn]; exact o32_add _ 14]
  have hn23 : n ≤ 23 := by rw [hn]; exact Nat.add_le_add_right (Nat.add_le_add (Nat.add_le_add n0 n1) n2) 14
  have hnn : n < 1001 := Nat.lt_of_le_of_lt hn23 (by decide)
  have hnb : n < 2147483648 := Nat.lt_of_le_of_lt hn23 (by decide)
  refine W.o_newarray X (pc' := 55) at_53 rfl (hw _ (List.mem_of_getElem? (i := 4) rfl)) (o32_nn hnb) (cap := 23) (by rw [o32_clamp hnb]; exact hn23) (by decide) (by decide) (by decide) (fun T hA ar ka gA zA EA VA X => ?_)
  have A0 : Arv Z hA ar ka .char (Int32.ofNat n) (layC n []) (.int 0) := by rw [layC_nil]; exact VA.pad (pad_rep [] (.int 0) n)
  refine W.o_astore X (pc' := 57) at_55 rfl (L' := #[.val (.int p0), .val (.int p1), .val (.int p2), .val (.ref s0), .val (.ref s1), .val (.ref s2), .val (.ref rd), .val (.ref ar), .unset]) rfl rfl ?_
  refine W.o_aload X (pc' := 59) at_57 rfl rfl rfl ?_
  refine W.o_iconst X (0 : Int32) (pc' := 60) at_59 rfl rfl ?_
  refine W.o_aloadN X (pc' := 61) at_60 rfl rfl rfl ?_
  have f658 := (f635.ext EA)
  refine W.o_static X (pc' := 64) at_61 rfl (z := (⟨"com/example/kindling/kindling/ValueDescribedPinLaw", "put", "([CILjava/lang/String;)I"⟩ : MethodName)) (hw _ (List.mem_of_getElem? (i := 164) rfl)) (hw _ (List.mem_of_getElem? (i := 165) rfl)) (hw _ (List.mem_of_getElem? (i := 2) rfl)) (hw _ (List.mem_of_getElem? (i := 166) rfl)) (by decide) (ctPut l Z a0 hw ar s0 t0 ka n [] cs0 fv cz hA FM hfv C0 hcz (Nat.le_of_lt_succ hnn) n0 (len_0 hn rfl) zA (Nat.ne_of_lt (Nat.lt_of_lt_of_le (((((G0.keep K1 nin0 nin0).keep K2 nin0 nin0).ext e616).keep KV (ninS (Nat.ne_of_lt (Nat.lt_of_lt_of_le ((G0.keep K1 nin0 nin0).keep K2 nin0 nin0).lt (Nat.le_of_eq g614.symm))) nin0) (ninS (Nat.ne_of_lt (Nat.lt_of_lt_of_le ((G0.keep K1 nin0 nin0).keep K2 nin0 nin0).lt' (Nat.le_of_eq g614.symm))) nin0)).keep KD nin0 nin0).lt (Nat.le_of_eq gA.symm))) (Nat.ne_of_lt (Nat.lt_of_lt_of_le (((((G0.keep K1 nin0 nin0).keep K2 nin0 nin0).ext e616).keep KV (ninS (Nat.ne_of_lt (Nat.lt_of_lt_of_le ((G0.keep K1 nin0 nin0).keep K2 nin0 nin0).lt (Nat.le_of_eq g614.symm))) nin0) (ninS (Nat.ne_of_lt (Nat.lt_of_lt_of_le ((G0.keep K1 nin0 nin0).keep K2 nin0 nin0).lt' (Nat.le_of_eq g614.symm))) nin0)).keep KD nin0 nin0).lt' (Nat.le_of_eq gA.symm))) f658 A0) (fun _ q => nomatch q) [(.ref ar), (.int (0 : Int32)), (.ref s0)] rfl (rest := []) rfl pd___CILjava_lang_String__I rfl rfl (by decide) (by exact Nat.le_of_ble_eq_true rfl) (by decide) (by decide) (fun v659 T q660 => ?_)
  obtain ⟨h663, S661, ⟨rfl, K656, B657⟩, X662⟩ := q660
  have X := X662 [] all0
  have B657 : Arv Z h663 ar ka .char (Int32.ofNat n) (layC n cs0) (.int 0) := B657
  have f664 := ((f642.ext EA).keep K656 (ninS (Nat.ne_of_lt (Nat.lt_of_lt_of_le ((((G1.keep K2 nin0 nin0).ext e616).keep KV (ninS (Nat.ne_of_lt (Nat.lt_of_lt_of_le (G1.keep K2 nin0 nin0).lt (Nat.le_of_eq g614.symm))) nin0) (ninS (Nat.ne_of_lt (Nat.lt_of_lt_of_le (G1.keep K2 nin0 nin0).lt' (Nat.le_of_eq g614.symm))) nin0)).keep KD nin0 nin0).lt (Nat.le_of_eq gA.symm))) nin0) (ninS (Nat.ne_of_lt (Nat.lt_of_lt_of_le ((((G1.keep K2 nin0 nin0).ext e616).keep KV (ninS (Nat.ne_of_lt (Nat.lt_of_lt_of_le (G1.keep K2 nin0 nin0).lt (Nat.le_of_eq g614.symm))) nin0) (ninS (Nat.ne_of_lt (Nat.lt_of_lt_of_le (G1.keep K2 nin0 nin0).lt' (Nat.le_of_eq g614.symm))) nin0)).keep KD nin0 nin0).lt' (Nat.le_of_eq gA.symm))) nin0))
  have f665 := ((f649.ext EA).keep K656 (ninS (Nat.ne_of_lt (Nat.lt_of_lt_of_le (((G2.ext e616).keep KV (ninS (Nat.ne_of_lt (Nat.lt_of_lt_of_le G2.lt (Nat.le_of_eq g614.symm))) nin0) (ninS (Nat.ne_of_lt (Nat.lt_of_lt_of_le G2.lt' (Nat.le_of_eq g614.symm))) nin0)).keep KD nin0 nin0).lt (Nat.le_of_eq gA.symm))) nin0) (ninS (Nat.ne_of_lt (Nat.lt_of_lt_of_le (((G2.ext e616).keep KV (ninS (Nat.ne_of_lt (Nat.lt_of_lt_of_le G2.lt (Nat.le_of_eq g614.symm))) nin0) (ninS (Nat.ne_of_lt (Nat.lt_of_lt_of_le G2.lt' (Nat.le_of_eq g614.symm))) nin0)).keep KD nin0 nin0).lt' (Nat.le_of_eq gA.symm))) nin0))
  have f666 := ((RD.ext EA).keep K656 (ninS (Nat.ne_of_lt (Nat.lt_of_lt_of_le RD.lt (Nat.le_of_eq gA.symm))) nin0) (ninS (Nat.ne_of_lt (Nat.lt_of_lt_of_le RD.lt' (Nat.le_of_eq gA.symm))) nin0))
  have f667 := ((RD.1.ext EA).keep K656)
  show W.Go _ _ _ _ _ _ _ _ _ _ _ (mkF m 64 #[.val (.int p0), .val (.int p1), .val (.int p2), .val (.ref s0), .val (.ref s1), .val (.ref s2), .val (.ref rd), .val (.ref ar), .unset] [(.int (Int32.ofNat cs0.length))])
  refine W.o_istore X (pc' := 66) at_64 rfl (L' := #[.val (.int p0), .val (.int p1), .val (.int p2), .val (.ref s0), .val (.ref s1), .val (.ref s2), .val (.ref rd), .val (.ref ar), .val (.int (Int32.ofNat cs0.length))]) rfl ?_
  refine W.o_aload X (pc' := 68) at_66 rfl rfl rfl ?_
  refine W.o_iload X (pc' := 70) at_68 rfl rfl ?_
  refine W.o_bipush X (32 : Int32) (pc' := 72) at_70 rfl rfl ?_
  have hq672 : cs0.length < n := len_1 hn rfl
  refine W.o_castore X (pc' := 73) at_72 rfl B657 cs0.length (o32_clamp (Nat.lt_trans hq672 (Nat.lt_trans hnn (by decide)))) (o32_lt hq672 (Nat.lt_trans hnn (by decide))) (by rw [layC_len (Nat.le_of_lt hq672)]; exact hq672) zA (Or.inr (Or.inl (by simp))) (fun T h668 w669 a670 X => ?_)
  rw [show nar .char (32 : Int32) = (32 : Int32) from rfl] at a670
  have A671 : Arv Z h668 ar ka .char (Int32.ofNat n) (layC n (cs0 ++ [32])) (.int 0) := by rw [← layC_set hq672]; exact a670
  have le1 : (cs0 ++ [32]).length = cs0.length + 1 := List.length_append.trans (congrArg (fun z => z + 1) rfl)
  have f673 := (f664.other w669 (Nat.ne_of_lt (Nat.lt_of_lt_of_le ((((G1.keep K2 nin0 nin0).ext e616).keep KV (ninS (Nat.ne_of_lt (Nat.lt_of_lt_of_le (G1.keep K2 nin0 nin0).lt (Nat.le_of_eq g614.symm))) nin0) (ninS (Nat.ne_of_lt (Nat.lt_of_lt_of_le (G1.keep K2 nin0 nin0).lt' (Nat.le_of_eq g614.symm))) nin0)).keep KD nin0 nin0).lt (Nat.le_of_eq gA.symm))) (Nat.ne_of_lt (Nat.lt_of_lt_of_le ((((G1.keep K2 nin0 nin0).ext e616).keep KV (ninS (Nat.ne_of_lt (Nat.lt_of_lt_of_le (G1.keep K2 nin0 nin0).lt (Nat.le_of_eq g614.symm))) nin0) (ninS (Nat.ne_of_lt (Nat.lt_of_lt_of_le (G1.keep K2 nin0 nin0).lt' (Nat.le_of_eq g614.symm))) nin0)).keep KD nin0 nin0).lt' (Nat.le_of_eq gA.symm))))
  have f674 := (f665.other w669 (Nat.ne_of_lt (Nat.lt_of_lt_of_le (((G2.ext e616).keep KV (ninS (Nat.ne_of_lt (Nat.lt_of_lt_of_le G2.lt (Nat.le_of_eq g614.symm))) nin0) (ninS (Nat.ne_of_lt (Nat.lt_of_lt_of_le G2.lt' (Nat.le_of_eq g614.symm))) nin0)).keep KD nin0 nin0).lt (Nat.le_of_eq gA.symm))) (Nat.ne_of_lt (Nat.lt_of_lt_of_le (((G2.ext e616).keep KV (ninS (Nat.ne_of_lt (Nat.lt_of_lt_of_le G2.lt (Nat.le_of_eq g614.symm))) nin0) (ninS (Nat.ne_of_lt (Nat.lt_of_lt_of_le G2.lt' (Nat.le_of_eq g614.symm))) nin0)).keep KD nin0 nin0).lt' (Nat.le_of_eq gA.symm))))
  have f675 := (f666.other w669 (Nat.ne_of_lt (Nat.lt_of_lt_of_le RD.lt (Nat.le_of_eq gA.symm))) (Nat.ne_of_lt (Nat.lt_of_lt_of_le RD.lt' (Nat.le_of_eq gA.symm))))
  have f676 := (f667.wr w669)
  refine W.o_aload X (pc' := 75) at_73 rfl rfl rfl ?_
  refine W.o_iload X (pc' := 77) at_75 rfl rfl ?_
  refine W.o_iconst X (1 : Int32) (pc' := 78) at_77 rfl rfl ?_
  refine W.o_iadd X (pc' := 79) at_78 rfl ?_
  refine W.o_bipush X (105 : Int32) (pc' := 81) at_79 rfl rfl ?_
  have hx1 : ((Int32.ofNat cs0.length) + (1 : Int32)) = (Int32.ofNat (cs0 ++ [32]).length) := by rw [le1]; exact o32_add _ 1
  rw [hx1]
  have hq681 : (cs0 ++ [32]).length < n := len_2 hn (le1.trans (congrArg (fun z => z + 1) rfl))
  refine W.o_castore X (pc' := 82) at_81 rfl A671 (cs0 ++ [32]).length (o32_clamp (Nat.lt_trans hq681 (Nat.lt_trans hnn (by decide)))) (o32_lt hq681 (Nat.lt_trans hnn (by decide))) (by rw [layC_len (Nat.le_of_lt hq681)]; exact hq681) zA (Or.inr (Or.inl (by simp))) (fun T h677 w678 a679 X => ?_)
  rw [show nar .char (105 : Int32) = (105 : Int32) from rfl] at a679
  have A680 : Arv Z h677 ar ka .char (Int32.ofNat n) (layC n ((cs0 ++ [32]) ++ [105])) (.int 0) := by rw [← layC_set hq681]; exact a679
  have le2 : ((cs0 ++ [32]) ++ [105]).length = cs0.length + 2 := List.length_append.trans (congrArg (fun z => z + 1) le1)
  have f682 := (f673.other w678 (Nat.ne_of_lt (Nat.lt_of_lt_of_le ((((G1.keep K2 nin0 nin0).ext e616).keep KV (ninS (Nat.ne_of_lt (Nat.lt_of_lt_of_le (G1.keep K2 nin0 nin0).lt (Nat.le_of_eq g614.symm))) nin0) (ninS (Nat.ne_of_lt (Nat.lt_of_lt_of_le (G1.keep K2 nin0 nin0).lt' (Nat.le_of_eq g614.symm))) nin0)).keep KD nin0 nin0).lt (Nat.le_of_eq gA.symm))) (Nat.ne_of_lt (Nat.lt_of_lt_of_le ((((G1.keep K2 nin0 nin0).ext e616).keep KV (ninS (Nat.ne_of_lt (Nat.lt_of_lt_of_le (G1.keep K2 nin0 nin0).lt (Nat.le_of_eq g614.symm))) nin0) (ninS (Nat.ne_of_lt (Nat.lt_of_lt_of_le (G1.keep K2 nin0 nin0).lt' (Nat.le_of_eq g614.symm))) nin0)).keep KD nin0 nin0).lt' (Nat.le_of_eq gA.symm))))
  have f683 := (f674.other w678 (Nat.ne_of_lt (Nat.lt_of_lt_of_le (((G2.ext e616).keep KV (ninS (Nat.ne_of_lt (Nat.lt_of_lt_of_le G2.lt (Nat.le_of_eq g614.symm))) nin0) (ninS (Nat.ne_of_lt (Nat.lt_of_lt_of_le G2.lt' (Nat.le_of_eq g614.symm))) nin0)).keep KD nin0 nin0).lt (Nat.le_of_eq gA.symm))) (Nat.ne_of_lt (Nat.lt_of_lt_of_le (((G2.ext e616).keep KV (ninS (Nat.ne_of_lt (Nat.lt_of_lt_of_le G2.lt (Nat.le_of_eq g614.symm))) nin0) (ninS (Nat.ne_of_lt (Nat.lt_of_lt_of_le G2.lt' (Nat.le_of_eq g614.symm))) nin0)).keep KD nin0 nin0).lt' (Nat.le_of_eq gA.symm))))
  have f684 := (f675.other w678 (Nat.ne_of_lt (Nat.lt_of_lt_of_le RD.lt (Nat.le_of_eq gA.symm))) (Nat.ne_of_lt (Nat.lt_of_lt_of_le RD.lt' (Nat.le_of_eq gA.symm))))
  have f685 := (f676.wr w678)
  refine W.o_aload X (pc' := 84) at_82 rfl rfl rfl ?_
  refine W.o_iload X (pc' := 86) at_84 rfl rfl ?_
  refine W.o_iconst X (2 : Int32) (pc' := 87) at_86 rfl rfl ?_
  refine W.o_iadd X (pc' := 88) at_87 rfl ?_
  refine W.o_bipush X (115 : Int32) (pc' := 90) at_88 rfl rfl ?_
  have hx2 : ((Int32.ofNat cs0.length) + (2 : Int32)) = (Int32.ofNat ((cs0 ++ [32]) ++ [105]).length) := by rw [le2]; exact o32_add _ 2
  rw [hx2]
  have hq690 : ((cs0 ++ [32]) ++ [105]).length < n := len_3 hn (le2.trans (congrArg (fun z => z + 2) rfl))
  refine W.o_castore X (pc' := 91) at_90 rfl A680 ((cs0 ++ [32]) ++ [105]).length (o32_clamp (Nat.lt_trans hq690 (Nat.lt_trans hnn (by decide)))) (o32_lt hq690 (Nat.lt_trans hnn (by decide))) (by rw [layC_len (Nat.le_of_lt hq690)]; exact hq690) zA (Or.inr (Or.inl (by simp))) (fun T h686 w687 a688 X => ?_)
  rw [show nar .char (115 : Int32) = (115 : Int32) from rfl] at a688
  have A689 : Arv Z h686 ar ka .char (Int32.ofNat n) (layC n (((cs0 ++ [32]) ++ [105]) ++ [115])) (.int 0) := by rw [← layC_set hq690]; exact a688
  have le3 : (((cs0 ++ [32]) ++ [105]) ++ [115]).length = cs0.length + 3 := List.length_append.trans (congrArg (fun z => z + 1) le2)
  have f691 := (f682.other w687 (Nat.ne_of_lt (Nat.lt_of_lt_of_le ((((G1.keep K2 nin0 nin0).ext e616).keep KV (ninS (Nat.ne_of_lt (Nat.lt_of_lt_of_le (G1.keep K2 nin0 nin0).lt (Nat.le_of_eq g614.symm))) nin0) (ninS (Nat.ne_of_lt (Nat.lt_of_lt_of_le (G1.keep K2 nin0 nin0).lt' (Nat.le_of_eq g614.symm))) nin0)).keep KD nin0 nin0).lt (Nat.le_of_eq gA.symm))) (Nat.ne_of_lt (Nat.lt_of_lt_of_le ((((G1.keep K2 nin0 nin0).ext e616).keep KV (ninS (Nat.ne_of_lt (Nat.lt_of_lt_of_le (G1.keep K2 nin0 nin0).lt (Nat.le_of_eq g614.symm))) nin0) (ninS (Nat.ne_of_lt (Nat.lt_of_lt_of_le (G1.keep K2 nin0 nin0).lt' (Nat.le_of_eq g614.symm))) nin0)).keep KD nin0 nin0).lt' (Nat.le_of_eq gA.symm))))
  have f692 := (f683.other w687 (Nat.ne_of_lt (Nat.lt_of_lt_of_le (((G2.ext e616).keep KV (ninS (Nat.ne_of_lt (Nat.lt_of_lt_of_le G2.lt (Nat.le_of_eq g614.symm))) nin0) (ninS (Nat.ne_of_lt (Nat.lt_of_lt_of_le G2.lt' (Nat.le_of_eq g614.symm))) nin0)).keep KD nin0 nin0).lt (Nat.le_of_eq gA.symm))) (Nat.ne_of_lt (Nat.lt_of_lt_of_le (((G2.ext e616).keep KV (ninS (Nat.ne_of_lt (Nat.lt_of_lt_of_le G2.lt (Nat.le_of_eq g614.symm))) nin0) (ninS (Nat.ne_of_lt (Nat.lt_of_lt_of_le G2.lt' (Nat.le_of_eq g614.symm))) nin0)).keep KD nin0 nin0).lt' (Nat.le_of_eq gA.symm))))
  have f693 := (f684.other w687 (Nat.ne_of_lt (Nat.lt_of_lt_of_le RD.lt (Nat.le_of_eq gA.symm))) (Nat.ne_of_lt (Nat.lt_of_lt_of_le RD.lt' (Nat.le_of_eq gA.symm))))
  have f694 := (f685.wr w687)
  refine W.o_aload X (pc' := 93) at_91 rfl rfl rfl ?_
  refine W.o_iload X (pc' := 95) at_93 rfl rfl ?_
  refine W.o_iconst X (3 : Int32) (pc' := 96) at_95 rfl rfl ?_
  refine W.o_iadd X (pc' := 97) at_96 rfl ?_
  refine W.o_bipush X (32 : Int32) (pc' := 99) at_97 rfl rfl ?_
  have hx3 : ((Int32.ofNat cs0.length) + (3 : Int32)) = (Int32.ofNat (((cs0 ++ [32]) ++ [105]) ++ [115]).length) := by rw [le3]; exact o32_add _ 3
  rw [hx3]
  have hq699 : (((cs0 ++ [32]) ++ [105]) ++ [115]).length < n := len_4 hn (le3.trans (congrArg (fun z => z + 3) rfl))
  refine W.o_castore X (pc' := 100) at_99 rfl A689 (((cs0 ++ [32]) ++ [105]) ++ [115]).length (o32_clamp (Nat.lt_trans hq699 (Nat.lt_trans hnn (by decide)))) (o32_lt hq699 (Nat.lt_trans hnn (by decide))) (by rw [layC_len (Nat.le_of_lt hq699)]; exact hq699) zA (Or.inr (Or.inl (by simp))) (fun T h695 w696 a697 X => ?_)
  rw [show nar .char (32 : Int32) = (32 : Int32) from rfl] at a697
  have A698 : Arv Z h695 ar ka .char (Int32.ofNat n) (layC n ((((cs0 ++ [32]) ++ [105]) ++ [115]) ++ [32])) (.int 0) := by rw [← layC_set hq699]; exact a697
  have le4 : ((((cs0 ++ [32]) ++ [105]) ++ [115]) ++ [32]).length = cs0.length + 4 := List.length_append.trans (congrArg (fun z => z + 1) le3)
  have f700 := (f691.other w696 (Nat.ne_of_lt (Nat.lt_of_lt_of_le ((((G1.keep K2 nin0 nin0).ext e616).keep KV (ninS (Nat.ne_of_lt (Nat.lt_of_lt_of_le (G1.keep K2 nin0 nin0).lt (Nat.le_of_eq g614.symm))) nin0) (ninS (Nat.ne_of_lt (Nat.lt_of_lt_of_le (G1.keep K2 nin0 nin0).lt' (Nat.le_of_eq g614.symm))) nin0)).keep KD nin0 nin0).lt (Nat.le_of_eq gA.symm))) (Nat.ne_of_lt (Nat.lt_of_lt_of_le ((((G1.keep K2 nin0 nin0).ext e616).keep KV (ninS (Nat.ne_of_lt (Nat.lt_of_lt_of_le (G1.keep K2 nin0 nin0).lt (Nat.le_of_eq g614.symm))) nin0) (ninS (Nat.ne_of_lt (Nat.lt_of_lt_of_le (G1.keep K2 nin0 nin0).lt' (Nat.le_of_eq g614.symm))) nin0)).keep KD nin0 nin0).lt' (Nat.le_of_eq gA.symm))))
  have f701 := (f692.other w696 (Nat.ne_of_lt (Nat.lt_of_lt_of_le (((G2.ext e616).keep KV (ninS (Nat.ne_of_lt (Nat.lt_of_lt_of_le G2.lt (Nat.le_of_eq g614.symm))) nin0) (ninS (Nat.ne_of_lt (Nat.lt_of_lt_of_le G2.lt' (Nat.le_of_eq g614.symm))) nin0)).keep KD nin0 nin0).lt (Nat.le_of_eq gA.symm))) (Nat.ne_of_lt (Nat.lt_of_lt_of_le (((G2.ext e616).keep KV (ninS (Nat.ne_of_lt (Nat.lt_of_lt_of_le G2.lt (Nat.le_of_eq g614.symm))) nin0) (ninS (Nat.ne_of_lt (Nat.lt_of_lt_of_le G2.lt' (Nat.le_of_eq g614.symm))) nin0)).keep KD nin0 nin0).lt' (Nat.le_of_eq gA.symm))))
  have f702 := (f693.other w696 (Nat.ne_of_lt (Nat.lt_of_lt_of_le RD.lt (Nat.le_of_eq gA.symm))) (Nat.ne_of_lt (Nat.lt_of_lt_of_le RD.lt' (Nat.le_of_eq gA.symm))))
  have f703 := (f694.wr w696)
  refine W.o_aload X (pc' := 102) at_100 rfl rfl rfl ?_
  refine W.o_iload X (pc' := 104) at_102 rfl rfl ?_
  refine W.o_iconst X (4 : Int32) (pc' := 105) at_104 rfl rfl ?_
  refine W.o_iadd X (pc' := 106) at_105 rfl ?_
  refine W.o_bipush X (34 : Int32) (pc' := 108) at_106 rfl rfl ?_
  have hx4 : ((Int32.ofNat cs0.length) + (4 : Int32)) = (Int32.ofNat ((((cs0 ++ [32]) ++ [105]) ++ [115]) ++ [32]).length) := by rw [le4]; exact o32_add _ 4
  rw [hx4]
  have hq708 : ((((cs0 ++ [32]) ++ [105]) ++ [115]) ++ [32]).length < n := len_5 hn (le4.trans (congrArg (fun z => z + 4) rfl))
  refine W.o_castore X (pc' := 109) at_108 rfl A698 ((((cs0 ++ [32]) ++ [105]) ++ [115]) ++ [32]).length (o32_clamp (Nat.lt_trans hq708 (Nat.lt_trans hnn (by decide)))) (o32_lt hq708 (Nat.lt_trans hnn (by decide))) (by rw [layC_len (Nat.le_of_lt hq708)]; exact hq708) zA (Or.inr (Or.inl (by simp))) (fun T h704 w705 a706 X => ?_)
  rw [show nar .char (34 : Int32) = (34 : Int32) from rfl] at a706
  have A707 : Arv Z h704 ar ka .char (Int32.ofNat n) (layC n (((((cs0 ++ [32]) ++ [105]) ++ [115]) ++ [32]) ++ [34])) (.int 0) := by rw [← layC_set hq708]; exact a706
  have le5 : (((((cs0 ++ [32]) ++ [105]) ++ [115]) ++ [32]) ++ [34]).length = cs0.length + 5 := List.length_append.trans (congrArg (fun z => z + 1) le4)
  have f709 := (f700.other w705 (Nat.ne_of_lt (Nat.lt_of_lt_of_le ((((G1.keep K2 nin0 nin0).ext e616).keep KV (ninS (Nat.ne_of_lt (Nat.lt_of_lt_of_le (G1.keep K2 nin0 nin0).lt (Nat.le_of_eq g614.symm))) nin0) (ninS (Nat.ne_of_lt (Nat.lt_of_lt_of_le (G1.keep K2 nin0 nin0).lt' (Nat.le_of_eq g614.symm))) nin0)).keep KD nin0 nin0).lt (Nat.le_of_eq gA.symm))) (Nat.ne_of_lt (Nat.lt_of_lt_of_le ((((G1.keep K2 nin0 nin0).ext e616).keep KV (ninS (Nat.ne_of_lt (Nat.lt_of_lt_of_le (G1.keep K2 nin0 nin0).lt (Nat.le_of_eq g614.symm))) nin0) (ninS (Nat.ne_of_lt (Nat.lt_of_lt_of_le (G1.keep K2 nin0 nin0).lt' (Nat.le_of_eq g614.symm))) nin0)).keep KD nin0 nin0).lt' (Nat.le_of_eq gA.symm))))
  have f710 := (f701.other w705 (Nat.ne_of_lt (Nat.lt_of_lt_of_le (((G2.ext e616).keep KV (ninS (Nat.ne_of_lt (Nat.lt_of_lt_of_le G2.lt (Nat.le_of_eq g614.symm))) nin0) (ninS (Nat.ne_of_lt (Nat.lt_of_lt_of_le G2.lt' (Nat.le_of_eq g614.symm))) nin0)).keep KD nin0 nin0).lt (Nat.le_of_eq gA.symm))) (Nat.ne_of_lt (Nat.lt_of_lt_of_le (((G2.ext e616).keep KV (ninS (Nat.ne_of_lt (Nat.lt_of_lt_of_le G2.lt (Nat.le_of_eq g614.symm))) nin0) (ninS (Nat.ne_of_lt (Nat.lt_of_lt_of_le G2.lt' (Nat.le_of_eq g614.symm))) nin0)).keep KD nin0 nin0).lt' (Nat.le_of_eq gA.symm))))
  have f711 := (f702.other w705 (Nat.ne_of_lt (Nat.lt_of_lt_of_le RD.lt (Nat.le_of_eq gA.symm))) (Nat.ne_of_lt (Nat.lt_of_lt_of_le RD.lt' (Nat.le_of_eq gA.symm))))
  have f712 := (f703.wr w705)
  refine W.o_iload X (pc' := 111) at_109 rfl rfl ?_
  refine W.o_iconst X (5 : Int32) (pc' := 112) at_111 rfl rfl ?_
  refine W.o_iadd X (pc' := 113) at_112 rfl ?_
  have hy5 : ((Int32.ofNat cs0.length) + (5 : Int32)) = (Int32.ofNat (((((cs0 ++ [32]) ++ [105]) ++ [115]) ++ [32]) ++ [34]).length) := by rw [le5]; exact o32_add _ 5
  rw [hy5]
  obtain ⟨P1, hP1⟩ : ∃ P : List Int32, P = (((((cs0 ++ [32]) ++ [105]) ++ [115]) ++ [32]) ++ [34]) := ⟨_, rfl⟩
  rw [← hP1] at A707
  rw [← hP1]
  have LP1 : P1.length = cs0.length + 5 := by rw [hP1]; exact le5
  show W.Go _ _ _ _ _ _ _ _ _ _ _ (mkF m 113 #[.val (.int p0), .val (.int p1), .val (.int p2), .val (.ref s0), .val (.ref s1), .val (.ref s2), .val (.ref rd), .val (.ref ar), .val (.int (Int32.ofNat cs0.length))] [(.int (Int32.ofNat P1.length))])
  refine W.o_istore X (pc' := 115) at_113 rfl (L' := #[.val (.int p0), .val (.int p1), .val (.int p2), .val (.ref s0), .val (.ref s1), .val (.ref s2), .val (.ref rd), .val (.ref ar), .val (.int (Int32.ofNat P1.length))]) rfl ?_
  refine W.o_aload X (pc' := 117) at_115 rfl rfl rfl ?_
  refine W.o_iload X (pc' := 119) at_117 rfl rfl ?_
  refine W.o_aload X (pc' := 121) at_119 rfl rfl rfl ?_
  refine W.o_static X (pc' := 124) at_121 rfl (z := (⟨"com/example/kindling/kindling/ValueDescribedPinLaw", "put", "([CILjava/lang/String;)I"⟩ : MethodName)) (hw _ (List.mem_of_getElem? (i := 164) rfl)) (hw _ (List.mem_of_getElem? (i := 165) rfl)) (hw _ (List.mem_of_getElem? (i := 2) rfl)) (hw _ (List.mem_of_getElem? (i := 166) rfl)) (by decide) (ctPut l Z a0 hw ar s1 t1 ka n P1 cs1 fv cz h704 FM hfv C0 hcz (Nat.le_of_lt_succ hnn) n1 (len_6 hn LP1) zA (Nat.ne_of_lt (Nat.lt_of_lt_of_le ((((G1.keep K2 nin0 nin0).ext e616).keep KV (ninS (Nat.ne_of_lt (Nat.lt_of_lt_of_le (G1.keep K2 nin0 nin0).lt (Nat.le_of_eq g614.symm))) nin0) (ninS (Nat.ne_of_lt (Nat.lt_of_lt_of_le (G1.keep K2 nin0 nin0).lt' (Nat.le_of_eq g614.symm))) nin0)).keep KD nin0 nin0).lt (Nat.le_of_eq gA.symm))) (Nat.ne_of_lt (Nat.lt_of_lt_of_le ((((G1.keep K2 nin0 nin0).ext e616).keep KV (ninS (Nat.ne_of_lt (Nat.lt_of_lt_of_le (G1.keep K2 nin0 nin0).lt (Nat.le_of_eq g614.symm))) nin0) (ninS (Nat.ne_of_lt (Nat.lt_of_lt_of_le (G1.keep K2 nin0 nin0).lt' (Nat.le_of_eq g614.symm))) nin0)).keep KD nin0 nin0).lt' (Nat.le_of_eq gA.symm))) f709 A707) (fun _ q => nomatch q) [(.ref ar), (.int (Int32.ofNat P1.length)), (.ref s1)] rfl (rest := []) rfl pd___CILjava_lang_String__I rfl rfl (by decide) (by exact Nat.le_of_ble_eq_true rfl) (by decide) (by decide) (fun v715 T q716 => ?_)
  obtain ⟨h719, S717, ⟨rfl, K713, B714⟩, X718⟩ := q716
  have X := X718 [] all0
  have B714 : Arv Z h719 ar ka .char (Int32.ofNat n) (layC n (P1 ++ cs1)) (.int 0) := B714
  have f720 := (f709.keep K713 (ninS (Nat.ne_of_lt (Nat.lt_of_lt_of_le ((((G1.keep K2 nin0 nin0).ext e616).keep KV (ninS (Nat.ne_of_lt (Nat.lt_of_lt_of_le (G1.keep K2 nin0 nin0).lt (Nat.le_of_eq g614.symm))) nin0) (ninS (Nat.ne_of_lt (Nat.lt_of_lt_of_le (G1.keep K2 nin0 nin0).lt' (Nat.le_of_eq g614.symm))) nin0)).keep KD nin0 nin0).lt (Nat.le_of_eq gA.symm))) nin0) (ninS (Nat.ne_of_lt (Nat.lt_of_lt_of_le ((((G1.keep K2 nin0 nin0).ext e616).keep KV (ninS (Nat.ne_of_lt (Nat.lt_of_lt_of_le (G1.keep K2 nin0 nin0).lt (Nat.le_of_eq g614.symm))) nin0) (ninS (Nat.ne_of_lt (Nat.lt_of_lt_of_le (G1.keep K2 nin0 nin0).lt' (Nat.le_of_eq g614.symm))) nin0)).keep KD nin0 nin0).lt' (Nat.le_of_eq gA.symm))) nin0))
  have f721 := (f710.keep K713 (ninS (Nat.ne_of_lt (Nat.lt_of_lt_of_le (((G2.ext e616).keep KV (ninS (Nat.ne_of_lt (Nat.lt_of_lt_of_le G2.lt (Nat.le_of_eq g614.symm))) nin0) (ninS (Nat.ne_of_lt (Nat.lt_of_lt_of_le G2.lt' (Nat.le_of_eq g614.symm))) nin0)).keep KD nin0 nin0).lt (Nat.le_of_eq gA.symm))) nin0) (ninS (Nat.ne_of_lt (Nat.lt_of_lt_of_le (((G2.ext e616).keep KV (ninS (Nat.ne_of_lt (Nat.lt_of_lt_of_le G2.lt (Nat.le_of_eq g614.symm))) nin0) (ninS (Nat.ne_of_lt (Nat.lt_of_lt_of_le G2.lt' (Nat.le_of_eq g614.symm))) nin0)).keep KD nin0 nin0).lt' (Nat.le_of_eq gA.symm))) nin0))
  have f722 := (f711.keep K713 (ninS (Nat.ne_of_lt (Nat.lt_of_lt_of_le RD.lt (Nat.le_of_eq gA.symm))) nin0) (ninS (Nat.ne_of_lt (Nat.lt_of_lt_of_le RD.lt' (Nat.le_of_eq gA.symm))) nin0))
  have f723 := (f712.keep K713)
  show W.Go _ _ _ _ _ _ _ _ _ _ _ (mkF m 124 #[.val (.int p0), .val (.int p1), .val (.int p2), .val (.ref s0), .val (.ref s1), .val (.ref s2), .val (.ref rd), .val (.ref ar), .val (.int (Int32.ofNat P1.length))] [(.int (Int32.ofNat (P1 ++ cs1).length))])
  obtain ⟨P2, hP2⟩ : ∃ P : List Int32, P = (P1 ++ cs1) := ⟨_, rfl⟩
  rw [← hP2] at B714
  rw [← hP2]
  have LP2 : P2.length = cs0.length + 5 + cs1.length := by rw [hP2]; exact List.length_append.trans (congrArg (fun z => z + cs1.length) LP1)
  show W.Go _ _ _ _ _ _ _ _ _ _ _ (mkF m 124 #[.val (.int p0), .val (.int p1), .val (.int p2), .val (.ref s0), .val (.ref s1), .val (.ref s2), .val (.ref rd), .val (.ref ar), .val (.int (Int32.ofNat P1.length))] [(.int (Int32.ofNat P2.length))])
  refine W.o_istore X (pc' := 126) at_124 rfl (L' := #[.val (.int p0), .val (.int p1), .val (.int p2), .val (.ref s0), .val (.ref s1), .val (.ref s2), .val (.ref rd), .val (.ref ar), .val (.int (Int32.ofNat P2.length))]) rfl ?_
  refine W.o_aload X (pc' := 128) at_126 rfl rfl rfl ?_
  refine W.o_iload X (pc' := 130) at_128 rfl rfl ?_
  refine W.o_bipush X (34 : Int32) (pc' := 132) at_130 rfl rfl ?_
  have hq728 : P2.length < n := len_7 hn LP2
  refine W.o_castore X (pc' := 133) at_132 rfl B714 P2.length (o32_clamp (Nat.lt_trans hq728 (Nat.lt_trans hnn (by decide)))) (o32_lt hq728 (Nat.lt_trans hnn (by decide))) (by rw [layC_len (Nat.le_of_lt hq728)]; exact hq728) zA (Or.inr (Or.inl (by simp))) (fun T h724 w725 a726 X => ?_)
  rw [show nar .char (34 : Int32) = (34 : Int32) from rfl] at a726
  have A727 : Arv Z h724 ar ka .char (Int32.ofNat n) (layC n (P2 ++ [34])) (.int 0) := by rw [← layC_set hq728]; exact a726
  have le6 : (P2 ++ [34]).length = P2.length + 1 := List.length_append.trans (congrArg (fun z => z + 1) rfl)
  have f729 := (f720.other w725 (Nat.ne_of_lt (Nat.lt_of_lt_of_le ((((G1.keep K2 nin0 nin0).ext e616).keep KV (ninS (Nat.ne_of_lt (Nat.lt_of_lt_of_le (G1.keep K2 nin0 nin0).lt (Nat.le_of_eq g614.symm))) nin0) (ninS (Nat.ne_of_lt (Nat.lt_of_lt_of_le (G1.keep K2 nin0 nin0).lt' (Nat.le_of_eq g614.symm))) nin0)).keep KD nin0 nin0).lt (Nat.le_of_eq gA.symm))) (Nat.ne_of_lt (Nat.lt_of_lt_of_le ((((G1.keep K2 nin0 nin0).ext e616).keep KV (ninS (Nat.ne_of_lt (Nat.lt_of_lt_of_le (G1.keep K2 nin0 nin0).lt (Nat.le_of_eq g614.symm))) nin0) (ninS (Nat.ne_of_lt (Nat.lt_of_lt_of_le (G1.keep K2 nin0 nin0).lt' (Nat.le_of_eq g614.symm))) nin0)).keep KD nin0 nin0).lt' (Nat.le_of_eq gA.symm))))
  have f730 := (f721.other w725 (Nat.ne_of_lt (Nat.lt_of_lt_of_le (((G2.ext e616).keep KV (ninS (Nat.ne_of_lt (Nat.lt_of_lt_of_le G2.lt (Nat.le_of_eq g614.symm))) nin0) (ninS (Nat.ne_of_lt (Nat.lt_of_lt_of_le G2.lt' (Nat.le_of_eq g614.symm))) nin0)).keep KD nin0 nin0).lt (Nat.le_of_eq gA.symm))) (Nat.ne_of_lt (Nat.lt_of_lt_of_le (((G2.ext e616).keep KV (ninS (Nat.ne_of_lt (Nat.lt_of_lt_of_le G2.lt (Nat.le_of_eq g614.symm))) nin0) (ninS (Nat.ne_of_lt (Nat.lt_of_lt_of_le G2.lt' (Nat.le_of_eq g614.symm))) nin0)).keep KD nin0 nin0).lt' (Nat.le_of_eq gA.symm))))
  have f731 := (f722.other w725 (Nat.ne_of_lt (Nat.lt_of_lt_of_le RD.lt (Nat.le_of_eq gA.symm))) (Nat.ne_of_lt (Nat.lt_of_lt_of_le RD.lt' (Nat.le_of_eq gA.symm))))
  have f732 := (f723.wr w725)
  refine W.o_aload X (pc' := 135) at_133 rfl rfl rfl ?_
  refine W.o_iload X (pc' := 137) at_135 rfl rfl ?_
  refine W.o_iconst X (1 : Int32) (pc' := 138) at_137 rfl rfl ?_
  refine W.o_iadd X (pc' := 139) at_138 rfl ?_
  refine W.o_bipush X (32 : Int32) (pc' := 141) at_139 rfl rfl ?_
  have hx6 : ((Int32.ofNat P2.length) + (1 : Int32)) = (Int32.ofNat (P2 ++ [34]).length) := by rw [le6]; exact o32_add _ 1
  rw [hx6]
  have hq737 : (P2 ++ [34]).length < n := len_8 hn (le6.trans (congrArg (fun z => z + 1) LP2))
  refine W.o_castore X (pc' := 142) at_141 rfl A727 (P2 ++ [34]).length (o32_clamp (Nat.lt_trans hq737 (Nat.lt_trans hnn (by decide)))) (o32_lt hq737 (Nat.lt_trans hnn (by decide))) (by rw [layC_len (Nat.le_of_lt hq737)]; exact hq737) zA (Or.inr (Or.inl (by simp))) (fun T h733 w734 a735 X => ?_)
  rw [show nar .char (32 : Int32) = (32 : Int32) from rfl] at a735
  have A736 : Arv Z h733 ar ka .char (Int32.ofNat n) (layC n ((P2 ++ [34]) ++ [32])) (.int 0) := by rw [← layC_set hq737]; exact a735
  have le7 : ((P2 ++ [34]) ++ [32]).length = P2.length + 2 := List.length_append.trans (congrArg (fun z => z + 1) le6)
  have f738 := (f729.other w734 (Nat.ne_of_lt (Nat.lt_of_lt_of_le ((((G1.keep K2 nin0 nin0).ext e616).keep KV (ninS (Nat.ne_of_lt (Nat.lt_of_lt_of_le (G1.keep K2 nin0 nin0).lt (Nat.le_of_eq g614.symm))) nin0) (ninS (Nat.ne_of_lt (Nat.lt_of_lt_of_le (G1.keep K2 nin0 nin0).lt' (Nat.le_of_eq g614.symm))) nin0)).keep KD nin0 nin0).lt (Nat.le_of_eq gA.symm))) (Nat.ne_of_lt (Nat.lt_of_lt_of_le ((((G1.keep K2 nin0 nin0).ext e616).keep KV (ninS (Nat.ne_of_lt (Nat.lt_of_lt_of_le (G1.keep K2 nin0 nin0).lt (Nat.le_of_eq g614.symm))) nin0) (ninS (Nat.ne_of_lt (Nat.lt_of_lt_of_le (G1.keep K2 nin0 nin0).lt' (Nat.le_of_eq g614.symm))) nin0)).keep KD nin0 nin0).lt' (Nat.le_of_eq gA.symm))))
  have f739 := (f730.other w734 (Nat.ne_of_lt (Nat.lt_of_lt_of_le (((G2.ext e616).keep KV (ninS (Nat.ne_of_lt (Nat.lt_of_lt_of_le G2.lt (Nat.le_of_eq g614.symm))) nin0) (ninS (Nat.ne_of_lt (Nat.lt_of_lt_of_le G2.lt' (Nat.le_of_eq g614.symm))) nin0)).keep KD nin0 nin0).lt (Nat.le_of_eq gA.symm))) (Nat.ne_of_lt (Nat.lt_of_lt_of_le (((G2.ext e616).keep KV (ninS (Nat.ne_of_lt (Nat.lt_of_lt_of_le G2.lt (Nat.le_of_eq g614.symm))) nin0) (ninS (Nat.ne_of_lt (Nat.lt_of_lt_of_le G2.lt' (Nat.le_of_eq g614.symm))) nin0)).keep KD nin0 nin0).lt' (Nat.le_of_eq gA.symm))))
  have f740 := (f731.other w734 (Nat.ne_of_lt (Nat.lt_of_lt_of_le RD.lt (Nat.le_of_eq gA.symm))) (Nat.ne_of_lt (Nat.lt_of_lt_of_le RD.lt' (Nat.le_of_eq gA.symm))))
  have f741 := (f732.wr w734)
  refine W.o_aload X (pc' := 144) at_142 rfl rfl rfl ?_
  refine W.o_iload X (pc' := 146) at_144 rfl rfl ?_
  refine W.o_iconst X (2 : Int32) (pc' := 147) at_146 rfl rfl ?_
  refine W.o_iadd X (pc' := 148) at_147 rfl ?_
  refine W.o_bipush X (40 : Int32) (pc' := 150) at_148 rfl rfl ?_
  have hx7 : ((Int32.ofNat P2.length) + (2 : Int32)) = (Int32.ofNat ((P2 ++ [34]) ++ [32]).length) := by rw [le7]; exact o32_add _ 2
  rw [hx7]
  have hq746 : ((P2 ++ [34]) ++ [32]).length < n := len_9 hn (le7.trans (congrArg (fun z => z + 2) LP2))
  refine W.o_castore X (pc' := 151) at_150 rfl A736 ((P2 ++ [34]) ++ [32]).length (o32_clamp (Nat.lt_trans hq746 (Nat.lt_trans hnn (by decide)))) (o32_lt hq746 (Nat.lt_trans hnn (by decide))) (by rw [layC_len (Nat.le_of_lt hq746)]; exact hq746) zA (Or.inr (Or.inl (by simp))) (fun T h742 w743 a744 X => ?_)
  rw [show nar .char (40 : Int32) = (40 : Int32) from rfl] at a744
  have A745 : Arv Z h742 ar ka .char (Int32.ofNat n) (layC n (((P2 ++ [34]) ++ [32]) ++ [40])) (.int 0) := by rw [← layC_set hq746]; exact a744
  have le8 : (((P2 ++ [34]) ++ [32]) ++ [40]).length = P2.length + 3 := List.length_append.trans (congrArg (fun z => z + 1) le7)
  have f747 := (f738.other w743 (Nat.ne_of_lt (Nat.lt_of_lt_of_le ((((G1.keep K2 nin0 nin0).ext e616).keep KV (ninS (Nat.ne_of_lt (Nat.lt_of_lt_of_le (G1.keep K2 nin0 nin0).lt (Nat.le_of_eq g614.symm))) nin0) (ninS (Nat.ne_of_lt (Nat.lt_of_lt_of_le (G1.keep K2 nin0 nin0).lt' (Nat.le_of_eq g614.symm))) nin0)).keep KD nin0 nin0).lt (Nat.le_of_eq gA.symm))) (Nat.ne_of_lt (Nat.lt_of_lt_of_le ((((G1.keep K2 nin0 nin0).ext e616).keep KV (ninS (Nat.ne_of_lt (Nat.lt_of_lt_of_le (G1.keep K2 nin0 nin0).lt (Nat.le_of_eq g614.symm))) nin0) (ninS (Nat.ne_of_lt (Nat.lt_of_lt_of_le (G1.keep K2 nin0 nin0).lt' (Nat.le_of_eq g614.symm))) nin0)).keep KD nin0 nin0).lt' (Nat.le_of_eq gA.symm))))
  have f748 := (f739.other w743 (Nat.ne_of_lt (Nat.lt_of_lt_of_le (((G2.ext e616).keep KV (ninS (Nat.ne_of_lt (Nat.lt_of_lt_of_le G2.lt (Nat.le_of_eq g614.symm))) nin0) (ninS (Nat.ne_of_lt (Nat.lt_of_lt_of_le G2.lt' (Nat.le_of_eq g614.symm))) nin0)).keep KD nin0 nin0).lt (Nat.le_of_eq gA.symm))) (Nat.ne_of_lt (Nat.lt_of_lt_of_le (((G2.ext e616).keep KV (ninS (Nat.ne_of_lt (Nat.lt_of_lt_of_le G2.lt (Nat.le_of_eq g614.symm))) nin0) (ninS (Nat.ne_of_lt (Nat.lt_of_lt_of_le G2.lt' (Nat.le_of_eq g614.symm))) nin0)).keep KD nin0 nin0).lt' (Nat.le_of_eq gA.symm))))
  have f749 := (f740.other w743 (Nat.ne_of_lt (Nat.lt_of_lt_of_le RD.lt (Nat.le_of_eq gA.symm))) (Nat.ne_of_lt (Nat.lt_of_lt_of_le RD.lt' (Nat.le_of_eq gA.symm))))
  have f750 := (f741.wr w743)
  refine W.o_aload X (pc' := 153) at_151 rfl rfl rfl ?_
  refine W.o_iload X (pc' := 155) at_153 rfl rfl ?_
  refine W.o_iconst X (3 : Int32) (pc' := 156) at_155 rfl rfl ?_
  refine W.o_iadd X (pc' := 157) at_156 rfl ?_
  refine W.o_bipush X (102 : Int32) (pc' := 159) at_157 rfl rfl ?_
  have hx8 : ((Int32.ofNat P2.length) + (3 : Int32)) = (Int32.ofNat (((P2 ++ [34]) ++ [32]) ++ [40]).length) := by rw [le8]; exact o32_add _ 3
  rw [hx8]
  have hq755 : (((P2 ++ [34]) ++ [32]) ++ [40]).length < n := len_10 hn (le8.trans (congrArg (fun z => z + 3) LP2))
  refine W.o_castore X (pc' := 160) at_159 rfl A745 (((P2 ++ [34]) ++ [32]) ++ [40]).length (o32_clamp (Nat.lt_trans hq755 (Nat.lt_trans hnn (by decide)))) (o32_lt hq755 (Nat.lt_trans hnn (by decide))) (by rw [layC_len (Nat.le_of_lt hq755)]; exact hq755) zA (Or.inr (Or.inl (by simp))) (fun T h751 w752 a753 X => ?_)
  rw [show nar .char (102 : Int32) = (102 : Int32) from rfl] at a753
  have A754 : Arv Z h751 ar ka .char (Int32.ofNat n) (layC n ((((P2 ++ [34]) ++ [32]) ++ [40]) ++ [102])) (.int 0) := by rw [← layC_set hq755]; exact a753
  have le9 : ((((P2 ++ [34]) ++ [32]) ++ [40]) ++ [102]).length = P2.length + 4 := List.length_append.trans (congrArg (fun z => z + 1) le8)
  have f756 := (f747.other w752 (Nat.ne_of_lt (Nat.lt_of_lt_of_le ((((G1.keep K2 nin0 nin0).ext e616).keep KV (ninS (Nat.ne_of_lt (Nat.lt_of_lt_of_le (G1.keep K2 nin0 nin0).lt (Nat.le_of_eq g614.symm))) nin0) (ninS (Nat.ne_of_lt (Nat.lt_of_lt_of_le (G1.keep K2 nin0 nin0).lt' (Nat.le_of_eq g614.symm))) nin0)).keep KD nin0 nin0).lt (Nat.le_of_eq gA.symm))) (Nat.ne_of_lt (Nat.lt_of_lt_of_le ((((G1.keep K2 nin0 nin0).ext e616).keep KV (ninS (Nat.ne_of_lt (Nat.lt_of_lt_of_le (G1.keep K2 nin0 nin0).lt (Nat.le_of_eq g614.symm))) nin0) (ninS (Nat.ne_of_lt (Nat.lt_of_lt_of_le (G1.keep K2 nin0 nin0).lt' (Nat.le_of_eq g614.symm))) nin0)).keep KD nin0 nin0).lt' (Nat.le_of_eq gA.symm))))
  have f757 := (f748.other w752 (Nat.ne_of_lt (Nat.lt_of_lt_of_le (((G2.ext e616).keep KV (ninS (Nat.ne_of_lt (Nat.lt_of_lt_of_le G2.lt (Nat.le_of_eq g614.symm))) nin0) (ninS (Nat.ne_of_lt (Nat.lt_of_lt_of_le G2.lt' (Nat.le_of_eq g614.symm))) nin0)).keep KD nin0 nin0).lt (Nat.le_of_eq gA.symm))) (Nat.ne_of_lt (Nat.lt_of_lt_of_le (((G2.ext e616).keep KV (ninS (Nat.ne_of_lt (Nat.lt_of_lt_of_le G2.lt (Nat.le_of_eq g614.symm))) nin0) (ninS (Nat.ne_of_lt (Nat.lt_of_lt_of_le G2.lt' (Nat.le_of_eq g614.symm))) nin0)).keep KD nin0 nin0).lt' (Nat.le_of_eq gA.symm))))
  have f758 := (f749.other w752 (Nat.ne_of_lt (Nat.lt_of_lt_of_le RD.lt (Nat.le_of_eq gA.symm))) (Nat.ne_of_lt (Nat.lt_of_lt_of_le RD.lt' (Nat.le_of_eq gA.symm))))
  have f759 := (f750.wr w752)
  refine W.o_aload X (pc' := 162) at_160 rfl rfl rfl ?_
  refine W.o_iload X (pc' := 164) at_162 rfl rfl ?_
  refine W.o_iconst X (4 : Int32) (pc' := 165) at_164 rfl rfl ?_
  refine W.o_iadd X (pc' := 166) at_165 rfl ?_
  refine W.o_bipush X (114 : Int32) (pc' := 168) at_166 rfl rfl ?_
  have hx9 : ((Int32.ofNat P2.length) + (4 : Int32)) = (Int32.ofNat ((((P2 ++ [34]) ++ [32]) ++ [40]) ++ [102]).length) := by rw [le9]; exact o32_add _ 4
  rw [hx9]
  have hq764 : ((((P2 ++ [34]) ++ [32]) ++ [40]) ++ [102]).length < n := len_11 hn (le9.trans (congrArg (fun z => z + 4) LP2))
  refine W.o_castore X (pc' := 169) at_168 rfl A754 ((((P2 ++ [34]) ++ [32]) ++ [40]) ++ [102]).length (o32_clamp (Nat.lt_trans hq764 (Nat.lt_trans hnn (by decide)))) (o32_lt hq764 (Nat.lt_trans hnn (by decide))) (by rw [layC_len (Nat.le_of_lt hq764)]; exact hq764) zA (Or.inr (Or.inl (by simp))) (fun T h760 w761 a762 X => ?_)
  rw [show nar .char (114 : Int32) = (114 : Int32) from rfl] at a762
  have A763 : Arv Z h760 ar ka .char (Int32.ofNat n) (layC n (((((P2 ++ [34]) ++ [32]) ++ [40]) ++ [102]) ++ [114])) (.int 0) := by rw [← layC_set hq764]; exact a762
  have le10 : (((((P2 ++ [34]) ++ [32]) ++ [40]) ++ [102]) ++ [114]).length = P2.length + 5 := List.length_append.trans (congrArg (fun z => z + 1) le9)
  have f765 := (f756.other w761 (Nat.ne_of_lt (Nat.lt_of_lt_of_le ((((G1.keep K2 nin0 nin0).ext e616).keep KV (ninS (Nat.ne_of_lt (Nat.lt_of_lt_of_le (G1.keep K2 nin0 nin0).lt (Nat.le_of_eq g614.symm))) nin0) (ninS (Nat.ne_of_lt (Nat.lt_of_lt_of_le (G1.keep K2 nin0 nin0).lt' (Nat.le_of_eq g614.symm))) nin0)).keep KD nin0 nin0).lt (Nat.le_of_eq gA.symm))) (Nat.ne_of_lt (Nat.lt_of_lt_of_le ((((G1.keep K2 nin0 nin0).ext e616).keep KV (ninS (Nat.ne_of_lt (Nat.lt_of_lt_of_le (G1.keep K2 nin0 nin0).lt (Nat.le_of_eq g614.symm))) nin0) (ninS (Nat.ne_of_lt (Nat.lt_of_lt_of_le (G1.keep K2 nin0 nin0).lt' (Nat.le_of_eq g614.symm))) nin0)).keep KD nin0 nin0).lt' (Nat.le_of_eq gA.symm))))
  have f766 := (f757.other w761 (Nat.ne_of_lt (Nat.lt_of_lt_of_le (((G2.ext e616).keep KV (ninS (Nat.ne_of_lt (Nat.lt_of_lt_of_le G2.lt (Nat.le_of_eq g614.symm))) nin0) (ninS (Nat.ne_of_lt (Nat.lt_of_lt_of_le G2.lt' (Nat.le_of_eq g614.symm))) nin0)).keep KD nin0 nin0).lt (Nat.le_of_eq gA.symm))) (Nat.ne_of_lt (Nat.lt_of_lt_of_le (((G2.ext e616).keep KV (ninS (Nat.ne_of_lt (Nat.lt_of_lt_of_le G2.lt (Nat.le_of_eq g614.symm))) nin0) (ninS (Nat.ne_of_lt (Nat.lt_of_lt_of_le G2.lt' (Nat.le_of_eq g614.symm))) nin0)).keep KD nin0 nin0).lt' (Nat.le_of_eq gA.symm))))
  have f767 := (f758.other w761 (Nat.ne_of_lt (Nat.lt_of_lt_of_le RD.lt (Nat.le_of_eq gA.symm))) (Nat.ne_of_lt (Nat.lt_of_lt_of_le RD.lt' (Nat.le_of_eq gA.symm))))
  have f768 := (f759.wr w761)
  refine W.o_aload X (pc' := 171) at_169 rfl rfl rfl ?_
  refine W.o_iload X (pc' := 173) at_171 rfl rfl ?_
  refine W.o_iconst X (5 : Int32) (pc' := 174) at_173 rfl rfl ?_
  refine W.o_iadd X (pc' := 175) at_174 rfl ?_
  refine W.o_bipush X (111 : Int32) (pc' := 177) at_175 rfl rfl ?_
  have hx10 : ((Int32.ofNat P2.length) + (5 : Int32)) = (Int32.ofNat (((((P2 ++ [34]) ++ [32]) ++ [40]) ++ [102]) ++ [114]).length) := by rw [le10]; exact o32_add _ 5
  rw [hx10]
  have hq773 : (((((P2 ++ [34]) ++ [32]) ++ [40]) ++ [102]) ++ [114]).length < n := len_12 hn (le10.trans (congrArg (fun z => z + 5) LP2))
  refine W.o_castore X (pc' := 178) at_177 rfl A763 (((((P2 ++ [34]) ++ [32]) ++ [40]) ++ [102]) ++ [114]).length (o32_clamp (Nat.lt_trans hq773 (Nat.lt_trans hnn (by decide)))) (o32_lt hq773 (Nat.lt_trans hnn (by decide))) (by rw [layC_len (Nat.le_of_lt hq773)]; exact hq773) zA (Or.inr (Or.inl (by simp))) (fun T h769 w770 a771 X => ?_)
  rw [show nar .char (111 : Int32) = (111 : Int32) from rfl] at a771
  have A772 : Arv Z h769 ar ka .char (Int32.ofNat n) (layC n ((((((P2 ++ [34]) ++ [32]) ++ [40]) ++ [102]) ++ [114]) ++ [111])) (.int 0) := by rw [← layC_set hq773]; exact a771
  have le11 : ((((((P2 ++ [34]) ++ [32]) ++ [40]) ++ [102]) ++ [114]) ++ [111]).length = P2.length + 6 := List.length_append.trans (congrArg (fun z => z + 1) le10)
  have f774 := (f765.other w770 (Nat.ne_of_lt (Nat.lt_of_lt_of_le ((((G1.keep K2 nin0 nin0).ext e616).keep KV (ninS (Nat.ne_of_lt (Nat.lt_of_lt_of_le (G1.keep K2 nin0 nin0).lt (Nat.le_of_eq g614.symm))) nin0) (ninS (Nat.ne_of_lt (Nat.lt_of_lt_of_le (G1.keep K2 nin0 nin0).lt' (Nat.le_of_eq g614.symm))) nin0)).keep KD nin0 nin0).lt (Nat.le_of_eq gA.symm))) (Nat.ne_of_lt (Nat.lt_of_lt_of_le ((((G1.keep K2 nin0 nin0).ext e616).keep KV (ninS (Nat.ne_of_lt (Nat.lt_of_lt_of_le (G1.keep K2 nin0 nin0).lt (Nat.le_of_eq g614.symm))) nin0) (ninS (Nat.ne_of_lt (Nat.lt_of_lt_of_le (G1.keep K2 nin0 nin0).lt' (Nat.le_of_eq g614.symm))) nin0)).keep KD nin0 nin0).lt' (Nat.le_of_eq gA.symm))))
  have f775 := (f766.other w770 (Nat.ne_of_lt (Nat.lt_of_lt_of_le (((G2.ext e616).keep KV (ninS (Nat.ne_of_lt (Nat.lt_of_lt_of_le G2.lt (Nat.le_of_eq g614.symm))) nin0) (ninS (Nat.ne_of_lt (Nat.lt_of_lt_of_le G2.lt' (Nat.le_of_eq g614.symm))) nin0)).keep KD nin0 nin0).lt (Nat.le_of_eq gA.symm))) (Nat.ne_of_lt (Nat.lt_of_lt_of_le (((G2.ext e616).keep KV (ninS (Nat.ne_of_lt (Nat.lt_of_lt_of_le G2.lt (Nat.le_of_eq g614.symm))) nin0) (ninS (Nat.ne_of_lt (Nat.lt_of_lt_of_le G2.lt' (Nat.le_of_eq g614.symm))) nin0)).keep KD nin0 nin0).lt' (Nat.le_of_eq gA.symm))))
  have f776 := (f767.other w770 (Nat.ne_of_lt (Nat.lt_of_lt_of_le RD.lt (Nat.le_of_eq gA.symm))) (Nat.ne_of_lt (Nat.lt_of_lt_of_le RD.lt' (Nat.le_of_eq gA.symm))))
  have f777 := (f768.wr w770)
  refine W.o_aload X (pc' := 180) at_178 rfl rfl rfl ?_
  refine W.o_iload X (pc' := 182) at_180 rfl rfl ?_
  refine W.o_bipush X (6 : Int32) (pc' := 184) at_182 rfl rfl ?_
  refine W.o_iadd X (pc' := 185) at_184 rfl ?_
  refine W.o_bipush X (109 : Int32) (pc' := 187) at_185 rfl rfl ?_
  have hx11 : ((Int32.ofNat P2.length) + (6 : Int32)) = (Int32.ofNat ((((((P2 ++ [34]) ++ [32]) ++ [40]) ++ [102]) ++ [114]) ++ [111]).length) := by rw [le11]; exact o32_add _ 6
  rw [hx11]
  have hq782 : ((((((P2 ++ [34]) ++ [32]) ++ [40]) ++ [102]) ++ [114]) ++ [111]).length < n := len_13 hn (le11.trans (congrArg (fun z => z + 6) LP2))
  refine W.o_castore X (pc' := 188) at_187 rfl A772 ((((((P2 ++ [34]) ++ [32]) ++ [40]) ++ [102]) ++ [114]) ++ [111]).length (o32_clamp (Nat.lt_trans hq782 (Nat.lt_trans hnn (by decide)))) (o32_lt hq782 (Nat.lt_trans hnn (by decide))) (by rw [layC_len (Nat.le_of_lt hq782)]; exact hq782) zA (Or.inr (Or.inl (by simp))) (fun T h778 w779 a780 X => ?_)
  rw [show nar .char (109 : Int32) = (109 : Int32) from rfl] at a780
  have A781 : Arv Z h778 ar ka .char (Int32.ofNat n) (layC n (((((((P2 ++ [34]) ++ [32]) ++ [40]) ++ [102]) ++ [114]) ++ [111]) ++ [109])) (.int 0) := by rw [← layC_set hq782]; exact a780
  have le12 : (((((((P2 ++ [34]) ++ [32]) ++ [40]) ++ [102]) ++ [114]) ++ [111]) ++ [109]).length = P2.length + 7 := List.length_append.trans (congrArg (fun z => z + 1) le11)
  have f783 := (f774.other w779 (Nat.ne_of_lt (Nat.lt_of_lt_of_le ((((G1.keep K2 nin0 nin0).ext e616).keep KV (ninS (Nat.ne_of_lt (Nat.lt_of_lt_of_le (G1.keep K2 nin0 nin0).lt (Nat.le_of_eq g614.symm))) nin0) (ninS (Nat.ne_of_lt (Nat.lt_of_lt_of_le (G1.keep K2 nin0 nin0).lt' (Nat.le_of_eq g614.symm))) nin0)).keep KD nin0 nin0).lt (Nat.le_of_eq gA.symm))) (Nat.ne_of_lt (Nat.lt_of_lt_of_le ((((G1.keep K2 nin0 nin0).ext e616).keep KV (ninS (Nat.ne_of_lt (Nat.lt_of_lt_of_le (G1.keep K2 nin0 nin0).lt (Nat.le_of_eq g614.symm))) nin0) (ninS (Nat.ne_of_lt (Nat.lt_of_lt_of_le (G1.keep K2 nin0 nin0).lt' (Nat.le_of_eq g614.symm))) nin0)).keep KD nin0 nin0).lt' (Nat.le_of_eq gA.symm))))
  have f784 := (f775.other w779 (Nat.ne_of_lt (Nat.lt_of_lt_of_le (((G2.ext e616).keep KV (ninS (Nat.ne_of_lt (Nat.lt_of_lt_of_le G2.lt (Nat.le_of_eq g614.symm))) nin0) (ninS (Nat.ne_of_lt (Nat.lt_of_lt_of_le G2.lt' (Nat.le_of_eq g614.symm))) nin0)).keep KD nin0 nin0).lt (Nat.le_of_eq gA.symm))) (Nat.ne_of_lt (Nat.lt_of_lt_of_le (((G2.ext e616).keep KV (ninS (Nat.ne_of_lt (Nat.lt_of_lt_of_le G2.lt (Nat.le_of_eq g614.symm))) nin0) (ninS (Nat.ne_of_lt (Nat.lt_of_lt_of_le G2.lt' (Nat.le_of_eq g614.symm))) nin0)).keep KD nin0 nin0).lt' (Nat.le_of_eq gA.symm))))
  have f785 := (f776.other w779 (Nat.ne_of_lt (Nat.lt_of_lt_of_le RD.lt (Nat.le_of_eq gA.symm))) (Nat.ne_of_lt (Nat.lt_of_lt_of_le RD.lt' (Nat.le_of_eq gA.symm))))
  have f786 := (f777.wr w779)
  refine W.o_aload X (pc' := 190) at_188 rfl rfl rfl ?_
  refine W.o_iload X (pc' := 192) at_190 rfl rfl ?_
  refine W.o_bipush X (7 : Int32) (pc' := 194) at_192 rfl rfl ?_
  refine W.o_iadd X (pc' := 195) at_194 rfl ?_
  refine W.o_bipush X (32 : Int32) (pc' := 197) at_195 rfl rfl ?_
  have hx12 : ((Int32.ofNat P2.length) + (7 : Int32)) = (Int32.ofNat (((((((P2 ++ [34]) ++ [32]) ++ [40]) ++ [102]) ++ [114]) ++ [111]) ++ [109]).length) := by rw [le12]; exact o32_add _ 7
  rw [hx12]
  have hq791 : (((((((P2 ++ [34]) ++ [32]) ++ [40]) ++ [102]) ++ [114]) ++ [111]) ++ [109]).length < n := len_14 hn (le12.trans (congrArg (fun z => z + 7) LP2))
  refine W.o_castore X (pc' := 198) at_197 rfl A781 (((((((P2 ++ [34]) ++ [32]) ++ [40]) ++ [102]) ++ [114]) ++ [111]) ++ [109]).length (o32_clamp (Nat.lt_trans hq791 (Nat.lt_trans hnn (by decide)))) (o32_lt hq791 (Nat.lt_trans hnn (by decide))) (by rw [layC_len (Nat.le_of_lt hq791)]; exact hq791) zA (Or.inr (Or.inl (by simp))) (fun T h787 w788 a789 X => ?_)
  rw [show nar .char (32 : Int32) = (32 : Int32) from rfl] at a789
  have A790 : Arv Z h787 ar ka .char (Int32.ofNat n) (layC n ((((((((P2 ++ [34]) ++ [32]) ++ [40]) ++ [102]) ++ [114]) ++ [111]) ++ [109]) ++ [32])) (.int 0) := by rw [← layC_set hq791]; exact a789
  have le13 : ((((((((P2 ++ [34]) ++ [32]) ++ [40]) ++ [102]) ++ [114]) ++ [111]) ++ [109]) ++ [32]).length = P2.length + 8 := List.length_append.trans (congrArg (fun z => z + 1) le12)
  have f792 := (f783.other w788 (Nat.ne_of_lt (Nat.lt_of_lt_of_le ((((G1.keep K2 nin0 nin0).ext e616).keep KV (ninS (Nat.ne_of_lt (Nat.lt_of_lt_of_le (G1.keep K2 nin0 nin0).lt (Nat.le_of_eq g614.symm))) nin0) (ninS (Nat.ne_of_lt (Nat.lt_of_lt_of_le (G1.keep K2 nin0 nin0).lt' (Nat.le_of_eq g614.symm))) nin0)).keep KD nin0 nin0).lt (Nat.le_of_eq gA.symm))) (Nat.ne_of_lt (Nat.lt_of_lt_of_le ((((G1.keep K2 nin0 nin0).ext e616).keep KV (ninS (Nat.ne_of_lt (Nat.lt_of_lt_of_le (G1.keep K2 nin0 nin0).lt (Nat.le_of_eq g614.symm))) nin0) (ninS (Nat.ne_of_lt (Nat.lt_of_lt_of_le (G1.keep K2 nin0 nin0).lt' (Nat.le_of_eq g614.symm))) nin0)).keep KD nin0 nin0).lt' (Nat.le_of_eq gA.symm))))
  have f793 := (f784.other w788 (Nat.ne_of_lt (Nat.lt_of_lt_of_le (((G2.ext e616).keep KV (ninS (Nat.ne_of_lt (Nat.lt_of_lt_of_le G2.lt (Nat.le_of_eq g614.symm))) nin0) (ninS (Nat.ne_of_lt (Nat.lt_of_lt_of_le G2.lt' (Nat.le_of_eq g614.symm))) nin0)).keep KD nin0 nin0).lt (Nat.le_of_eq gA.symm))) (Nat.ne_of_lt (Nat.lt_of_lt_of_le (((G2.ext e616).keep KV (ninS (Nat.ne_of_lt (Nat.lt_of_lt_of_le G2.lt (Nat.le_of_eq g614.symm))) nin0) (ninS (Nat.ne_of_lt (Nat.lt_of_lt_of_le G2.lt' (Nat.le_of_eq g614.symm))) nin0)).keep KD nin0 nin0).lt' (Nat.le_of_eq gA.symm))))
  have f794 := (f785.other w788 (Nat.ne_of_lt (Nat.lt_of_lt_of_le RD.lt (Nat.le_of_eq gA.symm))) (Nat.ne_of_lt (Nat.lt_of_lt_of_le RD.lt' (Nat.le_of_eq gA.symm))))
  have f795 := (f786.wr w788)
  refine W.o_iload X (pc' := 200) at_198 rfl rfl ?_
  refine W.o_bipush X (8 : Int32) (pc' := 202) at_200 rfl rfl ?_
  refine W.o_iadd X (pc' := 203) at_202 rfl ?_
  have hy8 : ((Int32.ofNat P2.length) + (8 : Int32)) = (Int32.ofNat ((((((((P2 ++ [34]) ++ [32]) ++ [40]) ++ [102]) ++ [114]) ++ [111]) ++ [109]) ++ [32]).length) := by rw [le13]; exact o32_add _ 8
  rw [hy8]
  obtain ⟨P3, hP3⟩ : ∃ P : List Int32, P = ((((((((P2 ++ [34]) ++ [32]) ++ [40]) ++ [102]) ++ [114]) ++ [111]) ++ [109]) ++ [32]) := ⟨_, rfl⟩
  rw [← hP3] at A790
  rw [← hP3]
  have LP3 : P3.length = cs0.length + 5 + cs1.length + 8 := by rw [hP3]; exact le13.trans (congrArg (fun z => z + 8) LP2)
  show W.Go _ _ _ _ _ _ _ _ _ _ _ (mkF m 203 #[.val (.int p0), .val (.int p1), .val (.int p2), .val (.ref s0), .val (.ref s1), .val (.ref s2), .val (.ref rd), .val (.ref ar), .val (.int (Int32.ofNat P2.length))] [(.int (Int32.ofNat P3.length))])
  refine W.o_istore X (pc' := 205) at_203 rfl (L' := #[.val (.int p0), .val (.int p1), .val (.int p2), .val (.ref s0), .val (.ref s1), .val (.ref s2), .val (.ref rd), .val (.ref ar), .val (.int (Int32.ofNat P3.length))]) rfl ?_
  refine W.o_aload X (pc' := 207) at_205 rfl rfl rfl ?_
  refine W.o_iload X (pc' := 209) at_207 rfl rfl ?_
  refine W.o_aload X (pc' := 211) at_209 rfl rfl rfl ?_
  refine W.o_static X (pc' := 214) at_211 rfl (z := (⟨"com/example/kindling/kindling/ValueDescribedPinLaw", "put", "([CILjava/lang/String;)I"⟩ : MethodName)) (hw _ (List.mem_of_getElem? (i := 164) rfl)) (hw _ (List.mem_of_getElem? (i := 165) rfl)) (hw _ (List.mem_of_getElem? (i := 2) rfl)) (hw _ (List.mem_of_getElem? (i := 166) rfl)) (by decide) (ctPut l Z a0 hw ar s2 t2 ka n P3 cs2 fv cz h787 FM hfv C0 hcz (Nat.le_of_lt_succ hnn) n2 (len_15 hn LP3) zA (Nat.ne_of_lt (Nat.lt_of_lt_of_le (((G2.ext e616).keep KV (ninS (Nat.ne_of_lt (Nat.lt_of_lt_of_le G2.lt (Nat.le_of_eq g614.symm))) nin0) (ninS (Nat.ne_of_lt (Nat.lt_of_lt_of_le G2.lt' (Nat.le_of_eq g614.symm))) nin0)).keep KD nin0 nin0).lt (Nat.le_of_eq gA.symm))) (Nat.ne_of_lt (Nat.lt_of_lt_of_le (((G2.ext e616).keep KV (ninS (Nat.ne_of_lt (Nat.lt_of_lt_of_le G2.lt (Nat.le_of_eq g614.symm))) nin0) (ninS (Nat.ne_of_lt (Nat.lt_of_lt_of_le G2.lt' (Nat.le_of_eq g614.symm))) nin0)).keep KD nin0 nin0).lt' (Nat.le_of_eq gA.symm))) f793 A790) (fun _ q => nomatch q) [(.ref ar), (.int (Int32.ofNat P3.length)), (.ref s2)] rfl (rest := []) rfl pd___CILjava_lang_String__I rfl rfl (by decide) (by exact Nat.le_of_ble_eq_true rfl) (by decide) (by decide) (fun v798 T q799 => ?_)
  obtain ⟨h802, S800, ⟨rfl, K796, B797⟩, X801⟩ := q799
  have X := X801 [] all0
  have B797 : Arv Z h802 ar ka .char (Int32.ofNat n) (layC n (P3 ++ cs2)) (.int 0) := B797
  have f803 := (f792.keep K796 (ninS (Nat.ne_of_lt (Nat.lt_of_lt_of_le ((((G1.keep K2 nin0 nin0).ext e616).keep KV (ninS (Nat.ne_of_lt (Nat.lt_of_lt_of_le (G1.keep K2 nin0 nin0).lt (Nat.le_of_eq g614.symm))) nin0) (ninS (Nat.ne_of_lt (Nat.lt_of_lt_of_le (G1.keep K2 nin0 nin0).lt' (Nat.le_of_eq g614.symm))) nin0)).keep KD nin0 nin0).lt (Nat.le_of_eq gA.symm))) nin0) (ninS (Nat.ne_of_lt (Nat.lt_of_lt_of_le ((((G1.keep K2 nin0 nin0).ext e616).keep KV (ninS (Nat.ne_of_lt (Nat.lt_of_lt_of_le (G1.keep K2 nin0 nin0).lt (Nat.le_of_eq g614.symm))) nin0) (ninS (Nat.ne_of_lt (Nat.lt_of_lt_of_le (G1.keep K2 nin0 nin0).lt' (Nat.le_of_eq g614.symm))) nin0)).keep KD nin0 nin0).lt' (Nat.le_of_eq gA.symm))) nin0))
  have f804 := (f793.keep K796 (ninS (Nat.ne_of_lt (Nat.lt_of_lt_of_le (((G2.ext e616).keep KV (ninS (Nat.ne_of_lt (Nat.lt_of_lt_of_le G2.lt (Nat.le_of_eq g614.symm))) nin0) (ninS (Nat.ne_of_lt (Nat.lt_of_lt_of_le G2.lt' (Nat.le_of_eq g614.symm))) nin0)).keep KD nin0 nin0).lt (Nat.le_of_eq gA.symm))) nin0) (ninS (Nat.ne_of_lt (Nat.lt_of_lt_of_le (((G2.ext e616).keep KV (ninS (Nat.ne_of_lt (Nat.lt_of_lt_of_le G2.lt (Nat.le_of_eq g614.symm))) nin0) (ninS (Nat.ne_of_lt (Nat.lt_of_lt_of_le G2.lt' (Nat.le_of_eq g614.symm))) nin0)).keep KD nin0 nin0).lt' (Nat.le_of_eq gA.symm))) nin0))
  have f805 := (f794.keep K796 (ninS (Nat.ne_of_lt (Nat.lt_of_lt_of_le RD.lt (Nat.le_of_eq gA.symm))) nin0) (ninS (Nat.ne_of_lt (Nat.lt_of_lt_of_le RD.lt' (Nat.le_of_eq gA.symm))) nin0))
  have f806 := (f795.keep K796)
  show W.Go _ _ _ _ _ _ _ _ _ _ _ (mkF m 214 #[.val (.int p0), .val (.int p1), .val (.int p2), .val (.ref s0), .val (.ref s1), .val (.ref s2), .val (.ref rd), .val (.ref ar), .val (.int (Int32.ofNat P3.length))] [(.int (Int32.ofNat (P3 ++ cs2).length))])
  obtain ⟨P4, hP4⟩ : ∃ P : List Int32, P = (P3 ++ cs2) := ⟨_, rfl⟩
  rw [← hP4] at B797
  rw [← hP4]
  have LP4 : P4.length = cs0.length + 5 + cs1.length + 8 + cs2.length := by rw [hP4]; exact List.length_append.trans (congrArg (fun z => z + cs2.length) LP3)
  show W.Go _ _ _ _ _ _ _ _ _ _ _ (mkF m 214 #[.val (.int p0), .val (.int p1), .val (.int p2), .val (.ref s0), .val (.ref s1), .val (.ref s2), .val (.ref rd), .val (.ref ar), .val (.int (Int32.ofNat P3.length))] [(.int (Int32.ofNat P4.length))])
  refine W.o_istore X (pc' := 216) at_214 rfl (L' := #[.val (.int p0), .val (.int p1), .val (.int p2), .val (.ref s0), .val (.ref s1), .val (.ref s2), .val (.ref rd), .val (.ref ar), .val (.int (Int32.ofNat P4.length))]) rfl ?_
  refine W.o_aload X (pc' := 218) at_216 rfl rfl rfl ?_
  refine W.o_iload X (pc' := 220) at_218 rfl rfl ?_
  refine W.o_bipush X (41 : Int32) (pc' := 222) at_220 rfl rfl ?_
  have hq811 : P4.length < n := len_16 hn LP4
  refine W.o_castore X (pc' := 223) at_222 rfl B797 P4.length (o32_clamp (Nat.lt_trans hq811 (Nat.lt_trans hnn (by decide)))) (o32_lt hq811 (Nat.lt_trans hnn (by decide))) (by rw [layC_len (Nat.le_of_lt hq811)]; exact hq811) zA (Or.inr (Or.inl (by simp))) (fun T h807 w808 a809 X => ?_)
  rw [show nar .char (41 : Int32) = (41 : Int32) from rfl] at a809
  have A810 : Arv Z h807 ar ka .char (Int32.ofNat n) (layC n (P4 ++ [41])) (.int 0) := by rw [← layC_set hq811]; exact a809
  have le14 : (P4 ++ [41]).length = P4.length + 1 := List.length_append.trans (congrArg (fun z => z + 1) rfl)
  have f812 := (f803.other w808 (Nat.ne_of_lt (Nat.lt_of_lt_of_le ((((G1.keep K2 nin0 nin0).ext e616).keep KV (ninS (Nat.ne_of_lt (Nat.lt_of_lt_of_le (G1.keep K2 nin0 nin0).lt (Nat.le_of_eq g614.symm))) nin0) (ninS (Nat.ne_of_lt (Nat.lt_of_lt_of_le (G1.keep K2 nin0 nin0).lt' (Nat.le_of_eq g614.symm))) nin0)).keep KD nin0 nin0).lt (Nat.le_of_eq gA.symm))) (Nat.ne_of_lt (Nat.lt_of_lt_of_le ((((G1.keep K2 nin0 nin0).ext e616).keep KV (ninS (Nat.ne_of_lt (Nat.lt_of_lt_of_le (G1.keep K2 nin0 nin0).lt (Nat.le_of_eq g614.symm))) nin0) (ninS (Nat.ne_of_lt (Nat.lt_of_lt_of_le (G1.keep K2 nin0 nin0).lt' (Nat.le_of_eq g614.symm))) nin0)).keep KD nin0 nin0).lt' (Nat.le_of_eq gA.symm))))
  have f813 := (f804.other w808 (Nat.ne_of_lt (Nat.lt_of_lt_of_le (((G2.ext e616).keep KV (ninS (Nat.ne_of_lt (Nat.lt_of_lt_of_le G2.lt (Nat.le_of_eq g614.symm))) nin0) (ninS (Nat.ne_of_lt (Nat.lt_of_lt_of_le G2.lt' (Nat.le_of_eq g614.symm))) nin0)).keep KD nin0 nin0).lt (Nat.le_of_eq gA.symm))) (Nat.ne_of_lt (Nat.lt_of_lt_of_le (((G2.ext e616).keep KV (ninS (Nat.ne_of_lt (Nat.lt_of_lt_of_le G2.lt (Nat.le_of_eq g614.symm))) nin0) (ninS (Nat.ne_of_lt (Nat.lt_of_lt_of_le G2.lt' (Nat.le_of_eq g614.symm))) nin0)).keep KD nin0 nin0).lt' (Nat.le_of_eq gA.symm))))
  have f814 := (f805.other w808 (Nat.ne_of_lt (Nat.lt_of_lt_of_le RD.lt (Nat.le_of_eq gA.symm))) (Nat.ne_of_lt (Nat.lt_of_lt_of_le RD.lt' (Nat.le_of_eq gA.symm))))
  have f815 := (f806.wr w808)
  have hF : (((((cs0 ++ [32, 105, 115, 32, 34]) ++ cs1) ++ [34, 32, 40, 102, 114, 111, 109, 32]) ++ cs2) ++ [41]) = (P4 ++ [41]) := by rw [hP4, hP3, hP2, hP1]; simp
  have hFl : (P4 ++ [41]).length = n := len_17 hn (le14.trans (congrArg (fun z => z + 1) LP4))
  have AF : Arv Z h807 ar ka .char (Int32.ofNat (P4 ++ [41]).length) ((P4 ++ [41]).map .int) (.int 0) := by
    have q := A810
    rw [layC_all hFl.symm, ← hFl] at q
    exact q
  have hlatF : ∀ c ∈ (P4 ++ [41]), ¬ c < 0 ∧ ¬ 255 < c := by rw [← hF]; exact f814.2.2.2.2.2
  refine W.o_aload X (pc' := 225) at_223 rfl rfl rfl ?_
  refine W.o_new X (pc' := 228) at_225 rfl (hw _ (List.mem_of_getElem? (i := 5) rfl)) (hw _ (List.mem_of_getElem? (i := 6) rfl)) (hw _ (List.mem_of_getElem? (i := 7) rfl)) (by decide) (by decide) (fun T h816 b817 g818 z819 e820 a821 D822 X => ?_)
  have f823 : Fld Z h816 b817 "java/lang/String" "value" "[B" .null := D822 (Or.inr (hw _ (List.mem_of_getElem? (i := 20) rfl))) (ty := (.array .byte)) (by decide)
  have f824 : Fld Z h816 b817 "java/lang/String" "coder" "B" (.int (0 : Int32)) := D822 (Or.inr (hw _ (List.mem_of_getElem? (i := 21) rfl))) (ty := .byte) (by decide)
  refine W.o_dup X (pc' := 229) at_228 rfl rfl ?_
  refine W.o_aload X (pc' := 231) at_229 rfl rfl rfl ?_
  have f825 := (AF.ext e820)
  refine W.o_special X (pc' := 234) at_231 rfl (z := (⟨"java/lang/String", "<init>", "([C)V"⟩ : MethodName)) rfl (hw _ (List.mem_of_getElem? (i := 8) rfl)) (hw _ (List.mem_of_getElem? (i := 9) rfl)) (hw _ (List.mem_of_getElem? (i := 7) rfl)) (hw _ (List.mem_of_getElem? (i := 10) rfl)) (by decide) (ctNew1 l Z a0 hw b817 ar ka (P4 ++ [41]) cz h816 (by rw [hFl]; exact Nat.le_trans hn23 (by decide)) (by rw [hFl, hn]; exact Nat.succ_ne_zero _) hlatF C0 hcz z819 a821 f823 f824 f825) (allS ⟨a821.lt, (Or.inr (Or.inl (by simp)))⟩ all0) [(.ref ar)] rfl (rest := [(.ref b817), (.ref rd)]) rfl pd___C_V rfl rfl (by decide) (by exact Nat.le_of_ble_eq_true rfl) (by decide) (by decide) (fun v826 T q827 => ?_)
  obtain ⟨h830, S828, ⟨rfl, KF, tF, gF, RF⟩, X829⟩ := q827
  have X := X829 [] all0
  show W.Go _ _ _ _ _ _ _ _ _ _ _ (mkF m 234 #[.val (.int p0), .val (.int p1), .val (.int p2), .val (.ref s0), .val (.ref s1), .val (.ref s2), .val (.ref rd), .val (.ref ar), .val (.int (Int32.ofNat P4.length))] [(.ref b817), (.ref rd)])
  have f831 := ((f814.ext e820).keep KF (ninS (Nat.ne_of_lt (Nat.lt_of_lt_of_le ((((((((((((((((((RD.ext EA).keep K656 (ninS (Nat.ne_of_lt (Nat.lt_of_lt_of_le RD.lt (Nat.le_of_eq gA.symm))) nin0) (ninS (Nat.ne_of_lt (Nat.lt_of_lt_of_le RD.lt' (Nat.le_of_eq gA.symm))) nin0)).other w669 (Nat.ne_of_lt (Nat.lt_of_lt_of_le RD.lt (Nat.le_of_eq gA.symm))) (Nat.ne_of_lt (Nat.lt_of_lt_of_le RD.lt' (Nat.le_of_eq gA.symm)))).other w678 (Nat.ne_of_lt (Nat.lt_of_lt_of_le RD.lt (Nat.le_of_eq gA.symm))) (Nat.ne_of_lt (Nat.lt_of_lt_of_le RD.lt' (Nat.le_of_eq gA.symm)))).other w687 (Nat.ne_of_lt (Nat.lt_of_lt_of_le RD.lt (Nat.le_of_eq gA.symm))) (Nat.ne_of_lt (Nat.lt_of_lt_of_le RD.lt' (Nat.le_of_eq gA.symm)))).other w696 (Nat.ne_of_lt (Nat.lt_of_lt_of_le RD.lt (Nat.le_of_eq gA.symm))) (Nat.ne_of_lt (Nat.lt_of_lt_of_le RD.lt' (Nat.le_of_eq gA.symm)))).other w705 (Nat.ne_of_lt (Nat.lt_of_lt_of_le RD.lt (Nat.le_of_eq gA.symm))) (Nat.ne_of_lt (Nat.lt_of_lt_of_le RD.lt' (Nat.le_of_eq gA.symm)))).keep K713 (ninS (Nat.ne_of_lt (Nat.lt_of_lt_of_le RD.lt (Nat.le_of_eq gA.symm))) nin0) (ninS (Nat.ne_of_lt (Nat.lt_of_lt_of_le RD.lt' (Nat.le_of_eq gA.symm))) nin0)).other w725 (Nat.ne_of_lt (Nat.lt_of_lt_of_le RD.lt (Nat.le_of_eq gA.symm))) (Nat.ne_of_lt (Nat.lt_of_lt_of_le RD.lt' (Nat.le_of_eq gA.symm)))).other w734 (Nat.ne_of_lt (Nat.lt_of_lt_of_le RD.lt (Nat.le_of_eq gA.symm))) (Nat.ne_of_lt (Nat.lt_of_lt_of_le RD.lt' (Nat.le_of_eq gA.symm)))).other w743 (Nat.ne_of_lt (Nat.lt_of_lt_of_le RD.lt (Nat.le_of_eq gA.symm))) (Nat.ne_of_lt (Nat.lt_of_lt_of_le RD.lt' (Nat.le_of_eq gA.symm)))).other w752 (Nat.ne_of_lt (Nat.lt_of_lt_of_le RD.lt (Nat.le_of_eq gA.symm))) (Nat.ne_of_lt (Nat.lt_of_lt_of_le RD.lt' (Nat.le_of_eq gA.symm)))).other w761 (Nat.ne_of_lt (Nat.lt_of_lt_of_le RD.lt (Nat.le_of_eq gA.symm))) (Nat.ne_of_lt (Nat.lt_of_lt_of_le RD.lt' (Nat.le_of_eq gA.symm)))).other w770 (Nat.ne_of_lt (Nat.lt_of_lt_of_le RD.lt (Nat.le_of_eq gA.symm))) (Nat.ne_of_lt (Nat.lt_of_lt_of_le RD.lt' (Nat.le_of_eq gA.symm)))).other w779 (Nat.ne_of_lt (Nat.lt_of_lt_of_le RD.lt (Nat.le_of_eq gA.symm))) (Nat.ne_of_lt (Nat.lt_of_lt_of_le RD.lt' (Nat.le_of_eq gA.symm)))).other w788 (Nat.ne_of_lt (Nat.lt_of_lt_of_le RD.lt (Nat.le_of_eq gA.symm))) (Nat.ne_of_lt (Nat.lt_of_lt_of_le RD.lt' (Nat.le_of_eq gA.symm)))).keep K796 (ninS (Nat.ne_of_lt (Nat.lt_of_lt_of_le RD.lt (Nat.le_of_eq gA.symm))) nin0) (ninS (Nat.ne_of_lt (Nat.lt_of_lt_of_le RD.lt' (Nat.le_of_eq gA.symm))) nin0)).other w808 (Nat.ne_of_lt (Nat.lt_of_lt_of_le RD.lt (Nat.le_of_eq gA.symm))) (Nat.ne_of_lt (Nat.lt_of_lt_of_le RD.lt' (Nat.le_of_eq gA.symm)))).lt (Nat.le_of_eq g818.symm))) nin0) (ninS (Nat.ne_of_lt (Nat.lt_of_lt_of_le ((((((((((((((((((RD.ext EA).keep K656 (ninS (Nat.ne_of_lt (Nat.lt_of_lt_of_le RD.lt (Nat.le_of_eq gA.symm))) nin0) (ninS (Nat.ne_of_lt (Nat.lt_of_lt_of_le RD.lt' (Nat.le_of_eq gA.symm))) nin0)).other w669 (Nat.ne_of_lt (Nat.lt_of_lt_of_le RD.lt (Nat.le_of_eq gA.symm))) (Nat.ne_of_lt (Nat.lt_of_lt_of_le RD.lt' (Nat.le_of_eq gA.symm)))).other w678 (Nat.ne_of_lt (Nat.lt_of_lt_of_le RD.lt (Nat.le_of_eq gA.symm))) (Nat.ne_of_lt (Nat.lt_of_lt_of_le RD.lt' (Nat.le_of_eq gA.symm)))).other w687 (Nat.ne_of_lt (Nat.lt_of_lt_of_le RD.lt (Nat.le_of_eq gA.symm))) (Nat.ne_of_lt (Nat.lt_of_lt_of_le RD.lt' (Nat.le_of_eq gA.symm)))).other w696 (Nat.ne_of_lt (Nat.lt_of_lt_of_le RD.lt (Nat.le_of_eq gA.symm))) (Nat.ne_of_lt (Nat.lt_of_lt_of_le RD.lt' (Nat.le_of_eq gA.symm)))).other w705 (Nat.ne_of_lt (Nat.lt_of_lt_of_le RD.lt (Nat.le_of_eq gA.symm))) (Nat.ne_of_lt (Nat.lt_of_lt_of_le RD.lt' (Nat.le_of_eq gA.symm)))).keep K713 (ninS (Nat.ne_of_lt (Nat.lt_of_lt_of_le RD.lt (Nat.le_of_eq gA.symm))) nin0) (ninS (Nat.ne_of_lt (Nat.lt_of_lt_of_le RD.lt' (Nat.le_of_eq gA.symm))) nin0)).other w725 (Nat.ne_of_lt (Nat.lt_of_lt_of_le RD.lt (Nat.le_of_eq gA.symm))) (Nat.ne_of_lt (Nat.lt_of_lt_of_le RD.lt' (Nat.le_of_eq gA.symm)))).other w734 (Nat.ne_of_lt (Nat.lt_of_lt_of_le RD.lt (Nat.le_of_eq gA.symm))) (Nat.ne_of_lt (Nat.lt_of_lt_of_le RD.lt' (Nat.le_of_eq gA.symm)))).other w743 (Nat.ne_of_lt (Nat.lt_of_lt_of_le RD.lt (Nat.le_of_eq gA.symm))) (Nat.ne_of_lt (Nat.lt_of_lt_of_le RD.lt' (Nat.le_of_eq gA.symm)))).other w752 (Nat.ne_of_lt (Nat.lt_of_lt_of_le RD.lt (Nat.le_of_eq gA.symm))) (Nat.ne_of_lt (Nat.lt_of_lt_of_le RD.lt' (Nat.le_of_eq gA.symm)))).other w761 (Nat.ne_of_lt (Nat.lt_of_lt_of_le RD.lt (Nat.le_of_eq gA.symm))) (Nat.ne_of_lt (Nat.lt_of_lt_of_le RD.lt' (Nat.le_of_eq gA.symm)))).other w770 (Nat.ne_of_lt (Nat.lt_of_lt_of_le RD.lt (Nat.le_of_eq gA.symm))) (Nat.ne_of_lt (Nat.lt_of_lt_of_le RD.lt' (Nat.le_of_eq gA.symm)))).other w779 (Nat.ne_of_lt (Nat.lt_of_lt_of_le RD.lt (Nat.le_of_eq gA.symm))) (Nat.ne_of_lt (Nat.lt_of_lt_of_le RD.lt' (Nat.le_of_eq gA.symm)))).other w788 (Nat.ne_of_lt (Nat.lt_of_lt_of_le RD.lt (Nat.le_of_eq gA.symm))) (Nat.ne_of_lt (Nat.lt_of_lt_of_le RD.lt' (Nat.le_of_eq gA.symm)))).keep K796 (ninS (Nat.ne_of_lt (Nat.lt_of_lt_of_le RD.lt (Nat.le_of_eq gA.symm))) nin0) (ninS (Nat.ne_of_lt (Nat.lt_of_lt_of_le RD.lt' (Nat.le_of_eq gA.symm))) nin0)).other w808 (Nat.ne_of_lt (Nat.lt_of_lt_of_le RD.lt (Nat.le_of_eq gA.symm))) (Nat.ne_of_lt (Nat.lt_of_lt_of_le RD.lt' (Nat.le_of_eq gA.symm)))).lt' (Nat.le_of_eq g818.symm))) nin0))
  have f834 := ((f815.ext e820).keep KF)
  refine W.o_virtual X (pc' := 237) at_234 rfl (u := (⟨"java/lang/String", "equals", "(Ljava/lang/Object;)Z"⟩ : MethodName)) (z := (⟨"java/lang/String", "equals", "(Ljava/lang/Object;)Z"⟩ : MethodName)) (hw _ (List.mem_of_getElem? (i := 177) rfl)) (hw _ (List.mem_of_getElem? (i := 178) rfl)) (fun s' hZ => notFace_of_selects (args := #[]) (mvT hZ (hw _ (List.mem_of_getElem? (i := 180) rfl)))) (hw _ (List.mem_of_getElem? (i := 180) rfl)) (hw _ (List.mem_of_getElem? (i := 179) rfl)) (hw _ (List.mem_of_getElem? (i := 7) rfl)) (hw _ (List.mem_of_getElem? (i := 181) rfl)) (by decide) f834 (ctSEq l Z a0 hw rd b817 tr tF (((((cs0 ++ [32, 105, 115, 32, 34]) ++ cs1) ++ [34, 32, 40, 102, 114, 111, 109, 32]) ++ cs2) ++ [41]) (P4 ++ [41]) cz h830 C0 hcz (fun _ => hF) f831 RF) (fun _ q => nomatch q) [(.ref b817)] rfl (rest := []) rfl pd__Ljava_lang_Object__Z rfl rfl (by decide) (by exact Nat.le_of_ble_eq_true rfl) (by decide) (by decide) (fun v832 T q833 => ?_)
  obtain ⟨h837, S835, ⟨rfl, eh⟩, X836⟩ := q833
  have eh := eh.symm
  subst eh
  have X := X836 [] all0
  show W.Go _ _ _ _ _ _ _ _ _ _ _ (mkF m 237 #[.val (.int p0), .val (.int p1), .val (.int p2), .val (.ref s0), .val (.ref s1), .val (.ref s2), .val (.ref rd), .val (.ref ar), .val (.int (Int32.ofNat P4.length))] [(.int (b2i (decide ((((((cs0 ++ [32, 105, 115, 32, 34]) ++ cs1) ++ [34, 32, 40, 102, 114, 111, 109, 32]) ++ cs2) ++ [41]) = (P4 ++ [41])))))])
  exact W.o_ireturn X at_237 rfl (Or.inl rfl) (v := 1) (by rw [decide_eq_true hF]; rfl) (by decide) (by decide) fun P hP => rfl
set_option maxRecDepth 65536 in
set_option maxHeartbeats 40000000 in
theorem comes_1 {Post : Tables → Env → Array Value → State → Outcome → State → Prop} (hpost : ∀ tb e args s v u, (limb_1_1.after args s (.returned v) u = true ∧ limb_1_2.after args s (.returned v) u = true ∧ True) → ReturnedEndW s (.returned v) u (Jvm.fieldLocs frame_1_writes args s ++ Jvm.arrayLocs frame_1_arrays args s ++ Jvm.staticLocs frame_1_statics s) 56 4544 → Post tb e args s (.returned v) u) :
    ArmFor flags0 classFile x code maxLocals ret World_1 tables_1 room_1 Calls_1 rest_1 Pre_1 Post := by
  intro l hfl _ _ p e ha hc hk s m args below hf hA hF happ hP
  obtain ⟨hcalls, hrest, hpre⟩ := hP
  obtain ⟨-, -, -, hnamed, -, -, -, hat⟩ := (Spec.applies_iff hf).mp happ
  obtain ⟨hg, hn⟩ := and_e (Cond.before_iff.mp (show (Jvm.Cond.and given_1 narrow_1).before args s = true from hpre))
  obtain ⟨g0, r0⟩ := and_e hg
  obtain ⟨g1, r1⟩ := and_e r0
  obtain ⟨g2, r2⟩ := and_e r1
  obtain ⟨w0, w1, w2, rfl⟩ : ∃ w0 w1 w2 : Value, args = #[w0, w1, w2] := by
    have hs : args.size = 3 := by simpa [Cond.value, given_1] using g0
    obtain ⟨L⟩ := args
    match L, hs with
    | [w0, w1, w2], _ => exact ⟨w0, w1, w2, rfl⟩
  have hw := fun d (hd : d ∈ tables_1) => atoms_spec (ws := Jvm.Cond.code x code maxLocals ret :: tables_1) hat d (List.mem_cons_of_mem _ hd)
  obtain ⟨hsets, hown0⟩ := atoms_of _ (rest_1_c_eq ▸ (show rest_1_c.before _ s = true from hrest))
  obtain ⟨i0, ei0⟩ := is_v g1
  obtain rfl : w0 = (.int i0) := Option.some.inj ei0
  obtain ⟨i1, ei1⟩ := is_v g2
  obtain rfl : w1 = (.int i1) := Option.some.inj ei1
  obtain ⟨i2, ei2⟩ := is_v r2
  obtain rfl : w2 = (.int i2) := Option.some.inj ei2
  have n3 := not_v (Cond.before_iff.mp (hsets _ (List.mem_of_getElem? (i := 2) rfl)))
  obtain ⟨cz, ecz⟩ := is_v (Cond.before_iff.mp (hsets _ (List.mem_of_getElem? (i := 1) rfl)))
  have C0 : Sta s s.heap "java/lang/String" "COMPACT_STRINGS" "Z" (.int cz) := Sta.start ecz (Or.inl (hsets _ (List.mem_of_getElem? (i := 0) rfl)))
  have hcz : ¬ (cz = (0 : Int32)) := gotF (Cond.eq_ints ecz (Term.int_eval (0))) n3
  obtain ⟨fv, efv, hfv⟩ := isR_v (Cond.before_iff.mp (hsets _ (List.mem_of_getElem? (i := 8) rfl)))
  have FM : Sta s s.heap "jdk/internal/util/Preconditions" "SIOOBE_FORMATTER" "Ljava/util/function/BiFunction;" fv := Sta.start efv (Or.inl (hsets _ (List.mem_of_getElem? (i := 7) rfl)))
  have hEx : Ext s.heap s.heap := ⟨Nat.le_refl _, fun _ _ q => q⟩
  have hEW : EW s #[(.int i0), (.int i1), (.int i2)] el := EW.cons (hw _ (List.mem_of_getElem? (i := 115) rfl)) (by decide) (EW.cons (hw _ (List.mem_of_getElem? (i := 116) rfl)) (by decide) (EW.cons (hw _ (List.mem_of_getElem? (i := 117) rfl)) (by decide) (EW.cons (hw _ (List.mem_of_getElem? (i := 18) rfl)) (by decide) (EW.nil))))
  have hCH : CHv s el s.vm s.heap := CHv.start hEW (fun p hp => hcalls.1 p hp) (hsets _ (List.mem_of_getElem? (i := 2) rfl)) (hw _ (List.mem_of_getElem? (i := 19) rfl)) (hw _ (List.mem_of_getElem? (i := 6) rfl))
  obtain ⟨n, o, h1, h2, h3, v, L, rfl, ⟨N, -, -, rfl⟩, hq⟩ := ctLaw l s _ hw i0 i1 i2 cz fv s.heap C0 hcz FM hfv tables_1 hEW hEx p e ha hc hk s m _ below hf ((Spec.applies_iff_loose hf).mp happ).1 ⟨rfl, State.Warmed39.refl s, rfl, hCH, all0⟩ trivial
  have hq : ReturnedEndW s _ _ L room_1.cells room_1.slots := hq
  exact ⟨n, _, h1, h2, h3, hpost _ _ _ _ _ _ ⟨Cond.after_iff.mpr rfl, Cond.after_iff.mpr (eq_i res_at (Term.int_eval (1)) rfl), trivial⟩ ⟨hq.1, hq.2.1, hq.2.2.1, (hq.2.2.2.sift fun y hy => Or.inr (N y hy)).mono (by decide) (by decide)⟩⟩
theorem main_1_1 : Claimed_1_1 := comes_1 fun _ _ _ _ _ _ h hF => ⟨h.1, hF⟩
theorem main_1_2 : Claimed_1_2 := comes_1 fun _ _ _ _ _ _ h hF => ⟨h.2.1, hF⟩
end Jvm.Pilot.@@N@@
namespace Jvm.Pilot.@@N@@
open Jvm Jvm.ClassFile Sem Op Lib Jvm.Free Jvm.Stand Jvm.Pilot.@@N@@.Jvm.D
/-! MADE BY PROGRAM (witnessworld.py) out of the Statement's table words and the real class files: 27 classes; the members and pool entries that the words name. The judged class is class 1, her method 3. -/
namespace start1
open Jvm.ClassFile
def u (s : String) : CpInfo := .utf8 (stringToUtf16 s)
/-- a pool by its gaps: so many unusable entries, then the entry; so many at the end -/
def gap : Nat → List CpInfo → List CpInfo
  | 0, r => r
  | n + 1, r => .unusable :: gap n r
def poolList (es : List (Nat × CpInfo)) (last : Nat) : List CpInfo := es.foldr (fun e r => gap e.1 (e.2 :: r)) (gap last [])
def pool (es : List (Nat × CpInfo)) (last : Nat) : Array CpInfo := ⟨poolList es last⟩
def fileOf (pool : Array CpInfo) (this : Nat) (attrs : Array Attribute := #[]) (ms : Array MethodInfo := #[]) (fl : Nat := 33) (sup : Nat := 0) (ifs : Array Nat := #[]) (fds : Array FieldInfo := #[]) : ClassFile where
  minorVersion := 0
  majorVersion := 65
  constantPool := pool
  accessFlags := fl
  thisClass := this
  superClass := sup
  interfaces := ifs
  fields := fds
  methods := ms
  attributes := attrs
def plain (name : String) (sup : Option ClassId) : Class where
  name := name
  kind := .ordinary
  loader := none
  accessFlags := 33
  super := sup
  interfaces := #[]
  cf := none
  fields := #[]
  methods := #[]
  instanceTypes := #[]
  staticTypes := #[]
  resolved := #[]
  callSites := []
  init := .initialized
  statics := none
  mirror := none

def pool0 : Array CpInfo := pool [(5, u "<init>"), (0, u "()V"), (1, .class_ 10), (1, u "java/lang/Object"), (85, u "clone"), (0, u "()Ljava/lang/Object;")] 26

def k0c0 : Code := { maxStack := 0, maxLocals := 1, code := object_method_1_code, exceptionTable := #[], attributes := #[] }
def k0m0 : Method := { name := "<init>", desc := "()V", sig := { parameters := [], returnType := none }, accessFlags := 1, code := some k0c0 }
def k0m1 : Method := { name := "clone", desc := "()Ljava/lang/Object;", sig := { parameters := [], returnType := some (.object "java/lang/Object") }, accessFlags := 260, code := none }
/-- java/lang/Object -/
def k0 : Class := { plain "java/lang/Object" none with
  accessFlags := 33
  interfaces := #[]
  cf := some (fileOf pool0 8 #[] #[{ accessFlags := 1, nameIndex := 5, descriptorIndex := 6, attributes := #[] }, { accessFlags := 260, nameIndex := 96, descriptorIndex := 97, attributes := #[] }] 33 0 #[] #[])
  fields := #[]
  methods := #[k0m0, k0m1]
  instanceTypes := #[]
  staticTypes := #[]
  resolved := Array.replicate 124 none
  statics := none }

def pool1 : Array CpInfo := pool [(2, .class_ 4), (1, u "java/lang/Object"), (0, u "<init>"), (0, u "()V"), (0, .class_ 8), (0, u "java/lang/String"), (0, .methodref 7 10), (0, .nameAndType 5 11), (0, u "([C)V"), (0, .methodref 7 13), (0, .nameAndType 14 15), (0, u "length"), (0, u "()I"), (0, .methodref 7 17), (0, .nameAndType 18 19), (0, u "charAt"), (0, u "(I)C"), (0, .methodref 21 22), (0, .class_ 23), (0, .nameAndType 24 25), (0, u "com/example/kindling/kindling/ValueDescribedPinLaw"), (0, u "draw"), (0, u "(I)Ljava/lang/String;"), (0, .class_ 27), (0, u "com/example/kindling/kindling/Environment$Value"), (0, .methodref 26 29), (0, .nameAndType 5 30), (0, u "(Ljava/lang/String;Ljava/lang/String;Ljava/lang/String;)V"), (0, .methodref 26 32), (0, .nameAndType 33 34), (0, u "described"), (0, u "()Ljava/lang/String;"), (0, .methodref 21 36), (0, .nameAndType 37 38), (0, u "put"), (0, u "([CILjava/lang/String;)I"), (0, .methodref 7 40), (0, .nameAndType 41 42), (0, u "equals"), (0, u "(Ljava/lang/Object;)Z"), (5, u "law"), (0, u "(III)Z")] 6

def k1m0 : Method := { name := "<init>", desc := "()V", sig := { parameters := [], returnType := none }, accessFlags := 1, code := none }
def k1c1 : Code := { maxStack := 4, maxLocals := 3, code := method_2_code, exceptionTable := #[], attributes := #[] }
def k1m1 : Method := { name := "draw", desc := "(I)Ljava/lang/String;", sig := { parameters := [.int], returnType := some (.object "java/lang/String") }, accessFlags := 10, code := some k1c1 }
def k1c2 : Code := { maxStack := 4, maxLocals := 4, code := method_3_code, exceptionTable := #[], attributes := #[] }
def k1m2 : Method := { name := "put", desc := "([CILjava/lang/String;)I", sig := { parameters := [(.array .char), .int, (.object "java/lang/String")], returnType := some .int }, accessFlags := 10, code := some k1c2 }
def k1c3 : Code := { maxStack := 5, maxLocals := 9, code := code, exceptionTable := #[], attributes := #[] }
def k1m3 : Method := { name := "law", desc := "(III)Z", sig := { parameters := [.int, .int, .int], returnType := some .boolean }, accessFlags := 9, code := some k1c3 }
/-- com/example/kindling/kindling/ValueDescribedPinLaw -/
def k1 : Class := { plain "com/example/kindling/kindling/ValueDescribedPinLaw" (some 0) with
  accessFlags := 49
  interfaces := #[]
  cf := some (fileOf pool1 21 #[] #[{ accessFlags := 1, nameIndex := 5, descriptorIndex := 6, attributes := #[] }, { accessFlags := 10, nameIndex := 24, descriptorIndex := 25, attributes := #[] }, { accessFlags := 10, nameIndex := 37, descriptorIndex := 38, attributes := #[] }, { accessFlags := 9, nameIndex := 48, descriptorIndex := 49, attributes := #[] }] 49 2 #[] #[])
  fields := #[]
  methods := #[k1m0, k1m1, k1m2, k1m3]
  instanceTypes := #[]
  staticTypes := #[]
  resolved := Array.replicate 56 none
  statics := none }

def pool2 : Array CpInfo := pool [(1, .class_ 2), (0, u "java/io/Serializable"), (0, .class_ 4), (0, u "java/lang/Object")] 2

/-- java/io/Serializable -/
def k2 : Class := { plain "java/io/Serializable" (some 0) with
  accessFlags := 1537
  interfaces := #[]
  cf := some (fileOf pool2 1 #[] #[] 1537 3 #[] #[])
  fields := #[]
  methods := #[]
  instanceTypes := #[]
  staticTypes := #[]
  resolved := Array.replicate 7 none
  statics := none }

def pool3 : Array CpInfo := pool [(1, .class_ 2), (0, u "java/lang/Comparable"), (0, .class_ 4), (0, u "java/lang/Object")] 7

/-- java/lang/Comparable -/
def k3 : Class := { plain "java/lang/Comparable" (some 0) with
  accessFlags := 1537
  interfaces := #[]
  cf := some (fileOf pool3 1 #[] #[] 1537 3 #[] #[])
  fields := #[]
  methods := #[]
  instanceTypes := #[]
  staticTypes := #[]
  resolved := Array.replicate 12 none
  statics := none }

def pool4 : Array CpInfo := pool [(2, .class_ 4), (1, u "java/lang/CharSequence"), (42, .class_ 48), (0, u "java/lang/CharSequence$1CodePointIterator"), (10, .class_ 60), (0, u "java/lang/CharSequence$1CharIterator"), (5, .class_ 67), (0, u "java/lang/Object")] 63

/-- java/lang/CharSequence -/
def k4 : Class := { plain "java/lang/CharSequence" (some 0) with
  accessFlags := 1537
  interfaces := #[]
  cf := some (fileOf pool4 2 #[.nestMembers #[47, 59]] #[] 1537 66 #[] #[])
  fields := #[]
  methods := #[]
  instanceTypes := #[]
  staticTypes := #[]
  resolved := Array.replicate 131 none
  statics := none }

def pool5 : Array CpInfo := pool [(1, .class_ 2), (0, u "java/lang/constant/Constable"), (0, .class_ 4), (0, u "java/lang/Object")] 6

/-- java/lang/constant/Constable -/
def k5 : Class := { plain "java/lang/constant/Constable" (some 0) with
  accessFlags := 1537
  interfaces := #[]
  cf := some (fileOf pool5 1 #[] #[] 1537 3 #[] #[])
  fields := #[]
  methods := #[]
  instanceTypes := #[]
  staticTypes := #[]
  resolved := Array.replicate 11 none
  statics := none }

def pool6 : Array CpInfo := pool [(1, .class_ 2), (0, u "java/lang/constant/ConstantDesc"), (0, .class_ 4), (0, u "java/lang/Object")] 32

/-- java/lang/constant/ConstantDesc -/
def k6 : Class := { plain "java/lang/constant/ConstantDesc" (some 0) with
  accessFlags := 1537
  interfaces := #[]
  cf := some (fileOf pool6 1 #[] #[] 1537 3 #[] #[])
  fields := #[]
  methods := #[]
  instanceTypes := #[]
  staticTypes := #[]
  resolved := Array.replicate 37 none
  statics := none }

def pool7 : Array CpInfo := pool [(1, .methodref 2 3), (0, .class_ 4), (0, .nameAndType 5 6), (0, u "java/lang/Object"), (0, u "<init>"), (0, u "()V"), (0, .string 8), (0, u ""), (0, .fieldref 10 11), (0, .class_ 12), (0, .nameAndType 13 14), (0, u "java/lang/String"), (0, u "value"), (0, u "[B"), (0, .fieldref 10 16), (0, .nameAndType 17 18), (0, u "coder"), (0, u "B"), (2, u "hash"), (0, u "I"), (2, u "hashIsZero"), (0, u "Z"), (0, .methodref 10 28), (0, .nameAndType 5 29), (0, u "([CIILjava/lang/Void;)V"), (8, .fieldref 10 39), (0, .nameAndType 40 26), (0, u "COMPACT_STRINGS"), (1, .class_ 44), (1, u "java/lang/StringUTF16"), (0, u "compress"), (1, .methodref 42 48), (0, .nameAndType 49 50), (0, u "coderFromArrayLen"), (0, u "([BI)B"), (3, .methodref 55 56), (0, .class_ 57), (0, .nameAndType 58 59), (0, u "java/util/Arrays"), (0, u "copyOfRange"), (0, u "([BII)[B"), (47, .class_ 109), (1, u "java/lang/StringLatin1"), (32, u "()Z"), (34, .methodref 42 178), (0, .nameAndType 45 179), (0, u "([CII)[B"), (13, .class_ 195), (1, u "java/lang/System"), (16, .methodref 193 213), (0, .nameAndType 214 215), (0, u "arraycopy"), (0, u "(Ljava/lang/Object;ILjava/lang/Object;II)V"), (118, u "()I"), (0, .methodref 10 336), (0, .nameAndType 17 337), (0, u "()B"), (2, u "()[B"), (22, u "([BI)C"), (27, u "(II)V"), (35, u "(I)C"), (61, .methodref 10 490), (0, .nameAndType 5 491), (0, u "(Ljava/lang/AbstractStringBuilder;Ljava/lang/Void;)V"), (0, .methodref 10 493), (0, .nameAndType 494 142), (0, u "isLatin1"), (0, .methodref 107 496), (0, .nameAndType 497 363), (0, u "charAt"), (3, u "checkIndex"), (4, .nameAndType 507 334), (0, u "length"), (24, u "getBytes"), (8, .methodref 107 542), (0, .nameAndType 543 544), (0, u "equals"), (0, u "([B[B)Z"), (4, .methodref 550 506), (0, .class_ 551), (0, u "java/lang/AbstractStringBuilder"), (0, .methodref 550 553), (0, .nameAndType 554 340), (0, u "getValue"), (18, u "(Ljava/lang/Object;)Z"), (1, .class_ 576), (0, u "java/lang/CharSequence"), (22, u "CASE_INSENSITIVE_ORDER"), (0, u "Ljava/util/Comparator;"), (220, u "([BIB)V"), (188, u "([C)V"), (36, .methodref 550 493), (5, .fieldref 1054 1055), (0, .class_ 1056), (0, .nameAndType 1057 1058), (0, u "jdk/internal/util/Preconditions"), (0, u "SIOOBE_FORMATTER"), (0, u "Ljava/util/function/BiFunction;"), (0, .methodref 1054 1060), (0, .nameAndType 501 1061), (0, u "(IILjava/util/function/BiFunction;)I"), (39, u "serialPersistentFields"), (0, u "[Ljava/io/ObjectStreamField;"), (0, .class_ 1104), (0, u "java/lang/String$CaseInsensitiveComparator"), (1, .class_ 1107), (0, u "java/io/Serializable"), (0, .class_ 1109), (0, u "java/lang/Comparable"), (0, .class_ 1111), (0, u "java/lang/constant/Constable"), (0, .class_ 1113), (0, u "java/lang/constant/ConstantDesc"), (2, u "serialVersionUID"), (0, u "J"), (3, u "REPL"), (0, u "C"), (2, u "LATIN1"), (1, u "UTF16"), (105, u "(Ljava/lang/StringBuilder;)V")] 217

def k7m0 : Method := { name := "<init>", desc := "()V", sig := { parameters := [], returnType := none }, accessFlags := 1, code := none }
def k7c1 : Code := { maxStack := 5, maxLocals := 2, code := jdk_42_method_3_code, exceptionTable := #[], attributes := #[] }
def k7m1 : Method := { name := "<init>", desc := "([C)V", sig := { parameters := [(.array .char)], returnType := none }, accessFlags := 1, code := some k7c1 }
def k7c2 : Code := { maxStack := 3, maxLocals := 2, code := jdk_42_method_53_code, exceptionTable := #[], attributes := #[] }
def k7m2 : Method := { name := "<init>", desc := "(Ljava/lang/StringBuilder;)V", sig := { parameters := [(.object "java/lang/StringBuilder")], returnType := none }, accessFlags := 1, code := some k7c2 }
def k7c3 : Code := { maxStack := 2, maxLocals := 1, code := jdk_42_method_54_code, exceptionTable := #[], attributes := #[] }
def k7m3 : Method := { name := "length", desc := "()I", sig := { parameters := [], returnType := some .int }, accessFlags := 1, code := some k7c3 }
def k7c4 : Code := { maxStack := 2, maxLocals := 2, code := jdk_42_method_56_code, exceptionTable := #[], attributes := #[] }
def k7m4 : Method := { name := "charAt", desc := "(I)C", sig := { parameters := [.int], returnType := some .char }, accessFlags := 1, code := some k7c4 }
def k7c5 : Code := { maxStack := 2, maxLocals := 3, code := jdk_42_method_66_code, exceptionTable := #[], attributes := #[] }
def k7m5 : Method := { name := "equals", desc := "(Ljava/lang/Object;)Z", sig := { parameters := [(.object "java/lang/Object")], returnType := some .boolean }, accessFlags := 1, code := some k7c5 }
def k7c6 : Code := { maxStack := 5, maxLocals := 4, code := jdk_42_method_147_code, exceptionTable := #[], attributes := #[] }
def k7m6 : Method := { name := "getBytes", desc := "([BIB)V", sig := { parameters := [(.array .byte), .int, .byte], returnType := none }, accessFlags := 0, code := some k7c6 }
def k7c7 : Code := { maxStack := 4, maxLocals := 6, code := jdk_42_method_149_code, exceptionTable := #[], attributes := #[] }
def k7m7 : Method := { name := "<init>", desc := "([CIILjava/lang/Void;)V", sig := { parameters := [(.array .char), .int, .int, (.object "java/lang/Void")], returnType := none }, accessFlags := 2, code := some k7c7 }
def k7c8 : Code := { maxStack := 5, maxLocals := 5, code := jdk_42_method_150_code, exceptionTable := #[], attributes := #[] }
def k7m8 : Method := { name := "<init>", desc := "(Ljava/lang/AbstractStringBuilder;Ljava/lang/Void;)V", sig := { parameters := [(.object "java/lang/AbstractStringBuilder"), (.object "java/lang/Void")], returnType := none }, accessFlags := 0, code := some k7c8 }
def k7c9 : Code := { maxStack := 1, maxLocals := 1, code := jdk_42_method_152_code, exceptionTable := #[], attributes := #[] }
def k7m9 : Method := { name := "coder", desc := "()B", sig := { parameters := [], returnType := some .byte }, accessFlags := 0, code := some k7c9 }
def k7c10 : Code := { maxStack := 1, maxLocals := 1, code := jdk_42_method_154_code, exceptionTable := #[], attributes := #[] }
def k7m10 : Method := { name := "isLatin1", desc := "()Z", sig := { parameters := [], returnType := some .boolean }, accessFlags := 0, code := some k7c10 }
def k7c11 : Code := { maxStack := 3, maxLocals := 2, code := jdk_42_method_155_code, exceptionTable := #[], attributes := #[] }
def k7m11 : Method := { name := "checkIndex", desc := "(II)V", sig := { parameters := [.int, .int], returnType := none }, accessFlags := 8, code := some k7c11 }
/-- java/lang/String -/
def k7 : Class := { plain "java/lang/String" (some 0) with
  accessFlags := 49
  interfaces := #[2, 3, 4, 5, 6]
  cf := some (fileOf pool7 10 #[.nestMembers #[1103]] #[{ accessFlags := 1, nameIndex := 5, descriptorIndex := 6, attributes := #[] }, { accessFlags := 1, nameIndex := 5, descriptorIndex := 1010, attributes := #[] }, { accessFlags := 1, nameIndex := 5, descriptorIndex := 1233, attributes := #[] }, { accessFlags := 1, nameIndex := 507, descriptorIndex := 334, attributes := #[] }, { accessFlags := 1, nameIndex := 497, descriptorIndex := 427, attributes := #[] }, { accessFlags := 1, nameIndex := 543, descriptorIndex := 573, attributes := #[] }, { accessFlags := 0, nameIndex := 532, descriptorIndex := 821, attributes := #[] }, { accessFlags := 2, nameIndex := 5, descriptorIndex := 29, attributes := #[] }, { accessFlags := 0, nameIndex := 5, descriptorIndex := 491, attributes := #[] }, { accessFlags := 0, nameIndex := 17, descriptorIndex := 337, attributes := #[] }, { accessFlags := 0, nameIndex := 494, descriptorIndex := 142, attributes := #[] }, { accessFlags := 8, nameIndex := 501, descriptorIndex := 391, attributes := #[] }] 49 2 #[1106, 1108, 575, 1110, 1112] #[{ accessFlags := 18, nameIndex := 13, descriptorIndex := 14, attributes := #[] }, { accessFlags := 18, nameIndex := 17, descriptorIndex := 18, attributes := #[] }, { accessFlags := 2, nameIndex := 21, descriptorIndex := 22, attributes := #[] }, { accessFlags := 2, nameIndex := 25, descriptorIndex := 26, attributes := #[] }, { accessFlags := 26, nameIndex := 1116, descriptorIndex := 1117, attributes := #[] }, { accessFlags := 24, nameIndex := 40, descriptorIndex := 26, attributes := #[] }, { accessFlags := 26, nameIndex := 1101, descriptorIndex := 1102, attributes := #[] }, { accessFlags := 26, nameIndex := 1121, descriptorIndex := 1122, attributes := #[] }, { accessFlags := 25, nameIndex := 599, descriptorIndex := 600, attributes := #[] }, { accessFlags := 24, nameIndex := 1125, descriptorIndex := 18, attributes := #[] }, { accessFlags := 24, nameIndex := 1127, descriptorIndex := 18, attributes := #[] }])
  fields := #[{ name := "value", type := (.array .byte), accessFlags := 18, slot := 0, constantValue := 0 }, { name := "coder", type := .byte, accessFlags := 18, slot := 1, constantValue := 0 }, { name := "hash", type := .int, accessFlags := 2, slot := 2, constantValue := 0 }, { name := "hashIsZero", type := .boolean, accessFlags := 2, slot := 3, constantValue := 0 }, { name := "serialVersionUID", type := .long, accessFlags := 26, slot := 0, constantValue := 0 }, { name := "COMPACT_STRINGS", type := .boolean, accessFlags := 24, slot := 1, constantValue := 0 }, { name := "serialPersistentFields", type := (.array (.object "java/io/ObjectStreamField")), accessFlags := 26, slot := 2, constantValue := 0 }, { name := "REPL", type := .char, accessFlags := 26, slot := 3, constantValue := 0 }, { name := "CASE_INSENSITIVE_ORDER", type := (.object "java/util/Comparator"), accessFlags := 25, slot := 4, constantValue := 0 }, { name := "LATIN1", type := .byte, accessFlags := 24, slot := 5, constantValue := 0 }, { name := "UTF16", type := .byte, accessFlags := 24, slot := 6, constantValue := 0 }]
  methods := #[k7m0, k7m1, k7m2, k7m3, k7m4, k7m5, k7m6, k7m7, k7m8, k7m9, k7m10, k7m11]
  instanceTypes := #[(.array .byte), .byte, .int, .boolean]
  staticTypes := #[.long, .boolean, (.array (.object "java/io/ObjectStreamField")), .char, (.object "java/util/Comparator"), .byte, .byte]
  resolved := Array.replicate 1451 none
  statics := some 0 }

def pool8 : Array CpInfo := pool [(1, .methodref 2 3), (0, .class_ 4), (0, .nameAndType 5 6), (0, u "java/lang/Object"), (0, u "<init>"), (0, u "()V"), (0, .class_ 8), (0, u "java/lang/Record")] 13

def k8c0 : Code := { maxStack := 1, maxLocals := 1, code := jdk_30_method_1_code, exceptionTable := #[], attributes := #[] }
def k8m0 : Method := { name := "<init>", desc := "()V", sig := { parameters := [], returnType := none }, accessFlags := 4, code := some k8c0 }
/-- java/lang/Record -/
def k8 : Class := { plain "java/lang/Record" (some 0) with
  accessFlags := 1057
  interfaces := #[]
  cf := some (fileOf pool8 7 #[] #[{ accessFlags := 4, nameIndex := 5, descriptorIndex := 6, attributes := #[] }] 1057 2 #[] #[])
  fields := #[]
  methods := #[k8m0]
  instanceTypes := #[]
  staticTypes := #[]
  resolved := Array.replicate 22 none
  statics := none }

def pool9 : Array CpInfo := pool [(1, .methodref 2 3), (0, .class_ 4), (0, .nameAndType 5 6), (0, u "java/lang/Record"), (0, u "<init>"), (0, u "()V"), (0, .fieldref 8 9), (0, .class_ 10), (0, .nameAndType 11 12), (0, u "com/example/kindling/kindling/Environment$Value"), (0, u "key"), (0, u "Ljava/lang/String;"), (0, .fieldref 8 14), (0, .nameAndType 15 12), (0, u "text"), (0, .fieldref 8 17), (0, .nameAndType 18 12), (0, u "origin"), (0, .class_ 20), (0, u "java/lang/StringBuilder"), (0, .methodref 19 3), (0, .methodref 19 23), (0, .nameAndType 24 25), (0, u "append"), (0, u "(Ljava/lang/String;)Ljava/lang/StringBuilder;"), (0, .string 27), (0, u " is \""), (0, .string 29), (0, u "\" (from "), (0, .string 31), (0, u ")"), (0, .methodref 19 33), (0, .nameAndType 34 35), (0, u "toString"), (0, u "()Ljava/lang/String;"), (11, u "(Ljava/lang/String;Ljava/lang/String;Ljava/lang/String;)V"), (3, u "described"), (5, .class_ 58), (0, u "com/example/kindling/kindling/Environment")] 21

def k9c0 : Code := { maxStack := 2, maxLocals := 4, code := prog_9_method_1_code, exceptionTable := #[], attributes := #[] }
def k9m0 : Method := { name := "<init>", desc := "(Ljava/lang/String;Ljava/lang/String;Ljava/lang/String;)V", sig := { parameters := [(.object "java/lang/String"), (.object "java/lang/String"), (.object "java/lang/String")], returnType := none }, accessFlags := 0, code := some k9c0 }
def k9c1 : Code := { maxStack := 2, maxLocals := 1, code := prog_9_method_2_code, exceptionTable := #[], attributes := #[] }
def k9m1 : Method := { name := "described", desc := "()Ljava/lang/String;", sig := { parameters := [], returnType := some (.object "java/lang/String") }, accessFlags := 0, code := some k9c1 }
/-- com/example/kindling/kindling/Environment$Value -/
def k9 : Class := { plain "com/example/kindling/kindling/Environment$Value" (some 8) with
  accessFlags := 48
  interfaces := #[]
  cf := some (fileOf pool9 8 #[.nestHost 57] #[{ accessFlags := 0, nameIndex := 5, descriptorIndex := 47, attributes := #[] }, { accessFlags := 0, nameIndex := 51, descriptorIndex := 35, attributes := #[] }] 48 2 #[] #[{ accessFlags := 18, nameIndex := 11, descriptorIndex := 12, attributes := #[] }, { accessFlags := 18, nameIndex := 15, descriptorIndex := 12, attributes := #[] }, { accessFlags := 18, nameIndex := 18, descriptorIndex := 12, attributes := #[] }])
  fields := #[{ name := "key", type := (.object "java/lang/String"), accessFlags := 18, slot := 0, constantValue := 0 }, { name := "text", type := (.object "java/lang/String"), accessFlags := 18, slot := 1, constantValue := 0 }, { name := "origin", type := (.object "java/lang/String"), accessFlags := 18, slot := 2, constantValue := 0 }]
  methods := #[k9m0, k9m1]
  instanceTypes := #[(.object "java/lang/String"), (.object "java/lang/String"), (.object "java/lang/String")]
  staticTypes := #[]
  resolved := Array.replicate 80 none
  statics := none }

def pool10 : Array CpInfo := pool [(1, .class_ 2), (0, u "java/lang/Appendable"), (0, .class_ 4), (0, u "java/lang/Object")] 9

/-- java/lang/Appendable -/
def k10 : Class := { plain "java/lang/Appendable" (some 0) with
  accessFlags := 1537
  interfaces := #[]
  cf := some (fileOf pool10 1 #[] #[] 1537 3 #[] #[])
  fields := #[]
  methods := #[]
  instanceTypes := #[]
  staticTypes := #[]
  resolved := Array.replicate 14 none
  statics := none }

def pool11 : Array CpInfo := pool [(1, .class_ 2), (0, u "java/lang/String"), (0, .methodref 4 5), (0, .class_ 6), (0, .nameAndType 7 8), (0, u "java/lang/Object"), (0, u "<init>"), (0, u "()V"), (1, .class_ 12), (1, u "java/lang/AbstractStringBuilder"), (0, u "EMPTYVALUE"), (0, u "[B"), (0, .fieldref 10 16), (0, .nameAndType 17 14), (0, u "value"), (0, .fieldref 1 19), (0, .nameAndType 20 21), (0, u "COMPACT_STRINGS"), (0, u "Z"), (0, .fieldref 10 23), (0, .nameAndType 24 25), (0, u "coder"), (0, u "B"), (6, .methodref 1 33), (0, .nameAndType 34 35), (0, u "length"), (0, u "()I"), (3, .integer 2147483647), (0, .methodref 1 41), (0, .nameAndType 24 42), (0, u "()B"), (2, u "append"), (0, u "(Ljava/lang/String;)Ljava/lang/AbstractStringBuilder;"), (1, .class_ 49), (0, u "java/lang/CharSequence"), (19, u "(Ljava/lang/String;)V"), (5, u "maybeLatin1"), (3, .fieldref 10 80), (0, .nameAndType 81 82), (0, u "count"), (0, u "I"), (2, u "isLatin1"), (0, u "()Z"), (13, .methodref 10 101), (0, .nameAndType 102 103), (0, u "ensureCapacityInternal"), (0, u "(I)V"), (0, .methodref 10 105), (0, .nameAndType 106 107), (0, u "newCapacity"), (0, u "(I)I"), (0, .methodref 109 110), (0, .class_ 111), (0, .nameAndType 112 113), (0, u "java/util/Arrays"), (0, u "copyOf"), (0, u "([BI)[B"), (0, .methodref 115 116), (0, .class_ 117), (0, .nameAndType 118 119), (0, u "jdk/internal/util/ArraysSupport"), (0, u "newLength"), (0, u "(III)I"), (88, .methodref 10 209), (0, .nameAndType 210 211), (0, u "putStringAt"), (0, u "(ILjava/lang/String;)V"), (5, u "inflateIfNeededFor"), (2, .nameAndType 221 222), (0, u "getBytes"), (0, u "([BIB)V"), (174, .methodref 10 398), (0, .nameAndType 217 69), (0, .methodref 1 220), (3, u "()[B"), (40, .class_ 445), (0, u "java/lang/Appendable"), (106, u "getValue")] 56

def k11m0 : Method := { name := "<init>", desc := "()V", sig := { parameters := [], returnType := none }, accessFlags := 0, code := none }
def k11c1 : Code := { maxStack := 2, maxLocals := 2, code := jdk_68_method_2_code, exceptionTable := #[], attributes := #[] }
def k11m1 : Method := { name := "<init>", desc := "(I)V", sig := { parameters := [.int], returnType := none }, accessFlags := 0, code := some k11c1 }
def k11c2 : Code := { maxStack := 1, maxLocals := 1, code := jdk_68_method_6_code, exceptionTable := #[], attributes := #[] }
def k11m2 : Method := { name := "length", desc := "()I", sig := { parameters := [], returnType := some .int }, accessFlags := 1, code := some k11c2 }
def k11c3 : Code := { maxStack := 4, maxLocals := 3, code := jdk_68_method_9_code, exceptionTable := #[], attributes := #[] }
def k11m3 : Method := { name := "ensureCapacityInternal", desc := "(I)V", sig := { parameters := [.int], returnType := none }, accessFlags := 2, code := some k11c3 }
def k11c4 : Code := { maxStack := 5, maxLocals := 6, code := jdk_68_method_10_code, exceptionTable := #[], attributes := #[] }
def k11m4 : Method := { name := "newCapacity", desc := "(I)I", sig := { parameters := [.int], returnType := some .int }, accessFlags := 2, code := some k11c4 }
def k11c5 : Code := { maxStack := 3, maxLocals := 3, code := jdk_68_method_22_code, exceptionTable := #[], attributes := #[] }
def k11m5 : Method := { name := "append", desc := "(Ljava/lang/String;)Ljava/lang/AbstractStringBuilder;", sig := { parameters := [(.object "java/lang/String")], returnType := some (.object "java/lang/AbstractStringBuilder") }, accessFlags := 1, code := some k11c5 }
def k11c6 : Code := { maxStack := 1, maxLocals := 1, code := jdk_68_method_64_code, exceptionTable := #[], attributes := #[] }
def k11m6 : Method := { name := "getValue", desc := "()[B", sig := { parameters := [], returnType := some (.array .byte) }, accessFlags := 16, code := some k11c6 }
def k11c7 : Code := { maxStack := 1, maxLocals := 1, code := jdk_68_method_68_code, exceptionTable := #[], attributes := #[] }
def k11m7 : Method := { name := "isLatin1", desc := "()Z", sig := { parameters := [], returnType := some .boolean }, accessFlags := 16, code := some k11c7 }
def k11c8 : Code := { maxStack := 2, maxLocals := 2, code := jdk_68_method_71_code, exceptionTable := #[], attributes := #[] }
def k11m8 : Method := { name := "inflateIfNeededFor", desc := "(Ljava/lang/String;)V", sig := { parameters := [(.object "java/lang/String")], returnType := none }, accessFlags := 2, code := some k11c8 }
def k11c9 : Code := { maxStack := 4, maxLocals := 3, code := jdk_68_method_73_code, exceptionTable := #[], attributes := #[] }
def k11m9 : Method := { name := "putStringAt", desc := "(ILjava/lang/String;)V", sig := { parameters := [.int, (.object "java/lang/String")], returnType := none }, accessFlags := 2, code := some k11c9 }
/-- java/lang/AbstractStringBuilder -/
def k11 : Class := { plain "java/lang/AbstractStringBuilder" (some 0) with
  accessFlags := 1056
  interfaces := #[10, 4]
  cf := some (fileOf pool11 10 #[] #[{ accessFlags := 0, nameIndex := 7, descriptorIndex := 8, attributes := #[] }, { accessFlags := 0, nameIndex := 7, descriptorIndex := 103, attributes := #[] }, { accessFlags := 1, nameIndex := 34, descriptorIndex := 35, attributes := #[] }, { accessFlags := 2, nameIndex := 102, descriptorIndex := 103, attributes := #[] }, { accessFlags := 2, nameIndex := 106, descriptorIndex := 107, attributes := #[] }, { accessFlags := 1, nameIndex := 45, descriptorIndex := 46, attributes := #[] }, { accessFlags := 16, nameIndex := 552, descriptorIndex := 403, attributes := #[] }, { accessFlags := 16, nameIndex := 85, descriptorIndex := 86, attributes := #[] }, { accessFlags := 2, nameIndex := 217, descriptorIndex := 69, attributes := #[] }, { accessFlags := 2, nameIndex := 210, descriptorIndex := 211, attributes := #[] }] 1056 4 #[444, 48] #[{ accessFlags := 0, nameIndex := 17, descriptorIndex := 14, attributes := #[] }, { accessFlags := 0, nameIndex := 24, descriptorIndex := 25, attributes := #[] }, { accessFlags := 0, nameIndex := 75, descriptorIndex := 21, attributes := #[] }, { accessFlags := 0, nameIndex := 81, descriptorIndex := 82, attributes := #[] }, { accessFlags := 26, nameIndex := 13, descriptorIndex := 14, attributes := #[] }])
  fields := #[{ name := "value", type := (.array .byte), accessFlags := 0, slot := 0, constantValue := 0 }, { name := "coder", type := .byte, accessFlags := 0, slot := 1, constantValue := 0 }, { name := "maybeLatin1", type := .boolean, accessFlags := 0, slot := 2, constantValue := 0 }, { name := "count", type := .int, accessFlags := 0, slot := 3, constantValue := 0 }, { name := "EMPTYVALUE", type := (.array .byte), accessFlags := 26, slot := 0, constantValue := 0 }]
  methods := #[k11m0, k11m1, k11m2, k11m3, k11m4, k11m5, k11m6, k11m7, k11m8, k11m9]
  instanceTypes := #[(.array .byte), .byte, .boolean, .int]
  staticTypes := #[(.array .byte)]
  resolved := Array.replicate 609 none
  statics := none }

def pool12 : Array CpInfo := pool [(1, .methodref 2 3), (0, .class_ 4), (0, .nameAndType 5 6), (0, u "java/lang/AbstractStringBuilder"), (0, u "<init>"), (0, u "(I)V"), (11, .class_ 20), (1, u "java/lang/String"), (3, .class_ 26), (1, u "java/lang/StringBuilder"), (0, u "append"), (0, u "(Ljava/lang/String;)Ljava/lang/StringBuilder;"), (0, .methodref 2 30), (0, .nameAndType 27 31), (0, u "(Ljava/lang/String;)Ljava/lang/AbstractStringBuilder;"), (105, .methodref 18 138), (0, .nameAndType 5 139), (0, u "(Ljava/lang/StringBuilder;)V"), (5, u "()V"), (10, u "()I"), (186, .methodref 2 344), (0, .nameAndType 345 156), (0, u "length"), (3, .class_ 350), (0, u "java/lang/Appendable"), (0, .class_ 352), (0, u "java/io/Serializable"), (0, .class_ 354), (0, u "java/lang/Comparable"), (0, .class_ 356), (0, u "java/lang/CharSequence"), (0, u "serialVersionUID"), (0, u "J"), (40, u "toString"), (0, u "()Ljava/lang/String;")] 21

def k12c0 : Code := { maxStack := 2, maxLocals := 1, code := jdk_67_method_1_code, exceptionTable := #[], attributes := #[] }
def k12m0 : Method := { name := "<init>", desc := "()V", sig := { parameters := [], returnType := none }, accessFlags := 1, code := some k12c0 }
def k12c1 : Code := { maxStack := 2, maxLocals := 2, code := jdk_67_method_7_code, exceptionTable := #[], attributes := #[] }
def k12m1 : Method := { name := "append", desc := "(Ljava/lang/String;)Ljava/lang/StringBuilder;", sig := { parameters := [(.object "java/lang/String")], returnType := some (.object "java/lang/StringBuilder") }, accessFlags := 1, code := some k12c1 }
def k12c2 : Code := { maxStack := 3, maxLocals := 1, code := jdk_67_method_42_code, exceptionTable := #[], attributes := #[] }
def k12m2 : Method := { name := "toString", desc := "()Ljava/lang/String;", sig := { parameters := [], returnType := some (.object "java/lang/String") }, accessFlags := 1, code := some k12c2 }
def k12c3 : Code := { maxStack := 1, maxLocals := 1, code := jdk_67_method_93_code, exceptionTable := #[], attributes := #[] }
def k12m3 : Method := { name := "length", desc := "()I", sig := { parameters := [], returnType := some .int }, accessFlags := 4161, code := some k12c3 }
/-- java/lang/StringBuilder -/
def k12 : Class := { plain "java/lang/StringBuilder" (some 11) with
  accessFlags := 49
  interfaces := #[10, 2, 3, 4]
  cf := some (fileOf pool12 24 #[] #[{ accessFlags := 1, nameIndex := 5, descriptorIndex := 145, attributes := #[] }, { accessFlags := 1, nameIndex := 27, descriptorIndex := 28, attributes := #[] }, { accessFlags := 1, nameIndex := 399, descriptorIndex := 400, attributes := #[] }, { accessFlags := 4161, nameIndex := 345, descriptorIndex := 156, attributes := #[] }] 49 2 #[349, 351, 353, 355] #[{ accessFlags := 24, nameIndex := 357, descriptorIndex := 358, attributes := #[] }])
  fields := #[{ name := "serialVersionUID", type := .long, accessFlags := 24, slot := 0, constantValue := 0 }]
  methods := #[k12m0, k12m1, k12m2, k12m3]
  instanceTypes := #[(.array .byte), .byte, .boolean, .int]
  staticTypes := #[.long]
  resolved := Array.replicate 422 none
  statics := none }

def pool13 : Array CpInfo := pool [(2, .class_ 4), (1, u "java/lang/Object"), (0, u "<init>"), (0, u "()V"), (1, .class_ 10), (1, u "java/lang/System"), (0, u "allowSecurityManager"), (0, u "I"), (16, u "cons"), (0, u "Ljava/io/Console;"), (77, .class_ 110), (1, u "java/lang/System$CallersHolder"), (43, u "initialErrStream"), (0, u "Ljava/io/PrintStream;"), (19, u "security"), (0, u "Ljava/lang/SecurityManager;"), (31, .class_ 209), (0, u "java/lang/System$1"), (7, u "props"), (0, u "Ljava/util/Properties;"), (2, u "lineSeparator"), (0, u "Ljava/lang/String;"), (96, .class_ 321), (1, u "java/lang/System$LoggerFinder"), (5, .class_ 328), (0, u "java/lang/System$Logger"), (67, u "err"), (2, u "out"), (91, u "notSupportedJnuEncoding"), (15, u "in"), (17, u "initialIn"), (0, u "Ljava/io/InputStream;"), (35, u "bootLayer"), (0, u "Ljava/lang/ModuleLayer;"), (99, .class_ 664), (0, u "java/lang/System$2"), (9, u "NEVER"), (2, u "MAYBE"), (49, u "arraycopy"), (0, u "(Ljava/lang/Object;ILjava/lang/Object;II)V"), (72, .class_ 802), (0, u "java/lang/System$Logger$Level")] 31

def k13m0 : Method := { name := "<init>", desc := "()V", sig := { parameters := [], returnType := none }, accessFlags := 2, code := none }
def k13m1 : Method := { name := "arraycopy", desc := "(Ljava/lang/Object;ILjava/lang/Object;II)V", sig := { parameters := [(.object "java/lang/Object"), .int, (.object "java/lang/Object"), .int, .int], returnType := none }, accessFlags := 265, code := none }
/-- java/lang/System -/
def k13 : Class := { plain "java/lang/System" (some 0) with
  accessFlags := 49
  interfaces := #[]
  cf := some (fileOf pool13 8 #[.nestMembers #[319, 327, 801, 108, 663, 208]] #[{ accessFlags := 2, nameIndex := 5, descriptorIndex := 6, attributes := #[] }, { accessFlags := 265, nameIndex := 727, descriptorIndex := 728, attributes := #[] }] 49 2 #[] #[{ accessFlags := 25, nameIndex := 507, descriptorIndex := 526, attributes := #[] }, { accessFlags := 25, nameIndex := 399, descriptorIndex := 155, attributes := #[] }, { accessFlags := 25, nameIndex := 396, descriptorIndex := 155, attributes := #[] }, { accessFlags := 10, nameIndex := 525, descriptorIndex := 526, attributes := #[] }, { accessFlags := 26, nameIndex := 674, descriptorIndex := 12, attributes := #[] }, { accessFlags := 26, nameIndex := 677, descriptorIndex := 12, attributes := #[] }, { accessFlags := 10, nameIndex := 11, descriptorIndex := 12, attributes := #[] }, { accessFlags := 74, nameIndex := 175, descriptorIndex := 176, attributes := #[] }, { accessFlags := 10, nameIndex := 491, descriptorIndex := 222, attributes := #[] }, { accessFlags := 74, nameIndex := 29, descriptorIndex := 30, attributes := #[] }, { accessFlags := 74, nameIndex := 154, descriptorIndex := 155, attributes := #[] }, { accessFlags := 10, nameIndex := 217, descriptorIndex := 218, attributes := #[] }, { accessFlags := 10, nameIndex := 221, descriptorIndex := 222, attributes := #[] }, { accessFlags := 8, nameIndex := 562, descriptorIndex := 563, attributes := #[] }])
  fields := #[{ name := "in", type := (.object "java/io/InputStream"), accessFlags := 25, slot := 0, constantValue := 0 }, { name := "out", type := (.object "java/io/PrintStream"), accessFlags := 25, slot := 1, constantValue := 0 }, { name := "err", type := (.object "java/io/PrintStream"), accessFlags := 25, slot := 2, constantValue := 0 }, { name := "initialIn", type := (.object "java/io/InputStream"), accessFlags := 10, slot := 3, constantValue := 0 }, { name := "NEVER", type := .int, accessFlags := 26, slot := 4, constantValue := 0 }, { name := "MAYBE", type := .int, accessFlags := 26, slot := 5, constantValue := 0 }, { name := "allowSecurityManager", type := .int, accessFlags := 10, slot := 6, constantValue := 0 }, { name := "security", type := (.object "java/lang/SecurityManager"), accessFlags := 74, slot := 7, constantValue := 0 }, { name := "notSupportedJnuEncoding", type := (.object "java/lang/String"), accessFlags := 10, slot := 8, constantValue := 0 }, { name := "cons", type := (.object "java/io/Console"), accessFlags := 74, slot := 9, constantValue := 0 }, { name := "initialErrStream", type := (.object "java/io/PrintStream"), accessFlags := 74, slot := 10, constantValue := 0 }, { name := "props", type := (.object "java/util/Properties"), accessFlags := 10, slot := 11, constantValue := 0 }, { name := "lineSeparator", type := (.object "java/lang/String"), accessFlags := 10, slot := 12, constantValue := 0 }, { name := "bootLayer", type := (.object "java/lang/ModuleLayer"), accessFlags := 8, slot := 13, constantValue := 0 }]
  methods := #[k13m0, k13m1]
  instanceTypes := #[]
  staticTypes := #[(.object "java/io/InputStream"), (.object "java/io/PrintStream"), (.object "java/io/PrintStream"), (.object "java/io/InputStream"), .int, .int, .int, (.object "java/lang/SecurityManager"), (.object "java/lang/String"), (.object "java/io/Console"), (.object "java/io/PrintStream"), (.object "java/util/Properties"), (.object "java/lang/String"), (.object "java/lang/ModuleLayer")]
  resolved := Array.replicate 834 none
  statics := none }

def pool14 : Array CpInfo := pool [(2, .class_ 4), (1, u "java/lang/Object"), (0, u "<init>"), (0, u "()V"), (7, .class_ 16), (1, u "java/util/Arrays"), (57, .class_ 76), (1, u "java/util/Arrays$NaturalOrder"), (32, u "()Ljava/lang/Object;"), (3, .class_ 115), (1, u "java/util/Arrays$LegacyMergeSort"), (1, u "Z"), (10, .nameAndType 129 109), (0, u "clone"), (9, u "copyOfRange"), (10, .methodref 151 152), (0, .class_ 153), (0, .nameAndType 154 155), (0, u "java/lang/System"), (0, u "arraycopy"), (0, u "(Ljava/lang/Object;ILjava/lang/Object;II)V"), (146, u "copyOf"), (1, .methodref 305 306), (0, .class_ 307), (0, .nameAndType 308 309), (0, u "java/lang/Math"), (0, u "min"), (0, u "(II)I"), (0, .methodref 311 128), (0, .class_ 312), (0, u "[B"), (26, .methodref 14 340), (0, .nameAndType 341 342), (0, u "copyOfRangeByte"), (0, u "([BII)[B"), (0, .methodref 14 344), (0, .nameAndType 345 346), (0, u "checkLength"), (0, u "(II)V"), (28, .class_ 376), (0, u "java/util/Arrays$ArrayList"), (68, u "$assertionsDisabled"), (269, u "MIN_ARRAY_SORT_GRAN"), (0, u "I"), (2, u "INSERTIONSORT_THRESHOLD"), (149, u "([BI)[B"), (105, .class_ 976), (0, u "java/util/Arrays$ArrayItr")] 52

def k14m0 : Method := { name := "<init>", desc := "()V", sig := { parameters := [], returnType := none }, accessFlags := 2, code := none }
def k14c1 : Code := { maxStack := 6, maxLocals := 3, code := jdk_65_method_121_code, exceptionTable := #[], attributes := #[] }
def k14m1 : Method := { name := "copyOf", desc := "([BI)[B", sig := { parameters := [(.array .byte), .int], returnType := some (.array .byte) }, accessFlags := 9, code := some k14c1 }
def k14c2 : Code := { maxStack := 4, maxLocals := 2, code := jdk_65_method_131_code, exceptionTable := #[], attributes := #[] }
def k14m2 : Method := { name := "checkLength", desc := "(II)V", sig := { parameters := [.int, .int], returnType := none }, accessFlags := 10, code := some k14c2 }
def k14c3 : Code := { maxStack := 3, maxLocals := 3, code := jdk_65_method_132_code, exceptionTable := #[], attributes := #[] }
def k14m3 : Method := { name := "copyOfRange", desc := "([BII)[B", sig := { parameters := [(.array .byte), .int, .int], returnType := some (.array .byte) }, accessFlags := 9, code := some k14c3 }
def k14c4 : Code := { maxStack := 6, maxLocals := 5, code := jdk_65_method_133_code, exceptionTable := #[], attributes := #[] }
def k14m4 : Method := { name := "copyOfRangeByte", desc := "([BII)[B", sig := { parameters := [(.array .byte), .int, .int], returnType := some (.array .byte) }, accessFlags := 10, code := some k14c4 }
/-- java/util/Arrays -/
def k14 : Class := { plain "java/util/Arrays" (some 0) with
  accessFlags := 49
  interfaces := #[]
  cf := some (fileOf pool14 14 #[.nestMembers #[975, 375, 113, 74]] #[{ accessFlags := 2, nameIndex := 5, descriptorIndex := 6, attributes := #[] }, { accessFlags := 9, nameIndex := 302, descriptorIndex := 869, attributes := #[] }, { accessFlags := 10, nameIndex := 345, descriptorIndex := 346, attributes := #[] }, { accessFlags := 9, nameIndex := 139, descriptorIndex := 342, attributes := #[] }, { accessFlags := 10, nameIndex := 341, descriptorIndex := 342, attributes := #[] }] 49 2 #[] #[{ accessFlags := 26, nameIndex := 715, descriptorIndex := 716, attributes := #[] }, { accessFlags := 26, nameIndex := 719, descriptorIndex := 716, attributes := #[] }, { accessFlags := 4120, nameIndex := 445, descriptorIndex := 117, attributes := #[] }])
  fields := #[{ name := "MIN_ARRAY_SORT_GRAN", type := .int, accessFlags := 26, slot := 0, constantValue := 0 }, { name := "INSERTIONSORT_THRESHOLD", type := .int, accessFlags := 26, slot := 1, constantValue := 0 }, { name := "$assertionsDisabled", type := .boolean, accessFlags := 4120, slot := 2, constantValue := 0 }]
  methods := #[k14m0, k14m1, k14m2, k14m3, k14m4]
  instanceTypes := #[]
  staticTypes := #[.int, .int, .boolean]
  resolved := Array.replicate 1029 none
  statics := none }

def pool15 : Array CpInfo := pool [(1, .class_ 2), (0, u "java/lang/Math"), (1, .class_ 6), (1, u "java/lang/Object"), (0, u "<init>"), (0, u "()V"), (89, .class_ 100), (1, u "java/lang/Math$RandomNumberGeneratorHolder"), (71, u "negativeZeroFloatBits"), (0, u "J"), (2, u "negativeZeroDoubleBits"), (21, u "max"), (2, u "min"), (43, u "$assertionsDisabled"), (0, u "Z"), (88, u "(II)I"), (2, u "twoToTheDoubleScaleDown"), (0, u "D"), (4, u "twoToTheDoubleScaleUp"), (9, u "E"), (3, u "PI"), (2, u "TAU"), (2, u "DEGREES_TO_RADIANS"), (0, u "RADIANS_TO_DEGREES")] 94

def k15m0 : Method := { name := "<init>", desc := "()V", sig := { parameters := [], returnType := none }, accessFlags := 2, code := none }
def k15c1 : Code := { maxStack := 2, maxLocals := 2, code := jdk_29_method_65_code, exceptionTable := #[], attributes := #[] }
def k15m1 : Method := { name := "max", desc := "(II)I", sig := { parameters := [.int, .int], returnType := some .int }, accessFlags := 9, code := some k15c1 }
def k15c2 : Code := { maxStack := 2, maxLocals := 2, code := jdk_29_method_69_code, exceptionTable := #[], attributes := #[] }
def k15m2 : Method := { name := "min", desc := "(II)I", sig := { parameters := [.int, .int], returnType := some .int }, accessFlags := 9, code := some k15c2 }
/-- java/lang/Math -/
def k15 : Class := { plain "java/lang/Math" (some 0) with
  accessFlags := 49
  interfaces := #[]
  cf := some (fileOf pool15 1 #[.nestMembers #[98]] #[{ accessFlags := 2, nameIndex := 7, descriptorIndex := 8, attributes := #[] }, { accessFlags := 9, nameIndex := 198, descriptorIndex := 335, attributes := #[] }, { accessFlags := 9, nameIndex := 201, descriptorIndex := 335, attributes := #[] }] 49 4 #[] #[{ accessFlags := 25, nameIndex := 354, descriptorIndex := 339, attributes := #[] }, { accessFlags := 25, nameIndex := 358, descriptorIndex := 339, attributes := #[] }, { accessFlags := 25, nameIndex := 361, descriptorIndex := 339, attributes := #[] }, { accessFlags := 26, nameIndex := 364, descriptorIndex := 339, attributes := #[] }, { accessFlags := 26, nameIndex := 365, descriptorIndex := 339, attributes := #[] }, { accessFlags := 26, nameIndex := 172, descriptorIndex := 173, attributes := #[] }, { accessFlags := 26, nameIndex := 176, descriptorIndex := 173, attributes := #[] }, { accessFlags := 8, nameIndex := 344, descriptorIndex := 339, attributes := #[] }, { accessFlags := 8, nameIndex := 338, descriptorIndex := 339, attributes := #[] }, { accessFlags := 4120, nameIndex := 245, descriptorIndex := 246, attributes := #[] }])
  fields := #[{ name := "E", type := .double, accessFlags := 25, slot := 0, constantValue := 0 }, { name := "PI", type := .double, accessFlags := 25, slot := 1, constantValue := 0 }, { name := "TAU", type := .double, accessFlags := 25, slot := 2, constantValue := 0 }, { name := "DEGREES_TO_RADIANS", type := .double, accessFlags := 26, slot := 3, constantValue := 0 }, { name := "RADIANS_TO_DEGREES", type := .double, accessFlags := 26, slot := 4, constantValue := 0 }, { name := "negativeZeroFloatBits", type := .long, accessFlags := 26, slot := 5, constantValue := 0 }, { name := "negativeZeroDoubleBits", type := .long, accessFlags := 26, slot := 6, constantValue := 0 }, { name := "twoToTheDoubleScaleUp", type := .double, accessFlags := 8, slot := 7, constantValue := 0 }, { name := "twoToTheDoubleScaleDown", type := .double, accessFlags := 8, slot := 8, constantValue := 0 }, { name := "$assertionsDisabled", type := .boolean, accessFlags := 4120, slot := 9, constantValue := 0 }]
  methods := #[k15m0, k15m1, k15m2]
  instanceTypes := #[]
  staticTypes := #[.double, .double, .double, .double, .double, .long, .long, .double, .double, .boolean]
  resolved := Array.replicate 460 none
  statics := none }

def pool16 : Array CpInfo := pool [(6, .class_ 8), (1, u "java/lang/Object"), (0, u "<init>"), (0, u "()V"), (1, .class_ 14), (1, u "java/lang/StringUTF16"), (31, u "$assertionsDisabled"), (0, u "Z"), (13, u "HI_BYTE_SHIFT"), (0, u "I"), (2, u "LO_BYTE_SHIFT"), (49, .methodref 12 116), (0, .nameAndType 117 118), (0, u "compress"), (0, u "([CI[BII)I"), (3, u "([CII)[B"), (138, u "coderFromArrayLen"), (0, u "([BI)B"), (106, .class_ 371), (1, u "java/lang/StringUTF16$LinesSpliterator"), (58, u "MAX_LENGTH"), (196, .class_ 628), (0, u "java/lang/StringUTF16$CodePointsSpliterator"), (0, .class_ 630), (0, u "java/lang/StringUTF16$CharsSpliterator")] 4

def k16m0 : Method := { name := "<init>", desc := "()V", sig := { parameters := [], returnType := none }, accessFlags := 0, code := none }
def k16c1 : Code := { maxStack := 2, maxLocals := 2, code := jdk_52_method_15_code, exceptionTable := #[], attributes := #[] }
def k16m1 : Method := { name := "coderFromArrayLen", desc := "([BI)B", sig := { parameters := [(.array .byte), .int], returnType := some .byte }, accessFlags := 8, code := some k16c1 }
def k16c2 : Code := { maxStack := 5, maxLocals := 6, code := jdk_52_method_16_code, exceptionTable := #[], attributes := #[] }
def k16m2 : Method := { name := "compress", desc := "([CII)[B", sig := { parameters := [(.array .char), .int, .int], returnType := some (.array .byte) }, accessFlags := 9, code := some k16c2 }
def k16c3 : Code := { maxStack := 3, maxLocals := 7, code := jdk_52_method_21_code, exceptionTable := #[], attributes := #[] }
def k16m3 : Method := { name := "compress", desc := "([CI[BII)I", sig := { parameters := [(.array .char), .int, (.array .byte), .int, .int], returnType := some .int }, accessFlags := 9, code := some k16c3 }
/-- java/lang/StringUTF16 -/
def k16 : Class := { plain "java/lang/StringUTF16" (some 0) with
  accessFlags := 48
  interfaces := #[]
  cf := some (fileOf pool16 12 #[.nestMembers #[627, 629, 369]] #[{ accessFlags := 0, nameIndex := 9, descriptorIndex := 10, attributes := #[] }, { accessFlags := 8, nameIndex := 261, descriptorIndex := 262, attributes := #[] }, { accessFlags := 9, nameIndex := 117, descriptorIndex := 122, attributes := #[] }, { accessFlags := 9, nameIndex := 117, descriptorIndex := 118, attributes := #[] }] 48 6 #[] #[{ accessFlags := 26, nameIndex := 61, descriptorIndex := 62, attributes := #[] }, { accessFlags := 26, nameIndex := 65, descriptorIndex := 62, attributes := #[] }, { accessFlags := 24, nameIndex := 430, descriptorIndex := 62, attributes := #[] }, { accessFlags := 4120, nameIndex := 46, descriptorIndex := 47, attributes := #[] }])
  fields := #[{ name := "HI_BYTE_SHIFT", type := .int, accessFlags := 26, slot := 0, constantValue := 0 }, { name := "LO_BYTE_SHIFT", type := .int, accessFlags := 26, slot := 1, constantValue := 0 }, { name := "MAX_LENGTH", type := .int, accessFlags := 24, slot := 2, constantValue := 0 }, { name := "$assertionsDisabled", type := .boolean, accessFlags := 4120, slot := 3, constantValue := 0 }]
  methods := #[k16m0, k16m1, k16m2, k16m3]
  instanceTypes := #[]
  staticTypes := #[.int, .int, .int, .boolean]
  resolved := Array.replicate 635 none
  statics := none }

def pool17 : Array CpInfo := pool [(1, .class_ 2), (0, u "java/lang/String"), (1, .class_ 6), (1, u "java/lang/Object"), (0, u "<init>"), (0, u "()V"), (0, .methodref 1 10), (0, .nameAndType 11 12), (0, u "checkIndex"), (0, u "(II)V"), (1, .class_ 16), (1, u "java/lang/StringLatin1"), (36, u "([BI)C"), (67, u "$assertionsDisabled"), (0, u "Z"), (98, .class_ 223), (1, u "java/lang/StringLatin1$LinesSpliterator"), (28, u "charAt"), (28, u "equals"), (0, u "([B[B)Z"), (107, .class_ 391), (0, u "java/lang/StringLatin1$CharsSpliterator")] 3

def k17m0 : Method := { name := "<init>", desc := "()V", sig := { parameters := [], returnType := none }, accessFlags := 0, code := none }
def k17c1 : Code := { maxStack := 2, maxLocals := 2, code := jdk_43_method_2_code, exceptionTable := #[], attributes := #[] }
def k17m1 : Method := { name := "charAt", desc := "([BI)C", sig := { parameters := [(.array .byte), .int], returnType := some .char }, accessFlags := 9, code := some k17c1 }
def k17c2 : Code := { maxStack := 3, maxLocals := 3, code := jdk_43_method_13_code, exceptionTable := #[], attributes := #[] }
def k17m2 : Method := { name := "equals", desc := "([B[B)Z", sig := { parameters := [(.array .byte), (.array .byte)], returnType := some .boolean }, accessFlags := 9, code := some k17c2 }
/-- java/lang/StringLatin1 -/
def k17 : Class := { plain "java/lang/StringLatin1" (some 0) with
  accessFlags := 48
  interfaces := #[]
  cf := some (fileOf pool17 14 #[.nestMembers #[390, 221]] #[{ accessFlags := 0, nameIndex := 7, descriptorIndex := 8, attributes := #[] }, { accessFlags := 9, nameIndex := 252, descriptorIndex := 53, attributes := #[] }, { accessFlags := 9, nameIndex := 281, descriptorIndex := 282, attributes := #[] }] 48 4 #[] #[{ accessFlags := 4120, nameIndex := 121, descriptorIndex := 122, attributes := #[] }])
  fields := #[{ name := "$assertionsDisabled", type := .boolean, accessFlags := 4120, slot := 0, constantValue := 0 }]
  methods := #[k17m0, k17m1, k17m2]
  instanceTypes := #[]
  staticTypes := #[.boolean]
  resolved := Array.replicate 395 none
  statics := none }

def pool18 : Array CpInfo := pool [(9, u "<init>"), (6, .class_ 18), (1, u "java/lang/Object"), (0, u "()V"), (1, .class_ 23), (1, u "jdk/internal/util/ArraysSupport"), (0, u "LOG2_ARRAY_LONG_INDEX_SCALE"), (0, u "I"), (2, u "U"), (0, u "Ljdk/internal/misc/Unsafe;"), (8, u "BIG_ENDIAN"), (0, u "Z"), (8, u "LOG2_BYTE_BIT_SIZE"), (4, u "LOG2_ARRAY_INT_INDEX_SCALE"), (54, u "JLA"), (0, u "Ljdk/internal/access/JavaLangAccess;"), (11, u "LOG2_ARRAY_BOOLEAN_INDEX_SCALE"), (9, u "LOG2_ARRAY_BYTE_INDEX_SCALE"), (5, u "LOG2_ARRAY_CHAR_INDEX_SCALE"), (5, u "LOG2_ARRAY_SHORT_INDEX_SCALE"), (18, u "LOG2_ARRAY_FLOAT_INDEX_SCALE"), (24, u "LOG2_ARRAY_DOUBLE_INDEX_SCALE"), (6, .methodref 195 196), (0, .class_ 197), (0, .nameAndType 198 199), (0, u "java/lang/Math"), (0, u "max"), (0, u "(II)I"), (0, .integer 2147483639), (76, u "T_BOOLEAN"), (2, u "T_CHAR"), (1, u "T_FLOAT"), (1, u "T_DOUBLE"), (1, u "T_BYTE"), (1, u "T_SHORT"), (1, u "T_INT"), (1, u "T_LONG"), (1, u "SOFT_MAX_ARRAY_LENGTH"), (56, u "newLength"), (0, u "(III)I")] 25

def k18m0 : Method := { name := "<init>", desc := "()V", sig := { parameters := [], returnType := none }, accessFlags := 2, code := none }
def k18c1 : Code := { maxStack := 3, maxLocals := 4, code := jdk_48_method_27_code, exceptionTable := #[], attributes := #[] }
def k18m1 : Method := { name := "newLength", desc := "(III)I", sig := { parameters := [.int, .int, .int], returnType := some .int }, accessFlags := 9, code := some k18c1 }
/-- jdk/internal/util/ArraysSupport -/
def k18 : Class := { plain "jdk/internal/util/ArraysSupport" (some 0) with
  accessFlags := 33
  interfaces := #[]
  cf := some (fileOf pool18 21 #[] #[{ accessFlags := 2, nameIndex := 9, descriptorIndex := 19, attributes := #[] }, { accessFlags := 9, nameIndex := 351, descriptorIndex := 352, attributes := #[] }] 33 16 #[] #[{ accessFlags := 24, nameIndex := 28, descriptorIndex := 29, attributes := #[] }, { accessFlags := 26, nameIndex := 38, descriptorIndex := 39, attributes := #[] }, { accessFlags := 25, nameIndex := 121, descriptorIndex := 25, attributes := #[] }, { accessFlags := 25, nameIndex := 131, descriptorIndex := 25, attributes := #[] }, { accessFlags := 25, nameIndex := 137, descriptorIndex := 25, attributes := #[] }, { accessFlags := 25, nameIndex := 143, descriptorIndex := 25, attributes := #[] }, { accessFlags := 25, nameIndex := 53, descriptorIndex := 25, attributes := #[] }, { accessFlags := 25, nameIndex := 24, descriptorIndex := 25, attributes := #[] }, { accessFlags := 25, nameIndex := 162, descriptorIndex := 25, attributes := #[] }, { accessFlags := 25, nameIndex := 187, descriptorIndex := 25, attributes := #[] }, { accessFlags := 26, nameIndex := 48, descriptorIndex := 25, attributes := #[] }, { accessFlags := 25, nameIndex := 277, descriptorIndex := 25, attributes := #[] }, { accessFlags := 25, nameIndex := 280, descriptorIndex := 25, attributes := #[] }, { accessFlags := 25, nameIndex := 282, descriptorIndex := 25, attributes := #[] }, { accessFlags := 25, nameIndex := 284, descriptorIndex := 25, attributes := #[] }, { accessFlags := 25, nameIndex := 286, descriptorIndex := 25, attributes := #[] }, { accessFlags := 25, nameIndex := 288, descriptorIndex := 25, attributes := #[] }, { accessFlags := 25, nameIndex := 290, descriptorIndex := 25, attributes := #[] }, { accessFlags := 25, nameIndex := 292, descriptorIndex := 25, attributes := #[] }, { accessFlags := 26, nameIndex := 108, descriptorIndex := 109, attributes := #[] }, { accessFlags := 25, nameIndex := 294, descriptorIndex := 25, attributes := #[] }])
  fields := #[{ name := "U", type := (.object "jdk/internal/misc/Unsafe"), accessFlags := 24, slot := 0, constantValue := 0 }, { name := "BIG_ENDIAN", type := .boolean, accessFlags := 26, slot := 1, constantValue := 0 }, { name := "LOG2_ARRAY_BOOLEAN_INDEX_SCALE", type := .int, accessFlags := 25, slot := 2, constantValue := 0 }, { name := "LOG2_ARRAY_BYTE_INDEX_SCALE", type := .int, accessFlags := 25, slot := 3, constantValue := 0 }, { name := "LOG2_ARRAY_CHAR_INDEX_SCALE", type := .int, accessFlags := 25, slot := 4, constantValue := 0 }, { name := "LOG2_ARRAY_SHORT_INDEX_SCALE", type := .int, accessFlags := 25, slot := 5, constantValue := 0 }, { name := "LOG2_ARRAY_INT_INDEX_SCALE", type := .int, accessFlags := 25, slot := 6, constantValue := 0 }, { name := "LOG2_ARRAY_LONG_INDEX_SCALE", type := .int, accessFlags := 25, slot := 7, constantValue := 0 }, { name := "LOG2_ARRAY_FLOAT_INDEX_SCALE", type := .int, accessFlags := 25, slot := 8, constantValue := 0 }, { name := "LOG2_ARRAY_DOUBLE_INDEX_SCALE", type := .int, accessFlags := 25, slot := 9, constantValue := 0 }, { name := "LOG2_BYTE_BIT_SIZE", type := .int, accessFlags := 26, slot := 10, constantValue := 0 }, { name := "T_BOOLEAN", type := .int, accessFlags := 25, slot := 11, constantValue := 0 }, { name := "T_CHAR", type := .int, accessFlags := 25, slot := 12, constantValue := 0 }, { name := "T_FLOAT", type := .int, accessFlags := 25, slot := 13, constantValue := 0 }, { name := "T_DOUBLE", type := .int, accessFlags := 25, slot := 14, constantValue := 0 }, { name := "T_BYTE", type := .int, accessFlags := 25, slot := 15, constantValue := 0 }, { name := "T_SHORT", type := .int, accessFlags := 25, slot := 16, constantValue := 0 }, { name := "T_INT", type := .int, accessFlags := 25, slot := 17, constantValue := 0 }, { name := "T_LONG", type := .int, accessFlags := 25, slot := 18, constantValue := 0 }, { name := "JLA", type := (.object "jdk/internal/access/JavaLangAccess"), accessFlags := 26, slot := 19, constantValue := 0 }, { name := "SOFT_MAX_ARRAY_LENGTH", type := .int, accessFlags := 25, slot := 20, constantValue := 0 }]
  methods := #[k18m0, k18m1]
  instanceTypes := #[]
  staticTypes := #[(.object "jdk/internal/misc/Unsafe"), .boolean, .int, .int, .int, .int, .int, .int, .int, .int, .int, .int, .int, .int, .int, .int, .int, .int, .int, (.object "jdk/internal/access/JavaLangAccess"), .int]
  resolved := Array.replicate 378 none
  statics := none }

def pool19 : Array CpInfo := pool [(2, .class_ 4), (1, u "java/lang/Object"), (0, u "<init>"), (0, u "()V"), (17, .class_ 26), (1, u "jdk/internal/util/Preconditions"), (6, u "checkIndex"), (21, .class_ 56), (0, u "jdk/internal/util/Preconditions$4"), (57, .class_ 115), (0, u "jdk/internal/util/Preconditions$1"), (7, u "SIOOBE_FORMATTER"), (0, u "Ljava/util/function/BiFunction;"), (0, .class_ 126), (0, u "jdk/internal/util/Preconditions$2"), (3, u "AIOOBE_FORMATTER"), (0, .class_ 132), (0, u "jdk/internal/util/Preconditions$3"), (3, u "IOOBE_FORMATTER"), (41, u "(IILjava/util/function/BiFunction;)I")] 15

def k19m0 : Method := { name := "<init>", desc := "()V", sig := { parameters := [], returnType := none }, accessFlags := 1, code := none }
def k19c1 : Code := { maxStack := 3, maxLocals := 3, code := jdk_41_method_11_code, exceptionTable := #[], attributes := #[] }
def k19m1 : Method := { name := "checkIndex", desc := "(IILjava/util/function/BiFunction;)I", sig := { parameters := [.int, .int, (.object "java/util/function/BiFunction")], returnType := some .int }, accessFlags := 9, code := some k19c1 }
/-- jdk/internal/util/Preconditions -/
def k19 : Class := { plain "jdk/internal/util/Preconditions" (some 0) with
  accessFlags := 33
  interfaces := #[]
  cf := some (fileOf pool19 24 #[.nestMembers #[55, 131, 125, 114]] #[{ accessFlags := 1, nameIndex := 5, descriptorIndex := 6, attributes := #[] }, { accessFlags := 9, nameIndex := 33, descriptorIndex := 178, attributes := #[] }] 33 2 #[] #[{ accessFlags := 25, nameIndex := 123, descriptorIndex := 124, attributes := #[] }, { accessFlags := 25, nameIndex := 130, descriptorIndex := 124, attributes := #[] }, { accessFlags := 25, nameIndex := 136, descriptorIndex := 124, attributes := #[] }])
  fields := #[{ name := "SIOOBE_FORMATTER", type := (.object "java/util/function/BiFunction"), accessFlags := 25, slot := 0, constantValue := 0 }, { name := "AIOOBE_FORMATTER", type := (.object "java/util/function/BiFunction"), accessFlags := 25, slot := 1, constantValue := 0 }, { name := "IOOBE_FORMATTER", type := (.object "java/util/function/BiFunction"), accessFlags := 25, slot := 2, constantValue := 0 }]
  methods := #[k19m0, k19m1]
  instanceTypes := #[]
  staticTypes := #[(.object "java/util/function/BiFunction"), (.object "java/util/function/BiFunction"), (.object "java/util/function/BiFunction")]
  resolved := Array.replicate 194 none
  statics := some 1 }

def pool20 : Array CpInfo := pool [(1, .class_ 2), (0, u "java/lang/Cloneable"), (0, .class_ 4), (0, u "java/lang/Object")] 2

/-- java/lang/Cloneable -/
def k20 : Class := { plain "java/lang/Cloneable" (some 0) with
  accessFlags := 1537
  interfaces := #[]
  cf := some (fileOf pool20 1 #[] #[] 1537 3 #[] #[])
  fields := #[]
  methods := #[]
  instanceTypes := #[]
  staticTypes := #[]
  resolved := Array.replicate 7 none
  statics := none }

/-- the primitive byte -/
def k21 : Class := { plain "byte" none with kind := .primitive 'B', accessFlags := 0x411 }
/-- [B -/
def k22 : Class := { plain "[B" (some 0) with kind := .array 21 .byte, interfaces := #[20, 2], accessFlags := 1041 }

/-- the primitive char -/
def k23 : Class := { plain "char" none with kind := .primitive 'C', accessFlags := 0x411 }
/-- [C -/
def k24 : Class := { plain "[C" (some 0) with kind := .array 23 .char, interfaces := #[20, 2], accessFlags := 1041 }

/-- the primitive int -/
def k25 : Class := { plain "int" none with kind := .primitive 'I', accessFlags := 0x411 }
/-- [I -/
def k26 : Class := { plain "[I" (some 0) with kind := .array 25 .int, interfaces := #[20, 2], accessFlags := 1041 }

def heap : Heap := #[{ cls := 7, slots := #[.long 0, .int 1, .null, .int 0, .null, .int 0, .int 0], vm := .statics 7 },
  { cls := 19, slots := #[.null, .null, .null], vm := .statics 19 }]
def classes : Array Class := #[k0, k1, k2, k3, k4, k5, k6, k7, k8, k9, k10, k11, k12, k13, k14, k15, k16, k17, k18, k19, k20, k21, k22, k23, k24, k25, k26]
def interned : List (Array UInt16 × Addr) := []
def slotsUsed : Nat := 10
def theMethod : MethodId := ⟨1, 3⟩
def args0 : Array Value := #[.int 5, .int 5, .int 5]
def aboutOver (below : List Frame) : State where
  vm := { classes := classes, interned := interned.toArray }
  heap := heap
  slotsUsed := slotsUsed
  threads := #[{ frames := .invoking theMethod args0 :: below }]
def below0 : List Frame := [.native { method := ⟨0, 0⟩, args := #[] }]
def about1 : State := aboutOver below0
def p0 : Program := .bare "" "" ""
def e0 : Env := launch0.env 0 0 0
theorem w_frames : about1.frames = Frame.invoking theMethod args0 :: below0 := rfl
set_option maxRecDepth 65536 in
theorem w_args : argsFit about1.vm theMethod args0 = true := by decide +kernel
set_option maxRecDepth 65536 in
theorem w_heap : heapFits about1 = true := by decide +kernel
set_option maxRecDepth 65536 in
theorem w_runnable : about1.curStatus? = some .runnable := by decide +kernel
set_option maxRecDepth 65536 in
theorem w_alone : about1.alone = true := by decide +kernel
set_option maxRecDepth 65536 in
theorem w_named : about1.methodNamed? x = some theMethod := by decide +kernel
set_option maxRecDepth 65536 in
theorem w_hears : about1.hears theMethod below0 = true := by decide +kernel
set_option maxRecDepth 65536 in
theorem w_ripe : about1.ripe theMethod args0 below0 = true := by decide +kernel
theorem w_running : about1.status = .running := rfl
set_option maxRecDepth 65536 in
theorem w_room : about1.hasRoom e0.platform room_1 = true :=
  launch0.hasRoom_least _ room_1 (by decide +kernel) (by decide +kernel) (by decide +kernel) (by decide +kernel) (by decide +kernel) (by decide +kernel)
theorem allAtoms_all (ts : List Jvm.Cond) (a : Array Jvm.Value) (st : Jvm.State) : (allAtoms ts).before a st = ts.all (fun c => c.before a st) := by
  induction ts with
  | nil => rfl
  | cons c t ih =>
    show (Jvm.Cond.and c (allAtoms t)).before a st = _
    rw [Jvm.Cond.before_and, ih, List.all_cons]
def words1 : List Jvm.Cond := Jvm.Cond.code x code maxLocals ret :: tables_1
/-- a 'code' word, met by the world's own term for the bytes: nothing is compared byte by byte -/
theorem code_word {y : MethodName} {bytes : ByteArray} {mx : Nat} {rt : Option FieldType} {a : Array Value} {s : State} {m : MethodId} {meth : Method} {c : Code} (h1 : s.methodNamed? y = some m) (h2 : s.vm.method? m = some meth) (h3 : meth.code = some c) (h4 : c.code = bytes)
    (h5 : (c.maxLocals == mx && c.exceptionTable.isEmpty && decide (c.maxStack ≤ mostOperands) && decide (meth.sig.returnType = rt) && !meth.locks && decide (parseMethodDescriptor y.desc = some meth.sig)) = true) : (Jvm.Cond.code y bytes mx rt).before a s = true := by
  simp only [Bool.and_eq_true, beq_iff_eq, Bool.not_eq_true', decide_eq_true_eq] at h5
  obtain ⟨⟨⟨⟨⟨g1, g2⟩, g3⟩, g4⟩, g5⟩, g6⟩ := h5
  simp [Cond.before, Cond.holds, Cond.value, h1, h2, h3, h4, g1, g2, g3, g4, g5, g6]
def isCode : Jvm.Cond → Bool
  | .code _ _ _ _ => true
  | _ => false
theorem all_split {L : List Jvm.Cond} {P : Jvm.Cond → Bool} (h1 : L.all (fun c => isCode c || P c) = true) (h2 : ∀ c ∈ L.filter isCode, P c = true) : L.all P = true := by
  refine List.all_eq_true.mpr fun c hc => ?_
  have h := List.all_eq_true.mp h1 c hc
  rcases Bool.eq_false_or_eq_true (isCode c) with hi | hi
  · exact h2 c (List.mem_filter.mpr ⟨hc, hi⟩)
  · simpa [hi] using h
set_option maxRecDepth 65536 in
theorem w_c0 : (Jvm.Cond.code x code maxLocals ret).before args0 about1 = true := code_word (m := ⟨1, 3⟩) (meth := k1m3) (c := k1c3) (by decide +kernel) rfl rfl rfl (by decide +kernel)
set_option maxRecDepth 65536 in
theorem w_c1 : (Jvm.Cond.code ({ cls := "com/example/kindling/kindling/ValueDescribedPinLaw", name := "draw", desc := "(I)Ljava/lang/String;" } : Jvm.MethodName) method_2_code (3 : Nat) (Option.some (Jvm.ClassFile.FieldType.object "java/lang/String"))).before args0 about1 = true := code_word (m := ⟨1, 1⟩) (meth := k1m1) (c := k1c1) (by decide +kernel) rfl rfl rfl (by decide +kernel)
set_option maxRecDepth 65536 in
theorem w_c2 : (Jvm.Cond.code ({ cls := "java/lang/String", name := "<init>", desc := "([C)V" } : Jvm.MethodName) jdk_42_method_3_code (2 : Nat) (Option.none : Option Jvm.ClassFile.FieldType)).before args0 about1 = true := code_word (m := ⟨7, 1⟩) (meth := k7m1) (c := k7c1) (by decide +kernel) rfl rfl rfl (by decide +kernel)
set_option maxRecDepth 65536 in
theorem w_c3 : (Jvm.Cond.code ({ cls := "java/lang/String", name := "<init>", desc := "([CIILjava/lang/Void;)V" } : Jvm.MethodName) jdk_42_method_149_code (6 : Nat) (Option.none : Option Jvm.ClassFile.FieldType)).before args0 about1 = true := code_word (m := ⟨7, 7⟩) (meth := k7m7) (c := k7c7) (by decide +kernel) rfl rfl rfl (by decide +kernel)
set_option maxRecDepth 65536 in
theorem w_c4 : (Jvm.Cond.code ({ cls := "java/lang/Object", name := "<init>", desc := "()V" } : Jvm.MethodName) object_method_1_code (1 : Nat) (Option.none : Option Jvm.ClassFile.FieldType)).before args0 about1 = true := code_word (m := ⟨0, 0⟩) (meth := k0m0) (c := k0c0) (by decide +kernel) rfl rfl rfl (by decide +kernel)
set_option maxRecDepth 65536 in
theorem w_c5 : (Jvm.Cond.code ({ cls := "com/example/kindling/kindling/Environment$Value", name := "<init>", desc := "(Ljava/lang/String;Ljava/lang/String;Ljava/lang/String;)V" } : Jvm.MethodName) prog_9_method_1_code (4 : Nat) (Option.none : Option Jvm.ClassFile.FieldType)).before args0 about1 = true := code_word (m := ⟨9, 0⟩) (meth := k9m0) (c := k9c0) (by decide +kernel) rfl rfl rfl (by decide +kernel)
set_option maxRecDepth 65536 in
theorem w_c6 : (Jvm.Cond.code ({ cls := "java/lang/Record", name := "<init>", desc := "()V" } : Jvm.MethodName) jdk_30_method_1_code (1 : Nat) (Option.none : Option Jvm.ClassFile.FieldType)).before args0 about1 = true := code_word (m := ⟨8, 0⟩) (meth := k8m0) (c := k8c0) (by decide +kernel) rfl rfl rfl (by decide +kernel)
set_option maxRecDepth 65536 in
theorem w_c7 : (Jvm.Cond.code ({ cls := "com/example/kindling/kindling/Environment$Value", name := "described", desc := "()Ljava/lang/String;" } : Jvm.MethodName) prog_9_method_2_code (1 : Nat) (Option.some (Jvm.ClassFile.FieldType.object "java/lang/String"))).before args0 about1 = true := code_word (m := ⟨9, 1⟩) (meth := k9m1) (c := k9c1) (by decide +kernel) rfl rfl rfl (by decide +kernel)
set_option maxRecDepth 65536 in
theorem w_c8 : (Jvm.Cond.code ({ cls := "java/lang/StringBuilder", name := "<init>", desc := "()V" } : Jvm.MethodName) jdk_67_method_1_code (1 : Nat) (Option.none : Option Jvm.ClassFile.FieldType)).before args0 about1 = true := code_word (m := ⟨12, 0⟩) (meth := k12m0) (c := k12c0) (by decide +kernel) rfl rfl rfl (by decide +kernel)
set_option maxRecDepth 65536 in
theorem w_c9 : (Jvm.Cond.code ({ cls := "java/lang/AbstractStringBuilder", name := "<init>", desc := "(I)V" } : Jvm.MethodName) jdk_68_method_2_code (2 : Nat) (Option.none : Option Jvm.ClassFile.FieldType)).before args0 about1 = true := code_word (m := ⟨11, 1⟩) (meth := k11m1) (c := k11c1) (by decide +kernel) rfl rfl rfl (by decide +kernel)
set_option maxRecDepth 65536 in
theorem w_c10 : (Jvm.Cond.code ({ cls := "java/lang/StringBuilder", name := "append", desc := "(Ljava/lang/String;)Ljava/lang/StringBuilder;" } : Jvm.MethodName) jdk_67_method_7_code (2 : Nat) (Option.some (Jvm.ClassFile.FieldType.object "java/lang/StringBuilder"))).before args0 about1 = true := code_word (m := ⟨12, 1⟩) (meth := k12m1) (c := k12c1) (by decide +kernel) rfl rfl rfl (by decide +kernel)
set_option maxRecDepth 65536 in
theorem w_c11 : (Jvm.Cond.code ({ cls := "java/lang/AbstractStringBuilder", name := "append", desc := "(Ljava/lang/String;)Ljava/lang/AbstractStringBuilder;" } : Jvm.MethodName) jdk_68_method_22_code (3 : Nat) (Option.some (Jvm.ClassFile.FieldType.object "java/lang/AbstractStringBuilder"))).before args0 about1 = true := code_word (m := ⟨11, 5⟩) (meth := k11m5) (c := k11c5) (by decide +kernel) rfl rfl rfl (by decide +kernel)
set_option maxRecDepth 65536 in
theorem w_c12 : (Jvm.Cond.code ({ cls := "java/lang/String", name := "length", desc := "()I" } : Jvm.MethodName) jdk_42_method_54_code (1 : Nat) (Option.some Jvm.ClassFile.FieldType.int)).before args0 about1 = true := code_word (m := ⟨7, 3⟩) (meth := k7m3) (c := k7c3) (by decide +kernel) rfl rfl rfl (by decide +kernel)
set_option maxRecDepth 65536 in
theorem w_c13 : (Jvm.Cond.code ({ cls := "java/lang/String", name := "coder", desc := "()B" } : Jvm.MethodName) jdk_42_method_152_code (1 : Nat) (Option.some Jvm.ClassFile.FieldType.byte)).before args0 about1 = true := code_word (m := ⟨7, 9⟩) (meth := k7m9) (c := k7c9) (by decide +kernel) rfl rfl rfl (by decide +kernel)
set_option maxRecDepth 65536 in
theorem w_c14 : (Jvm.Cond.code ({ cls := "java/lang/AbstractStringBuilder", name := "ensureCapacityInternal", desc := "(I)V" } : Jvm.MethodName) jdk_68_method_9_code (3 : Nat) (Option.none : Option Jvm.ClassFile.FieldType)).before args0 about1 = true := code_word (m := ⟨11, 3⟩) (meth := k11m3) (c := k11c3) (by decide +kernel) rfl rfl rfl (by decide +kernel)
set_option maxRecDepth 65536 in
theorem w_c15 : (Jvm.Cond.code ({ cls := "java/lang/AbstractStringBuilder", name := "putStringAt", desc := "(ILjava/lang/String;)V" } : Jvm.MethodName) jdk_68_method_73_code (3 : Nat) (Option.none : Option Jvm.ClassFile.FieldType)).before args0 about1 = true := code_word (m := ⟨11, 9⟩) (meth := k11m9) (c := k11c9) (by decide +kernel) rfl rfl rfl (by decide +kernel)
set_option maxRecDepth 65536 in
theorem w_c16 : (Jvm.Cond.code ({ cls := "java/lang/AbstractStringBuilder", name := "inflateIfNeededFor", desc := "(Ljava/lang/String;)V" } : Jvm.MethodName) jdk_68_method_71_code (2 : Nat) (Option.none : Option Jvm.ClassFile.FieldType)).before args0 about1 = true := code_word (m := ⟨11, 8⟩) (meth := k11m8) (c := k11c8) (by decide +kernel) rfl rfl rfl (by decide +kernel)
set_option maxRecDepth 65536 in
theorem w_c17 : (Jvm.Cond.code ({ cls := "java/lang/String", name := "getBytes", desc := "([BIB)V" } : Jvm.MethodName) jdk_42_method_147_code (4 : Nat) (Option.none : Option Jvm.ClassFile.FieldType)).before args0 about1 = true := code_word (m := ⟨7, 6⟩) (meth := k7m6) (c := k7c6) (by decide +kernel) rfl rfl rfl (by decide +kernel)
set_option maxRecDepth 65536 in
theorem w_c18 : (Jvm.Cond.code ({ cls := "java/lang/StringBuilder", name := "toString", desc := "()Ljava/lang/String;" } : Jvm.MethodName) jdk_67_method_42_code (1 : Nat) (Option.some (Jvm.ClassFile.FieldType.object "java/lang/String"))).before args0 about1 = true := code_word (m := ⟨12, 2⟩) (meth := k12m2) (c := k12c2) (by decide +kernel) rfl rfl rfl (by decide +kernel)
set_option maxRecDepth 65536 in
theorem w_c19 : (Jvm.Cond.code ({ cls := "java/lang/String", name := "<init>", desc := "(Ljava/lang/StringBuilder;)V" } : Jvm.MethodName) jdk_42_method_53_code (2 : Nat) (Option.none : Option Jvm.ClassFile.FieldType)).before args0 about1 = true := code_word (m := ⟨7, 2⟩) (meth := k7m2) (c := k7c2) (by decide +kernel) rfl rfl rfl (by decide +kernel)
set_option maxRecDepth 65536 in
theorem w_c20 : (Jvm.Cond.code ({ cls := "java/lang/String", name := "<init>", desc := "(Ljava/lang/AbstractStringBuilder;Ljava/lang/Void;)V" } : Jvm.MethodName) jdk_42_method_150_code (5 : Nat) (Option.none : Option Jvm.ClassFile.FieldType)).before args0 about1 = true := code_word (m := ⟨7, 8⟩) (meth := k7m8) (c := k7c8) (by decide +kernel) rfl rfl rfl (by decide +kernel)
set_option maxRecDepth 65536 in
theorem w_c21 : (Jvm.Cond.code ({ cls := "java/lang/AbstractStringBuilder", name := "getValue", desc := "()[B" } : Jvm.MethodName) jdk_68_method_64_code (1 : Nat) (Option.some (Jvm.ClassFile.FieldType.array Jvm.ClassFile.FieldType.byte))).before args0 about1 = true := code_word (m := ⟨11, 6⟩) (meth := k11m6) (c := k11c6) (by decide +kernel) rfl rfl rfl (by decide +kernel)
set_option maxRecDepth 65536 in
theorem w_c22 : (Jvm.Cond.code ({ cls := "java/lang/StringBuilder", name := "length", desc := "()I" } : Jvm.MethodName) jdk_67_method_93_code (1 : Nat) (Option.some Jvm.ClassFile.FieldType.int)).before args0 about1 = true := code_word (m := ⟨12, 3⟩) (meth := k12m3) (c := k12c3) (by decide +kernel) rfl rfl rfl (by decide +kernel)
set_option maxRecDepth 65536 in
theorem w_c23 : (Jvm.Cond.code ({ cls := "java/lang/AbstractStringBuilder", name := "length", desc := "()I" } : Jvm.MethodName) jdk_68_method_6_code (1 : Nat) (Option.some Jvm.ClassFile.FieldType.int)).before args0 about1 = true := code_word (m := ⟨11, 2⟩) (meth := k11m2) (c := k11c2) (by decide +kernel) rfl rfl rfl (by decide +kernel)
set_option maxRecDepth 65536 in
theorem w_c24 : (Jvm.Cond.code ({ cls := "java/lang/AbstractStringBuilder", name := "isLatin1", desc := "()Z" } : Jvm.MethodName) jdk_68_method_68_code (1 : Nat) (Option.some Jvm.ClassFile.FieldType.boolean)).before args0 about1 = true := code_word (m := ⟨11, 7⟩) (meth := k11m7) (c := k11c7) (by decide +kernel) rfl rfl rfl (by decide +kernel)
set_option maxRecDepth 65536 in
theorem w_c25 : (Jvm.Cond.code ({ cls := "java/util/Arrays", name := "copyOfRange", desc := "([BII)[B" } : Jvm.MethodName) jdk_65_method_132_code (3 : Nat) (Option.some (Jvm.ClassFile.FieldType.array Jvm.ClassFile.FieldType.byte))).before args0 about1 = true := code_word (m := ⟨14, 3⟩) (meth := k14m3) (c := k14c3) (by decide +kernel) rfl rfl rfl (by decide +kernel)
set_option maxRecDepth 65536 in
theorem w_c26 : (Jvm.Cond.code ({ cls := "java/util/Arrays", name := "copyOfRangeByte", desc := "([BII)[B" } : Jvm.MethodName) jdk_65_method_133_code (5 : Nat) (Option.some (Jvm.ClassFile.FieldType.array Jvm.ClassFile.FieldType.byte))).before args0 about1 = true := code_word (m := ⟨14, 4⟩) (meth := k14m4) (c := k14c4) (by decide +kernel) rfl rfl rfl (by decide +kernel)
set_option maxRecDepth 65536 in
theorem w_c27 : (Jvm.Cond.code ({ cls := "java/util/Arrays", name := "checkLength", desc := "(II)V" } : Jvm.MethodName) jdk_65_method_131_code (2 : Nat) (Option.none : Option Jvm.ClassFile.FieldType)).before args0 about1 = true := code_word (m := ⟨14, 2⟩) (meth := k14m2) (c := k14c2) (by decide +kernel) rfl rfl rfl (by decide +kernel)
set_option maxRecDepth 65536 in
theorem w_c28 : (Jvm.Cond.code ({ cls := "java/lang/Math", name := "min", desc := "(II)I" } : Jvm.MethodName) jdk_29_method_69_code (2 : Nat) (Option.some Jvm.ClassFile.FieldType.int)).before args0 about1 = true := code_word (m := ⟨15, 2⟩) (meth := k15m2) (c := k15c2) (by decide +kernel) rfl rfl rfl (by decide +kernel)
set_option maxRecDepth 65536 in
theorem w_c29 : (Jvm.Cond.code ({ cls := "com/example/kindling/kindling/ValueDescribedPinLaw", name := "put", desc := "([CILjava/lang/String;)I" } : Jvm.MethodName) method_3_code (4 : Nat) (Option.some Jvm.ClassFile.FieldType.int)).before args0 about1 = true := code_word (m := ⟨1, 2⟩) (meth := k1m2) (c := k1c2) (by decide +kernel) rfl rfl rfl (by decide +kernel)
set_option maxRecDepth 65536 in
theorem w_c30 : (Jvm.Cond.code ({ cls := "java/lang/StringUTF16", name := "compress", desc := "([CII)[B" } : Jvm.MethodName) jdk_52_method_16_code (6 : Nat) (Option.some (Jvm.ClassFile.FieldType.array Jvm.ClassFile.FieldType.byte))).before args0 about1 = true := code_word (m := ⟨16, 2⟩) (meth := k16m2) (c := k16c2) (by decide +kernel) rfl rfl rfl (by decide +kernel)
set_option maxRecDepth 65536 in
theorem w_c31 : (Jvm.Cond.code ({ cls := "java/lang/StringUTF16", name := "compress", desc := "([CI[BII)I" } : Jvm.MethodName) jdk_52_method_21_code (7 : Nat) (Option.some Jvm.ClassFile.FieldType.int)).before args0 about1 = true := code_word (m := ⟨16, 3⟩) (meth := k16m3) (c := k16c3) (by decide +kernel) rfl rfl rfl (by decide +kernel)
set_option maxRecDepth 65536 in
theorem w_c32 : (Jvm.Cond.code ({ cls := "java/lang/StringUTF16", name := "coderFromArrayLen", desc := "([BI)B" } : Jvm.MethodName) jdk_52_method_15_code (2 : Nat) (Option.some Jvm.ClassFile.FieldType.byte)).before args0 about1 = true := code_word (m := ⟨16, 1⟩) (meth := k16m1) (c := k16c1) (by decide +kernel) rfl rfl rfl (by decide +kernel)
set_option maxRecDepth 65536 in
theorem w_c33 : (Jvm.Cond.code ({ cls := "java/lang/String", name := "equals", desc := "(Ljava/lang/Object;)Z" } : Jvm.MethodName) jdk_42_method_66_code (3 : Nat) (Option.some Jvm.ClassFile.FieldType.boolean)).before args0 about1 = true := code_word (m := ⟨7, 5⟩) (meth := k7m5) (c := k7c5) (by decide +kernel) rfl rfl rfl (by decide +kernel)
set_option maxRecDepth 65536 in
theorem w_c34 : (Jvm.Cond.code ({ cls := "java/lang/StringLatin1", name := "equals", desc := "([B[B)Z" } : Jvm.MethodName) jdk_43_method_13_code (3 : Nat) (Option.some Jvm.ClassFile.FieldType.boolean)).before args0 about1 = true := code_word (m := ⟨17, 2⟩) (meth := k17m2) (c := k17c2) (by decide +kernel) rfl rfl rfl (by decide +kernel)
set_option maxRecDepth 65536 in
theorem w_c35 : (Jvm.Cond.code ({ cls := "java/lang/AbstractStringBuilder", name := "newCapacity", desc := "(I)I" } : Jvm.MethodName) jdk_68_method_10_code (6 : Nat) (Option.some Jvm.ClassFile.FieldType.int)).before args0 about1 = true := code_word (m := ⟨11, 4⟩) (meth := k11m4) (c := k11c4) (by decide +kernel) rfl rfl rfl (by decide +kernel)
set_option maxRecDepth 65536 in
theorem w_c36 : (Jvm.Cond.code ({ cls := "jdk/internal/util/ArraysSupport", name := "newLength", desc := "(III)I" } : Jvm.MethodName) jdk_48_method_27_code (4 : Nat) (Option.some Jvm.ClassFile.FieldType.int)).before args0 about1 = true := code_word (m := ⟨18, 1⟩) (meth := k18m1) (c := k18c1) (by decide +kernel) rfl rfl rfl (by decide +kernel)
set_option maxRecDepth 65536 in
theorem w_c37 : (Jvm.Cond.code ({ cls := "java/lang/Math", name := "max", desc := "(II)I" } : Jvm.MethodName) jdk_29_method_65_code (2 : Nat) (Option.some Jvm.ClassFile.FieldType.int)).before args0 about1 = true := code_word (m := ⟨15, 1⟩) (meth := k15m1) (c := k15c1) (by decide +kernel) rfl rfl rfl (by decide +kernel)
set_option maxRecDepth 65536 in
theorem w_c38 : (Jvm.Cond.code ({ cls := "java/util/Arrays", name := "copyOf", desc := "([BI)[B" } : Jvm.MethodName) jdk_65_method_121_code (3 : Nat) (Option.some (Jvm.ClassFile.FieldType.array Jvm.ClassFile.FieldType.byte))).before args0 about1 = true := code_word (m := ⟨14, 1⟩) (meth := k14m1) (c := k14c1) (by decide +kernel) rfl rfl rfl (by decide +kernel)
set_option maxRecDepth 65536 in
theorem w_c39 : (Jvm.Cond.code ({ cls := "java/lang/String", name := "charAt", desc := "(I)C" } : Jvm.MethodName) jdk_42_method_56_code (2 : Nat) (Option.some Jvm.ClassFile.FieldType.char)).before args0 about1 = true := code_word (m := ⟨7, 4⟩) (meth := k7m4) (c := k7c4) (by decide +kernel) rfl rfl rfl (by decide +kernel)
set_option maxRecDepth 65536 in
theorem w_c40 : (Jvm.Cond.code ({ cls := "java/lang/String", name := "isLatin1", desc := "()Z" } : Jvm.MethodName) jdk_42_method_154_code (1 : Nat) (Option.some Jvm.ClassFile.FieldType.boolean)).before args0 about1 = true := code_word (m := ⟨7, 10⟩) (meth := k7m10) (c := k7c10) (by decide +kernel) rfl rfl rfl (by decide +kernel)
set_option maxRecDepth 65536 in
theorem w_c41 : (Jvm.Cond.code ({ cls := "java/lang/StringLatin1", name := "charAt", desc := "([BI)C" } : Jvm.MethodName) jdk_43_method_2_code (2 : Nat) (Option.some Jvm.ClassFile.FieldType.char)).before args0 about1 = true := code_word (m := ⟨17, 1⟩) (meth := k17m1) (c := k17c1) (by decide +kernel) rfl rfl rfl (by decide +kernel)
set_option maxRecDepth 65536 in
theorem w_c42 : (Jvm.Cond.code ({ cls := "java/lang/String", name := "checkIndex", desc := "(II)V" } : Jvm.MethodName) jdk_42_method_155_code (2 : Nat) (Option.none : Option Jvm.ClassFile.FieldType)).before args0 about1 = true := code_word (m := ⟨7, 11⟩) (meth := k7m11) (c := k7c11) (by decide +kernel) rfl rfl rfl (by decide +kernel)
set_option maxRecDepth 65536 in
theorem w_c43 : (Jvm.Cond.code ({ cls := "jdk/internal/util/Preconditions", name := "checkIndex", desc := "(IILjava/util/function/BiFunction;)I" } : Jvm.MethodName) jdk_41_method_11_code (3 : Nat) (Option.some Jvm.ClassFile.FieldType.int)).before args0 about1 = true := code_word (m := ⟨19, 1⟩) (meth := k19m1) (c := k19c1) (by decide +kernel) rfl rfl rfl (by decide +kernel)
def codes1 : List Jvm.Cond := [Jvm.Cond.code x code maxLocals ret, Jvm.Cond.code ({ cls := "com/example/kindling/kindling/ValueDescribedPinLaw", name := "draw", desc := "(I)Ljava/lang/String;" } : Jvm.MethodName) method_2_code (3 : Nat) (Option.some (Jvm.ClassFile.FieldType.object "java/lang/String")), Jvm.Cond.code ({ cls := "java/lang/String", name := "<init>", desc := "([C)V" } : Jvm.MethodName) jdk_42_method_3_code (2 : Nat) (Option.none : Option Jvm.ClassFile.FieldType), Jvm.Cond.code ({ cls := "java/lang/String", name := "<init>", desc := "([CIILjava/lang/Void;)V" } : Jvm.MethodName) jdk_42_method_149_code (6 : Nat) (Option.none : Option Jvm.ClassFile.FieldType), Jvm.Cond.code ({ cls := "java/lang/Object", name := "<init>", desc := "()V" } : Jvm.MethodName) object_method_1_code (1 : Nat) (Option.none : Option Jvm.ClassFile.FieldType), Jvm.Cond.code ({ cls := "com/example/kindling/kindling/Environment$Value", name := "<init>", desc := "(Ljava/lang/String;Ljava/lang/String;Ljava/lang/String;)V" } : Jvm.MethodName) prog_9_method_1_code (4 : Nat) (Option.none : Option Jvm.ClassFile.FieldType), Jvm.Cond.code ({ cls := "java/lang/Record", name := "<init>", desc := "()V" } : Jvm.MethodName) jdk_30_method_1_code (1 : Nat) (Option.none : Option Jvm.ClassFile.FieldType), Jvm.Cond.code ({ cls := "com/example/kindling/kindling/Environment$Value", name := "described", desc := "()Ljava/lang/String;" } : Jvm.MethodName) prog_9_method_2_code (1 : Nat) (Option.some (Jvm.ClassFile.FieldType.object "java/lang/String")), Jvm.Cond.code ({ cls := "java/lang/StringBuilder", name := "<init>", desc := "()V" } : Jvm.MethodName) jdk_67_method_1_code (1 : Nat) (Option.none : Option Jvm.ClassFile.FieldType), Jvm.Cond.code ({ cls := "java/lang/AbstractStringBuilder", name := "<init>", desc := "(I)V" } : Jvm.MethodName) jdk_68_method_2_code (2 : Nat) (Option.none : Option Jvm.ClassFile.FieldType), Jvm.Cond.code ({ cls := "java/lang/StringBuilder", name := "append", desc := "(Ljava/lang/String;)Ljava/lang/StringBuilder;" } : Jvm.MethodName) jdk_67_method_7_code (2 : Nat) (Option.some (Jvm.ClassFile.FieldType.object "java/lang/StringBuilder")), Jvm.Cond.code ({ cls := "java/lang/AbstractStringBuilder", name := "append", desc := "(Ljava/lang/String;)Ljava/lang/AbstractStringBuilder;" } : Jvm.MethodName) jdk_68_method_22_code (3 : Nat) (Option.some (Jvm.ClassFile.FieldType.object "java/lang/AbstractStringBuilder")), Jvm.Cond.code ({ cls := "java/lang/String", name := "length", desc := "()I" } : Jvm.MethodName) jdk_42_method_54_code (1 : Nat) (Option.some Jvm.ClassFile.FieldType.int), Jvm.Cond.code ({ cls := "java/lang/String", name := "coder", desc := "()B" } : Jvm.MethodName) jdk_42_method_152_code (1 : Nat) (Option.some Jvm.ClassFile.FieldType.byte), Jvm.Cond.code ({ cls := "java/lang/AbstractStringBuilder", name := "ensureCapacityInternal", desc := "(I)V" } : Jvm.MethodName) jdk_68_method_9_code (3 : Nat) (Option.none : Option Jvm.ClassFile.FieldType), Jvm.Cond.code ({ cls := "java/lang/AbstractStringBuilder", name := "putStringAt", desc := "(ILjava/lang/String;)V" } : Jvm.MethodName) jdk_68_method_73_code (3 : Nat) (Option.none : Option Jvm.ClassFile.FieldType), Jvm.Cond.code ({ cls := "java/lang/AbstractStringBuilder", name := "inflateIfNeededFor", desc := "(Ljava/lang/String;)V" } : Jvm.MethodName) jdk_68_method_71_code (2 : Nat) (Option.none : Option Jvm.ClassFile.FieldType), Jvm.Cond.code ({ cls := "java/lang/String", name := "getBytes", desc := "([BIB)V" } : Jvm.MethodName) jdk_42_method_147_code (4 : Nat) (Option.none : Option Jvm.ClassFile.FieldType), Jvm.Cond.code ({ cls := "java/lang/StringBuilder", name := "toString", desc := "()Ljava/lang/String;" } : Jvm.MethodName) jdk_67_method_42_code (1 : Nat) (Option.some (Jvm.ClassFile.FieldType.object "java/lang/String")), Jvm.Cond.code ({ cls := "java/lang/String", name := "<init>", desc := "(Ljava/lang/StringBuilder;)V" } : Jvm.MethodName) jdk_42_method_53_code (2 : Nat) (Option.none : Option Jvm.ClassFile.FieldType), Jvm.Cond.code ({ cls := "java/lang/String", name := "<init>", desc := "(Ljava/lang/AbstractStringBuilder;Ljava/lang/Void;)V" } : Jvm.MethodName) jdk_42_method_150_code (5 : Nat) (Option.none : Option Jvm.ClassFile.FieldType), Jvm.Cond.code ({ cls := "java/lang/AbstractStringBuilder", name := "getValue", desc := "()[B" } : Jvm.MethodName) jdk_68_method_64_code (1 : Nat) (Option.some (Jvm.ClassFile.FieldType.array Jvm.ClassFile.FieldType.byte)), Jvm.Cond.code ({ cls := "java/lang/StringBuilder", name := "length", desc := "()I" } : Jvm.MethodName) jdk_67_method_93_code (1 : Nat) (Option.some Jvm.ClassFile.FieldType.int), Jvm.Cond.code ({ cls := "java/lang/AbstractStringBuilder", name := "length", desc := "()I" } : Jvm.MethodName) jdk_68_method_6_code (1 : Nat) (Option.some Jvm.ClassFile.FieldType.int), Jvm.Cond.code ({ cls := "java/lang/AbstractStringBuilder", name := "isLatin1", desc := "()Z" } : Jvm.MethodName) jdk_68_method_68_code (1 : Nat) (Option.some Jvm.ClassFile.FieldType.boolean), Jvm.Cond.code ({ cls := "java/util/Arrays", name := "copyOfRange", desc := "([BII)[B" } : Jvm.MethodName) jdk_65_method_132_code (3 : Nat) (Option.some (Jvm.ClassFile.FieldType.array Jvm.ClassFile.FieldType.byte)), Jvm.Cond.code ({ cls := "java/util/Arrays", name := "copyOfRangeByte", desc := "([BII)[B" } : Jvm.MethodName) jdk_65_method_133_code (5 : Nat) (Option.some (Jvm.ClassFile.FieldType.array Jvm.ClassFile.FieldType.byte)), Jvm.Cond.code ({ cls := "java/util/Arrays", name := "checkLength", desc := "(II)V" } : Jvm.MethodName) jdk_65_method_131_code (2 : Nat) (Option.none : Option Jvm.ClassFile.FieldType), Jvm.Cond.code ({ cls := "java/lang/Math", name := "min", desc := "(II)I" } : Jvm.MethodName) jdk_29_method_69_code (2 : Nat) (Option.some Jvm.ClassFile.FieldType.int), Jvm.Cond.code ({ cls := "com/example/kindling/kindling/ValueDescribedPinLaw", name := "put", desc := "([CILjava/lang/String;)I" } : Jvm.MethodName) method_3_code (4 : Nat) (Option.some Jvm.ClassFile.FieldType.int), Jvm.Cond.code ({ cls := "java/lang/StringUTF16", name := "compress", desc := "([CII)[B" } : Jvm.MethodName) jdk_52_method_16_code (6 : Nat) (Option.some (Jvm.ClassFile.FieldType.array Jvm.ClassFile.FieldType.byte)), Jvm.Cond.code ({ cls := "java/lang/StringUTF16", name := "compress", desc := "([CI[BII)I" } : Jvm.MethodName) jdk_52_method_21_code (7 : Nat) (Option.some Jvm.ClassFile.FieldType.int), Jvm.Cond.code ({ cls := "java/lang/StringUTF16", name := "coderFromArrayLen", desc := "([BI)B" } : Jvm.MethodName) jdk_52_method_15_code (2 : Nat) (Option.some Jvm.ClassFile.FieldType.byte), Jvm.Cond.code ({ cls := "java/lang/String", name := "equals", desc := "(Ljava/lang/Object;)Z" } : Jvm.MethodName) jdk_42_method_66_code (3 : Nat) (Option.some Jvm.ClassFile.FieldType.boolean), Jvm.Cond.code ({ cls := "java/lang/StringLatin1", name := "equals", desc := "([B[B)Z" } : Jvm.MethodName) jdk_43_method_13_code (3 : Nat) (Option.some Jvm.ClassFile.FieldType.boolean), Jvm.Cond.code ({ cls := "java/lang/AbstractStringBuilder", name := "newCapacity", desc := "(I)I" } : Jvm.MethodName) jdk_68_method_10_code (6 : Nat) (Option.some Jvm.ClassFile.FieldType.int), Jvm.Cond.code ({ cls := "jdk/internal/util/ArraysSupport", name := "newLength", desc := "(III)I" } : Jvm.MethodName) jdk_48_method_27_code (4 : Nat) (Option.some Jvm.ClassFile.FieldType.int), Jvm.Cond.code ({ cls := "java/lang/Math", name := "max", desc := "(II)I" } : Jvm.MethodName) jdk_29_method_65_code (2 : Nat) (Option.some Jvm.ClassFile.FieldType.int), Jvm.Cond.code ({ cls := "java/util/Arrays", name := "copyOf", desc := "([BI)[B" } : Jvm.MethodName) jdk_65_method_121_code (3 : Nat) (Option.some (Jvm.ClassFile.FieldType.array Jvm.ClassFile.FieldType.byte)), Jvm.Cond.code ({ cls := "java/lang/String", name := "charAt", desc := "(I)C" } : Jvm.MethodName) jdk_42_method_56_code (2 : Nat) (Option.some Jvm.ClassFile.FieldType.char), Jvm.Cond.code ({ cls := "java/lang/String", name := "isLatin1", desc := "()Z" } : Jvm.MethodName) jdk_42_method_154_code (1 : Nat) (Option.some Jvm.ClassFile.FieldType.boolean), Jvm.Cond.code ({ cls := "java/lang/StringLatin1", name := "charAt", desc := "([BI)C" } : Jvm.MethodName) jdk_43_method_2_code (2 : Nat) (Option.some Jvm.ClassFile.FieldType.char), Jvm.Cond.code ({ cls := "java/lang/String", name := "checkIndex", desc := "(II)V" } : Jvm.MethodName) jdk_42_method_155_code (2 : Nat) (Option.none : Option Jvm.ClassFile.FieldType), Jvm.Cond.code ({ cls := "jdk/internal/util/Preconditions", name := "checkIndex", desc := "(IILjava/util/function/BiFunction;)I" } : Jvm.MethodName) jdk_41_method_11_code (3 : Nat) (Option.some Jvm.ClassFile.FieldType.int)]
set_option maxRecDepth 65536 in
theorem codes_eq : words1.filter isCode = codes1 := rfl
theorem w_codes : ∀ c ∈ words1.filter isCode, c.before args0 about1 = true := by
  rw [codes_eq]
  intro c hc
  simp only [codes1, List.mem_cons, List.not_mem_nil, or_false] at hc
  rcases hc with rfl | rfl | rfl | rfl | rfl | rfl | rfl | rfl | rfl | rfl | rfl | rfl | rfl | rfl | rfl | rfl | rfl | rfl | rfl | rfl | rfl | rfl | rfl | rfl | rfl | rfl | rfl | rfl | rfl | rfl | rfl | rfl | rfl | rfl | rfl | rfl | rfl | rfl | rfl | rfl | rfl | rfl | rfl | rfl
  · exact w_c0
  · exact w_c1
  · exact w_c2
  · exact w_c3
  · exact w_c4
  · exact w_c5
  · exact w_c6
  · exact w_c7
  · exact w_c8
  · exact w_c9
  · exact w_c10
  · exact w_c11
  · exact w_c12
  · exact w_c13
  · exact w_c14
  · exact w_c15
  · exact w_c16
  · exact w_c17
  · exact w_c18
  · exact w_c19
  · exact w_c20
  · exact w_c21
  · exact w_c22
  · exact w_c23
  · exact w_c24
  · exact w_c25
  · exact w_c26
  · exact w_c27
  · exact w_c28
  · exact w_c29
  · exact w_c30
  · exact w_c31
  · exact w_c32
  · exact w_c33
  · exact w_c34
  · exact w_c35
  · exact w_c36
  · exact w_c37
  · exact w_c38
  · exact w_c39
  · exact w_c40
  · exact w_c41
  · exact w_c42
  · exact w_c43
set_option maxRecDepth 65536 in
theorem w_t1 : (words1.take 24).all (fun c => isCode c || c.before args0 about1) = true := by decide +kernel
set_option maxRecDepth 65536 in
theorem w_t2 : ((words1.drop 24).take 24).all (fun c => isCode c || c.before args0 about1) = true := by decide +kernel
set_option maxRecDepth 65536 in
theorem w_t3 : (((words1.drop 24).drop 24).take 24).all (fun c => isCode c || c.before args0 about1) = true := by decide +kernel
set_option maxRecDepth 65536 in
theorem w_t4 : ((((words1.drop 24).drop 24).drop 24).take 24).all (fun c => isCode c || c.before args0 about1) = true := by decide +kernel
set_option maxRecDepth 65536 in
theorem w_t5 : (((((words1.drop 24).drop 24).drop 24).drop 24).take 24).all (fun c => isCode c || c.before args0 about1) = true := by decide +kernel
set_option maxRecDepth 65536 in
theorem w_t6 : ((((((words1.drop 24).drop 24).drop 24).drop 24).drop 24).take 24).all (fun c => isCode c || c.before args0 about1) = true := by decide +kernel
set_option maxRecDepth 65536 in
theorem w_t7 : (((((((words1.drop 24).drop 24).drop 24).drop 24).drop 24).drop 24).take 24).all (fun c => isCode c || c.before args0 about1) = true := by decide +kernel
set_option maxRecDepth 65536 in
theorem w_t8 : ((((((((words1.drop 24).drop 24).drop 24).drop 24).drop 24).drop 24).drop 24).take 24).all (fun c => isCode c || c.before args0 about1) = true := by decide +kernel
set_option maxRecDepth 65536 in
theorem w_t9 : (((((((((words1.drop 24).drop 24).drop 24).drop 24).drop 24).drop 24).drop 24).drop 24).take 24).all (fun c => isCode c || c.before args0 about1) = true := by decide +kernel
set_option maxRecDepth 65536 in
theorem w_t10 : (((((((((words1.drop 24).drop 24).drop 24).drop 24).drop 24).drop 24).drop 24).drop 24).drop 24).all (fun c => isCode c || c.before args0 about1) = true := by decide +kernel
theorem w_tables : (allAtoms (Jvm.Cond.code x code maxLocals ret :: tables_1)).before args0 about1 = true := by
  rw [allAtoms_all]
  show words1.all (fun c => c.before args0 about1) = true
  refine all_split ?_ w_codes
  rw [← List.take_append_drop 24 words1, List.all_append, w_t1, ← List.take_append_drop 24 (words1.drop 24), List.all_append, w_t2, ← List.take_append_drop 24 ((words1.drop 24).drop 24), List.all_append, w_t3, ← List.take_append_drop 24 (((words1.drop 24).drop 24).drop 24), List.all_append, w_t4, ← List.take_append_drop 24 ((((words1.drop 24).drop 24).drop 24).drop 24), List.all_append, w_t5, ← List.take_append_drop 24 (((((words1.drop 24).drop 24).drop 24).drop 24).drop 24), List.all_append, w_t6, ← List.take_append_drop 24 ((((((words1.drop 24).drop 24).drop 24).drop 24).drop 24).drop 24), List.all_append, w_t7, ← List.take_append_drop 24 (((((((words1.drop 24).drop 24).drop 24).drop 24).drop 24).drop 24).drop 24), List.all_append, w_t8, ← List.take_append_drop 24 ((((((((words1.drop 24).drop 24).drop 24).drop 24).drop 24).drop 24).drop 24).drop 24), List.all_append, w_t9, w_t10]
  rfl
set_option maxRecDepth 65536 in
theorem w_rest : rest_1_c.before args0 about1 = true := by decide +kernel
set_option maxRecDepth 65536 in
theorem w_case : (Jvm.Cond.and given_1 narrow_1).before args0 about1 = true := by decide +kernel
set_option maxRecDepth 65536 in
theorem w_consts : constsHeld consts_1 about1 := Jvm.Lit.constsHeldB_iff.mp (by decide +kernel)
theorem w_applies : (headSpec (Jvm.Cond.code x code maxLocals ret :: tables_1) room_1).applies x e0.platform about1 = true :=
  (Spec.applies_iff w_frames).mpr ⟨w_running, w_runnable, w_alone, w_named, w_hears, w_ripe, w_room, w_tables⟩
theorem atStart : AtStart classFile x code maxLocals ret World_1 tables_1 room_1 Calls_1 rest_1 Pre_1 launch0 p0 e0 about1 theMethod args0 below0 :=
  ⟨lists_1, trivial, launch0.admits_env _ _ _, launch0.least_env, fairChoices_fair.cas, fairChoices_fair.clock, w_frames, w_args, w_heap, w_applies, ⟨w_consts, trivial⟩, w_rest, w_case⟩
end start1
theorem witness_1 : WitnessClaimed_1 := ⟨start1.p0, start1.e0, start1.about1, start1.theMethod, start1.args0, start1.below0, start1.atStart⟩
end Jvm.Pilot.@@N@@
