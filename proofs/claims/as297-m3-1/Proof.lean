import JvmDerived
import JvmDerived.Pilot.@@N@@Statement
import JvmDerived.Pilot.@@N@@Code
set_option linter.unusedVariables false
set_option linter.unusedSimpArgs false
namespace Jvm.Pilot.@@N@@
namespace W
open Jvm Jvm.ClassFile Sem Op Lib Jvm.Free Jvm.Stand Jvm.LawKit Jvm.RoadKit Bundle

/-- how a method's end is booked: wide (it may have interned) or plain -/
def EndAt (w : Bool) (s : State) (o : Outcome) (t : State) (L : List Loc) (k n : Nat) : Prop := if w = true then ReturnedEndW s o t L k n else FrameEnd s o t L k n
/-- the address may be written: it is no held literal's cell -/
def Ok (Z : State) (EL : List (String × Nat)) (h : Heap) (sf : List Addr) (x : Addr) : Prop :=
  EL = [] ∨ x ∈ sf ∨ (∃ C, Exa Z h x C ∧ C ≠ "java/lang/String" ∧ C ≠ "[B") ∨ ∃ (cl : Cell) (ty : FieldType), Arr Z h x cl ty ∧ ty ≠ .byte
theorem Ok.safe {Z : State} {EL : List (String × Nat)} {h : Heap} {sf : List Addr} {x : Addr} {vm : Vm} (K : Ok Z EL h sf x) (hal : Z.vm.Alike vm) (S : ∀ y ∈ sf, y < h.size ∧ Safe Z EL vm h y) : Safe Z EL vm h x := by
  rcases K with rfl | q | ⟨C, E, h1, h2⟩ | ⟨cl, ty, A, h1⟩
  · rintro ⟨p, hp, -⟩; cases hp
  · exact (S x q).2
  · exact Safe.exa hal E h1 h2
  · exact Safe.arr hal A h1
/-- the walk stands at T, over the heap h; k cells and n slots are made; sf may be written -/
def St (w : Bool) (Z : State) (a0 : Array Value) (EL : List (String × Nat)) (y : MethodName) (bytes : ByteArray) (maxL : Nat) (ret : Option FieldType) (p : Program) (l : Launch) (e : Env) (R : Room) (s : State) (m : MethodId) (args : Array Value) (below : List Frame) (meth : Method) (c : Code) (T : State) (h : Heap) (sf : List Addr) (k n : Nat) : Prop :=
  (p.tables.exec = Jvm.exec ∧ c.code = bytes ∧ c.maxLocals = maxL ∧ meth.sig.returnType = ret ∧ meth.locks = false ∧ meth.name = y.name ∧ EW Z a0 EL) ∧
  ∃ (vm0 : Vm) (k0 : Nat) (locs : List Loc), Stand p l e R (s.setVm vm0) m args below meth c T locs k n ∧ T.heap = h ∧ s.Since vm0 k0 ∧ k0 ≤ h.size ∧ Z.Warmed39 vm0 ∧ vm0.findClass y.cls = some m.cls ∧ Fr Z.heap.size locs ∧ Ext Z.heap h ∧ (w = false → vm0 = s.vm ∧ EL = []) ∧ CHr Z EL s.vm s.heap vm0 h ∧ ∀ x ∈ sf, x < h.size ∧ Safe Z EL vm0 h x
/-- from here the method comes to its end as Q wants it -/
def Go (w : Bool) (Z : State) (EL : List (String × Nat)) (C N : Nat) (Q : Option Value → Heap → (Addr → Prop) → Prop) (p : Program) (e : Env) (s : State) (below : List Frame) (T : State) (g : JFrame) : Prop :=
  ∃ (s₂ : State) (o : Outcome), Steps p.tables e below (T.setTop g) s₂ ∧ s₂.status = .running ∧ Ended s₂ below o ∧ ∃ v L, o = .returned v ∧ (Fr Z.heap.size L ∧ Ext Z.heap s₂.heap ∧ CHr Z EL s.vm s.heap s₂.vm s₂.heap ∧ Q v s₂.heap (Safe Z EL s₂.vm s₂.heap)) ∧ EndAt w s o s₂ L C N
/-- a method's contract, at arguments and a heap that are known -/
def Ct (w : Bool) (Z : State) (a0 : Array Value) (EL : List (String × Nat)) (l : Launch) (y : MethodName) (bytes : ByteArray) (maxL : Nat) (ret : Option FieldType) (rm : Room) (as : Array Value) (h0 : Heap) (sf0 : List Addr) (Q : Option Value → Heap → (Addr → Prop) → Prop) : Prop :=
  ∀ ws : List Jvm.Cond, EW Z a0 EL → Ext Z.heap h0 → MetFree l y (head1 (Cond.code y bytes maxL ret :: ws) rm) (fun a U => a = as ∧ Z.Warmed39 U.vm ∧ U.heap = h0 ∧ CHv Z EL U.vm h0 ∧ ∀ x ∈ sf0, x < h0.size ∧ Safe Z EL U.vm h0 x) (fun _ _ _ _ _ => True)
    (fun _ U o U' => ∃ v L, o = .returned v ∧ (Fr Z.heap.size L ∧ Ext Z.heap U'.heap ∧ CHr Z EL U.vm U.heap U'.vm U'.heap ∧ Q v U'.heap (Safe Z EL U'.vm U'.heap)) ∧ EndAt w U o U' L rm.cells rm.slots)

section
variable {w : Bool} {Z : State} {a0 : Array Value} {EL : List (String × Nat)} {y : MethodName} {bytes : ByteArray} {maxL : Nat} {ret : Option FieldType} {p : Program} {l : Launch} {e : Env} {R : Room} {s : State} {m : MethodId} {args : Array Value} {below : List Frame} {meth : Method} {c : Code} {T : State} {h : Heap} {sf : List Addr} {k n C N : Nat} {Q : Option Value → Heap → (Addr → Prop) → Prop} {rm : Room} {as : Array Value} {h0 : Heap} {sf0 : List Addr}

theorem Ct.walk (hwe : w = false → EL = []) (hpl : plainFor y = true) (body : ∀ (p : Program) (e : Env) (s : State) (m : MethodId) (below : List Frame) (meth : Method) (c : Code) (T : State), Ext Z.heap h0 → St w Z a0 EL y bytes maxL ret p l e rm s m as below meth c T h0 sf0 0 0 → Go w Z EL rm.cells rm.slots Q p e s below T (entryFrame m as maxL)) :
    Ct w Z a0 EL l y bytes maxL ret rm as h0 sf0 Q := by
  intro ws hEW hext
  refine MetFree.of_bodySF hpl hisR ?_
  intro p e s m args below meth c s₁ Bd hml hP hK
  obtain ⟨rfl, hZ, hh, hcv, hsf⟩ := hP
  have X0 : Stand p l e rm s m args below meth c s₁ [] 0 0 := Stand.of_body Bd
  have e0 : s₁.heap = h0 := by rw [← hh, Bd.state]; rfl
  refine body p e s m below meth c s₁ hext ⟨⟨Bd.exec, Bd.bytes, hml, Bd.returns, Bd.notSynchronized, (name_of_methodNamed Bd.named Bd.method).1, hEW⟩, s.vm, 0, [], X0, e0, ?_, Nat.zero_le _, hZ, findClass_of_methodNamed Bd.named, Fr.nil _, hext, fun q => ⟨rfl, hwe q⟩, ?_, hsf⟩
  · exact (State.WarmedH.refl s).since 0
  · rw [hh]; exact CHr.refl hcv

/-- a step that leaves the state as it is but for the top frame -/
theorem ps (X : St w Z a0 EL y bytes maxL ret p l e R s m args below meth c T h sf k n) {g g' : JFrame} (f : At T m c below → p.tables.exec = Jvm.exec → c.code = bytes → ∀ target, Steps p.tables e below (T.setTop g') target → Steps p.tables e below (T.setTop g) target) (kk : Go w Z EL C N Q p e s below T g') : Go w Z EL C N Q p e s below T g := by
  obtain ⟨⟨hx, hby, -⟩, vm0, k0, locs, X0, -⟩ := X
  obtain ⟨s₂, o, hs, r⟩ := kk
  exact ⟨s₂, o, f X0.here hx hby _ hs, r⟩
theorem castG {g g' : JFrame} (q : g = g') (kk : Go w Z EL C N Q p e s below T g') : Go w Z EL C N Q p e s below T g := q ▸ kk
theorem o_aloadN (X : St w Z a0 EL y bytes maxL ret p l e R s m args below meth c T h sf k n) {pc pc' : Nat} {L : Array Slot} {S : List Value} {i : Fin 4} {v : Value} (hd : decode bytes pc = .ok (.aload_n i, 1)) (hp : pc + 1 = pc') (hl : L[i.val]? = some (.val v)) (hv : v.isRef = true) (kk : Go w Z EL C N Q p e s below T (mkF m pc' L (v :: S))) : Go w Z EL C N Q p e s below T (mkF m pc L S) := by
  subst hp
  exact ps X (fun H hx hby _ q => XS.aloadN H hx rfl (hb hby hd) hl hv q) kk
theorem o_aload (X : St w Z a0 EL y bytes maxL ret p l e R s m args below meth c T h sf k n) {pc pc' : Nat} {L : Array Slot} {S : List Value} {i : Nat} {v : Value} (hd : decode bytes pc = .ok (.aload i, 2)) (hp : pc + 2 = pc') (hl : L[i]? = some (.val v)) (hv : v.isRef = true) (kk : Go w Z EL C N Q p e s below T (mkF m pc' L (v :: S))) : Go w Z EL C N Q p e s below T (mkF m pc L S) := by
  subst hp
  exact ps X (fun H hx hby _ q => XS.aload H hx rfl (hb hby hd) hl hv q) kk
theorem o_iloadN (X : St w Z a0 EL y bytes maxL ret p l e R s m args below meth c T h sf k n) {pc pc' : Nat} {L : Array Slot} {S : List Value} {i : Fin 4} {v : Int32} (hd : decode bytes pc = .ok (.iload_n i, 1)) (hp : pc + 1 = pc') (hl : L[i.val]? = some (.val (.int v))) (kk : Go w Z EL C N Q p e s below T (mkF m pc' L (.int v :: S))) : Go w Z EL C N Q p e s below T (mkF m pc L S) := by
  subst hp
  exact ps X (fun H hx hby _ q => XS.iloadN H hx rfl (hb hby hd) hl q) kk
theorem o_iload (X : St w Z a0 EL y bytes maxL ret p l e R s m args below meth c T h sf k n) {pc pc' : Nat} {L : Array Slot} {S : List Value} {i : Nat} {v : Int32} (hd : decode bytes pc = .ok (.iload i, 2)) (hp : pc + 2 = pc') (hl : L[i]? = some (.val (.int v))) (kk : Go w Z EL C N Q p e s below T (mkF m pc' L (.int v :: S))) : Go w Z EL C N Q p e s below T (mkF m pc L S) := by
  subst hp
  exact ps X (fun H hx hby _ q => XS.iload H hx rfl (hb hby hd) hl q) kk
theorem o_lloadN (X : St w Z a0 EL y bytes maxL ret p l e R s m args below meth c T h sf k n) {pc pc' : Nat} {L : Array Slot} {S : List Value} {i : Fin 4} {v : Int64} (hd : decode bytes pc = .ok (.lload_n i, 1)) (hp : pc + 1 = pc') (hl : L[i.val]? = some (.val (.long v))) (kk : Go w Z EL C N Q p e s below T (mkF m pc' L (.long v :: S))) : Go w Z EL C N Q p e s below T (mkF m pc L S) := by
  subst hp
  exact ps X (fun H hx hby _ q => XS.lloadN H hx rfl (hb hby hd) hl q) kk
theorem o_lload (X : St w Z a0 EL y bytes maxL ret p l e R s m args below meth c T h sf k n) {pc pc' : Nat} {L : Array Slot} {S : List Value} {i : Nat} {v : Int64} (hd : decode bytes pc = .ok (.lload i, 2)) (hp : pc + 2 = pc') (hl : L[i]? = some (.val (.long v))) (kk : Go w Z EL C N Q p e s below T (mkF m pc' L (.long v :: S))) : Go w Z EL C N Q p e s below T (mkF m pc L S) := by
  subst hp
  exact ps X (fun H hx hby _ q => XS.lload H hx rfl (hb hby hd) hl q) kk
theorem o_istoreN (X : St w Z a0 EL y bytes maxL ret p l e R s m args below meth c T h sf k n) {pc pc' : Nat} {L : Array Slot} {S : List Value} {i : Fin 4} {v : Int32} {L' : Array Slot} (hd : decode bytes pc = .ok (.istore_n i, 1)) (hp : pc + 1 = pc') (hl : storeLocals L i.val (.int v) = some L') (kk : Go w Z EL C N Q p e s below T (mkF m pc' L' S)) : Go w Z EL C N Q p e s below T (mkF m pc L (.int v :: S)) := by
  subst hp
  exact ps X (fun H hx hby _ q => XS.istoreN H hx rfl (hb hby hd) rfl hl q) kk
theorem o_istore (X : St w Z a0 EL y bytes maxL ret p l e R s m args below meth c T h sf k n) {pc pc' : Nat} {L : Array Slot} {S : List Value} {i : Nat} {v : Int32} {L' : Array Slot} (hd : decode bytes pc = .ok (.istore i, 2)) (hp : pc + 2 = pc') (hl : storeLocals L i (.int v) = some L') (kk : Go w Z EL C N Q p e s below T (mkF m pc' L' S)) : Go w Z EL C N Q p e s below T (mkF m pc L (.int v :: S)) := by
  subst hp
  exact ps X (fun H hx hby _ q => XS.istore H hx rfl (hb hby hd) rfl hl q) kk
theorem o_lstoreN (X : St w Z a0 EL y bytes maxL ret p l e R s m args below meth c T h sf k n) {pc pc' : Nat} {L : Array Slot} {S : List Value} {i : Fin 4} {v : Int64} {L' : Array Slot} (hd : decode bytes pc = .ok (.lstore_n i, 1)) (hp : pc + 1 = pc') (hl : storeLocals L i.val (.long v) = some L') (kk : Go w Z EL C N Q p e s below T (mkF m pc' L' S)) : Go w Z EL C N Q p e s below T (mkF m pc L (.long v :: S)) := by
  subst hp
  exact ps X (fun H hx hby _ q => XS.lstoreN H hx rfl (hb hby hd) rfl hl q) kk
theorem o_lstore (X : St w Z a0 EL y bytes maxL ret p l e R s m args below meth c T h sf k n) {pc pc' : Nat} {L : Array Slot} {S : List Value} {i : Nat} {v : Int64} {L' : Array Slot} (hd : decode bytes pc = .ok (.lstore i, 2)) (hp : pc + 2 = pc') (hl : storeLocals L i (.long v) = some L') (kk : Go w Z EL C N Q p e s below T (mkF m pc' L' S)) : Go w Z EL C N Q p e s below T (mkF m pc L (.long v :: S)) := by
  subst hp
  exact ps X (fun H hx hby _ q => XS.lstore H hx rfl (hb hby hd) rfl hl q) kk
theorem o_astoreN (X : St w Z a0 EL y bytes maxL ret p l e R s m args below meth c T h sf k n) {pc pc' : Nat} {L : Array Slot} {S : List Value} {i : Fin 4} {v : Value} {L' : Array Slot} (hd : decode bytes pc = .ok (.astore_n i, 1)) (hp : pc + 1 = pc') (hl : storeLocals L i.val v = some L') (hv : v.isRef = true) (kk : Go w Z EL C N Q p e s below T (mkF m pc' L' S)) : Go w Z EL C N Q p e s below T (mkF m pc L (v :: S)) := by
  subst hp
  exact ps X (fun H hx hby _ q => XS.astoreN H hx rfl (hb hby hd) rfl hv hl q) kk
theorem o_astore (X : St w Z a0 EL y bytes maxL ret p l e R s m args below meth c T h sf k n) {pc pc' : Nat} {L : Array Slot} {S : List Value} {i : Nat} {v : Value} {L' : Array Slot} (hd : decode bytes pc = .ok (.astore i, 2)) (hp : pc + 2 = pc') (hl : storeLocals L i v = some L') (hv : v.isRef = true) (kk : Go w Z EL C N Q p e s below T (mkF m pc' L' S)) : Go w Z EL C N Q p e s below T (mkF m pc L (v :: S)) := by
  subst hp
  exact ps X (fun H hx hby _ q => XS.astore H hx rfl (hb hby hd) rfl hv hl q) kk
theorem o_iconst (X : St w Z a0 EL y bytes maxL ret p l e R s m args below meth c T h sf k n) {pc pc' : Nat} {L : Array Slot} {S : List Value} {i : Int} (v : Int32) (hd : decode bytes pc = .ok (.iconst i, 1)) (hp : pc + 1 = pc') (hv : Int32.ofInt i = v) (kk : Go w Z EL C N Q p e s below T (mkF m pc' L (.int v :: S))) : Go w Z EL C N Q p e s below T (mkF m pc L S) := by
  subst hp
  exact ps X (fun H hx hby _ q => XT.iconstV H hx rfl v (hb hby hd) hv q) kk
theorem o_bipush (X : St w Z a0 EL y bytes maxL ret p l e R s m args below meth c T h sf k n) {pc pc' : Nat} {L : Array Slot} {S : List Value} {i : Int} (v : Int32) (hd : decode bytes pc = .ok (.bipush i, 2)) (hp : pc + 2 = pc') (hv : (Int8.ofInt i).toInt32 = v) (kk : Go w Z EL C N Q p e s below T (mkF m pc' L (.int v :: S))) : Go w Z EL C N Q p e s below T (mkF m pc L S) := by
  subst hp
  exact ps X (fun H hx hby _ q => XT.bipushV H hx rfl v (hb hby hd) hv q) kk
theorem o_sipush (X : St w Z a0 EL y bytes maxL ret p l e R s m args below meth c T h sf k n) {pc pc' : Nat} {L : Array Slot} {S : List Value} {i : Int} (v : Int32) (hd : decode bytes pc = .ok (.sipush i, 3)) (hp : pc + 3 = pc') (hv : (Int16.ofInt i).toInt32 = v) (kk : Go w Z EL C N Q p e s below T (mkF m pc' L (.int v :: S))) : Go w Z EL C N Q p e s below T (mkF m pc L S) := by
  subst hp
  exact ps X (fun H hx hby _ q => XT.sipushV H hx rfl v (hb hby hd) hv q) kk
theorem o_lconst (X : St w Z a0 EL y bytes maxL ret p l e R s m args below meth c T h sf k n) {pc pc' : Nat} {L : Array Slot} {S : List Value} {i : Fin 2} (v : Int64) (hd : decode bytes pc = .ok (.lconst i, 1)) (hp : pc + 1 = pc') (hv : Int64.ofNat i = v) (kk : Go w Z EL C N Q p e s below T (mkF m pc' L (.long v :: S))) : Go w Z EL C N Q p e s below T (mkF m pc L S) := by
  subst hp
  exact ps X (fun H hx hby _ q => XT.lconstV H hx rfl v (hb hby hd) hv q) kk
theorem o_aconst_null (X : St w Z a0 EL y bytes maxL ret p l e R s m args below meth c T h sf k n) {pc pc' : Nat} {L : Array Slot} {S : List Value}  (hd : decode bytes pc = .ok (.aconst_null, 1)) (hp : pc + 1 = pc')  (kk : Go w Z EL C N Q p e s below T (mkF m pc' L (.null :: S))) : Go w Z EL C N Q p e s below T (mkF m pc L S) := by
  subst hp
  exact ps X (fun H hx hby _ q => XS.aconstNull H hx rfl (hb hby hd)  q) kk
theorem o_iadd (X : St w Z a0 EL y bytes maxL ret p l e R s m args below meth c T h sf k n) {pc pc' : Nat} {L : Array Slot} {S : List Value} {x z : Int32} (hd : decode bytes pc = .ok (.iadd, 1)) (hp : pc + 1 = pc')  (kk : Go w Z EL C N Q p e s below T (mkF m pc' L (.int (x + z) :: S))) : Go w Z EL C N Q p e s below T (mkF m pc L (.int z :: .int x :: S)) := by
  subst hp
  exact ps X (fun H hx hby _ q => XS.iadd H hx rfl (hb hby hd) rfl q) kk
theorem o_ladd (X : St w Z a0 EL y bytes maxL ret p l e R s m args below meth c T h sf k n) {pc pc' : Nat} {L : Array Slot} {S : List Value} {x z : Int64} (hd : decode bytes pc = .ok (.ladd, 1)) (hp : pc + 1 = pc')  (kk : Go w Z EL C N Q p e s below T (mkF m pc' L (.long (x + z) :: S))) : Go w Z EL C N Q p e s below T (mkF m pc L (.long z :: .long x :: S)) := by
  subst hp
  exact ps X (fun H hx hby _ q => XS.ladd H hx rfl (hb hby hd) rfl q) kk
theorem o_isub (X : St w Z a0 EL y bytes maxL ret p l e R s m args below meth c T h sf k n) {pc pc' : Nat} {L : Array Slot} {S : List Value} {x z : Int32} (hd : decode bytes pc = .ok (.isub, 1)) (hp : pc + 1 = pc')  (kk : Go w Z EL C N Q p e s below T (mkF m pc' L (.int (x - z) :: S))) : Go w Z EL C N Q p e s below T (mkF m pc L (.int z :: .int x :: S)) := by
  subst hp
  exact ps X (fun H hx hby _ q => XS.isub H hx rfl (hb hby hd) rfl q) kk
theorem o_lsub (X : St w Z a0 EL y bytes maxL ret p l e R s m args below meth c T h sf k n) {pc pc' : Nat} {L : Array Slot} {S : List Value} {x z : Int64} (hd : decode bytes pc = .ok (.lsub, 1)) (hp : pc + 1 = pc')  (kk : Go w Z EL C N Q p e s below T (mkF m pc' L (.long (x - z) :: S))) : Go w Z EL C N Q p e s below T (mkF m pc L (.long z :: .long x :: S)) := by
  subst hp
  exact ps X (fun H hx hby _ q => XS.lsub H hx rfl (hb hby hd) rfl q) kk
theorem o_imul (X : St w Z a0 EL y bytes maxL ret p l e R s m args below meth c T h sf k n) {pc pc' : Nat} {L : Array Slot} {S : List Value} {x z : Int32} (hd : decode bytes pc = .ok (.imul, 1)) (hp : pc + 1 = pc')  (kk : Go w Z EL C N Q p e s below T (mkF m pc' L (.int (x * z) :: S))) : Go w Z EL C N Q p e s below T (mkF m pc L (.int z :: .int x :: S)) := by
  subst hp
  exact ps X (fun H hx hby _ q => XS.imul H hx rfl (hb hby hd) rfl q) kk
theorem o_lmul (X : St w Z a0 EL y bytes maxL ret p l e R s m args below meth c T h sf k n) {pc pc' : Nat} {L : Array Slot} {S : List Value} {x z : Int64} (hd : decode bytes pc = .ok (.lmul, 1)) (hp : pc + 1 = pc')  (kk : Go w Z EL C N Q p e s below T (mkF m pc' L (.long (x * z) :: S))) : Go w Z EL C N Q p e s below T (mkF m pc L (.long z :: .long x :: S)) := by
  subst hp
  exact ps X (fun H hx hby _ q => XS.lmul H hx rfl (hb hby hd) rfl q) kk
theorem o_iand (X : St w Z a0 EL y bytes maxL ret p l e R s m args below meth c T h sf k n) {pc pc' : Nat} {L : Array Slot} {S : List Value} {x z : Int32} (hd : decode bytes pc = .ok (.iand, 1)) (hp : pc + 1 = pc')  (kk : Go w Z EL C N Q p e s below T (mkF m pc' L (.int (x &&& z) :: S))) : Go w Z EL C N Q p e s below T (mkF m pc L (.int z :: .int x :: S)) := by
  subst hp
  exact ps X (fun H hx hby _ q => XS.iand H hx rfl (hb hby hd) rfl q) kk
theorem o_land (X : St w Z a0 EL y bytes maxL ret p l e R s m args below meth c T h sf k n) {pc pc' : Nat} {L : Array Slot} {S : List Value} {x z : Int64} (hd : decode bytes pc = .ok (.land, 1)) (hp : pc + 1 = pc')  (kk : Go w Z EL C N Q p e s below T (mkF m pc' L (.long (x &&& z) :: S))) : Go w Z EL C N Q p e s below T (mkF m pc L (.long z :: .long x :: S)) := by
  subst hp
  exact ps X (fun H hx hby _ q => XS.land H hx rfl (hb hby hd) rfl q) kk
theorem o_ior (X : St w Z a0 EL y bytes maxL ret p l e R s m args below meth c T h sf k n) {pc pc' : Nat} {L : Array Slot} {S : List Value} {x z : Int32} (hd : decode bytes pc = .ok (.ior, 1)) (hp : pc + 1 = pc')  (kk : Go w Z EL C N Q p e s below T (mkF m pc' L (.int (x ||| z) :: S))) : Go w Z EL C N Q p e s below T (mkF m pc L (.int z :: .int x :: S)) := by
  subst hp
  exact ps X (fun H hx hby _ q => XS.ior H hx rfl (hb hby hd) rfl q) kk
theorem o_lor (X : St w Z a0 EL y bytes maxL ret p l e R s m args below meth c T h sf k n) {pc pc' : Nat} {L : Array Slot} {S : List Value} {x z : Int64} (hd : decode bytes pc = .ok (.lor, 1)) (hp : pc + 1 = pc')  (kk : Go w Z EL C N Q p e s below T (mkF m pc' L (.long (x ||| z) :: S))) : Go w Z EL C N Q p e s below T (mkF m pc L (.long z :: .long x :: S)) := by
  subst hp
  exact ps X (fun H hx hby _ q => XS.lor H hx rfl (hb hby hd) rfl q) kk
theorem o_ixor (X : St w Z a0 EL y bytes maxL ret p l e R s m args below meth c T h sf k n) {pc pc' : Nat} {L : Array Slot} {S : List Value} {x z : Int32} (hd : decode bytes pc = .ok (.ixor, 1)) (hp : pc + 1 = pc')  (kk : Go w Z EL C N Q p e s below T (mkF m pc' L (.int (x ^^^ z) :: S))) : Go w Z EL C N Q p e s below T (mkF m pc L (.int z :: .int x :: S)) := by
  subst hp
  exact ps X (fun H hx hby _ q => XS.ixor H hx rfl (hb hby hd) rfl q) kk
theorem o_lxor (X : St w Z a0 EL y bytes maxL ret p l e R s m args below meth c T h sf k n) {pc pc' : Nat} {L : Array Slot} {S : List Value} {x z : Int64} (hd : decode bytes pc = .ok (.lxor, 1)) (hp : pc + 1 = pc')  (kk : Go w Z EL C N Q p e s below T (mkF m pc' L (.long (x ^^^ z) :: S))) : Go w Z EL C N Q p e s below T (mkF m pc L (.long z :: .long x :: S)) := by
  subst hp
  exact ps X (fun H hx hby _ q => XS.lxor H hx rfl (hb hby hd) rfl q) kk
theorem o_ishl (X : St w Z a0 EL y bytes maxL ret p l e R s m args below meth c T h sf k n) {pc pc' : Nat} {L : Array Slot} {S : List Value} {x z : Int32} (hd : decode bytes pc = .ok (.ishl, 1)) (hp : pc + 1 = pc')  (kk : Go w Z EL C N Q p e s below T (mkF m pc' L (.int (x <<< (z &&& 31)) :: S))) : Go w Z EL C N Q p e s below T (mkF m pc L (.int z :: .int x :: S)) := by
  subst hp
  exact ps X (fun H hx hby _ q => XS.ishl H hx rfl (hb hby hd) rfl q) kk
theorem o_ishr (X : St w Z a0 EL y bytes maxL ret p l e R s m args below meth c T h sf k n) {pc pc' : Nat} {L : Array Slot} {S : List Value} {x z : Int32} (hd : decode bytes pc = .ok (.ishr, 1)) (hp : pc + 1 = pc')  (kk : Go w Z EL C N Q p e s below T (mkF m pc' L (.int (x >>> (z &&& 31)) :: S))) : Go w Z EL C N Q p e s below T (mkF m pc L (.int z :: .int x :: S)) := by
  subst hp
  exact ps X (fun H hx hby _ q => XS.ishr H hx rfl (hb hby hd) rfl q) kk
theorem o_iushr (X : St w Z a0 EL y bytes maxL ret p l e R s m args below meth c T h sf k n) {pc pc' : Nat} {L : Array Slot} {S : List Value} {x z : Int32} (hd : decode bytes pc = .ok (.iushr, 1)) (hp : pc + 1 = pc')  (kk : Go w Z EL C N Q p e s below T (mkF m pc' L (.int ((x.toUInt32 >>> (z &&& 31).toUInt32).toInt32) :: S))) : Go w Z EL C N Q p e s below T (mkF m pc L (.int z :: .int x :: S)) := by
  subst hp
  exact ps X (fun H hx hby _ q => XS.iushr H hx rfl (hb hby hd) rfl q) kk
theorem o_idiv (X : St w Z a0 EL y bytes maxL ret p l e R s m args below meth c T h sf k n) {pc pc' : Nat} {L : Array Slot} {S : List Value} {x z : Int32} (hd : decode bytes pc = .ok (.idiv, 1)) (hp : pc + 1 = pc') (hz : z ≠ 0) (kk : Go w Z EL C N Q p e s below T (mkF m pc' L (.int (x / z) :: S))) : Go w Z EL C N Q p e s below T (mkF m pc L (.int z :: .int x :: S)) := by
  subst hp
  exact ps X (fun H hx hby _ q => XS.idiv H hx rfl (hb hby hd) rfl hz q) kk
theorem o_ineg (X : St w Z a0 EL y bytes maxL ret p l e R s m args below meth c T h sf k n) {pc pc' : Nat} {L : Array Slot} {S : List Value} {x : Int32} (hd : decode bytes pc = .ok (.ineg, 1)) (hp : pc + 1 = pc')  (kk : Go w Z EL C N Q p e s below T (mkF m pc' L (.int (-x) :: S))) : Go w Z EL C N Q p e s below T (mkF m pc L (.int x :: S)) := by
  subst hp
  exact ps X (fun H hx hby _ q => XS.ineg H hx rfl (hb hby hd) rfl q) kk
theorem o_i2c (X : St w Z a0 EL y bytes maxL ret p l e R s m args below meth c T h sf k n) {pc pc' : Nat} {L : Array Slot} {S : List Value} {x : Int32} (hd : decode bytes pc = .ok (.i2c, 1)) (hp : pc + 1 = pc')  (kk : Go w Z EL C N Q p e s below T (mkF m pc' L (.int (x.toUInt32.toUInt16.toUInt32.toInt32) :: S))) : Go w Z EL C N Q p e s below T (mkF m pc L (.int x :: S)) := by
  subst hp
  exact ps X (fun H hx hby _ q => XS.i2c H hx rfl (hb hby hd) rfl q) kk
theorem o_i2b (X : St w Z a0 EL y bytes maxL ret p l e R s m args below meth c T h sf k n) {pc pc' : Nat} {L : Array Slot} {S : List Value} {x : Int32} (hd : decode bytes pc = .ok (.i2b, 1)) (hp : pc + 1 = pc')  (kk : Go w Z EL C N Q p e s below T (mkF m pc' L (.int (x.toInt8.toInt32) :: S))) : Go w Z EL C N Q p e s below T (mkF m pc L (.int x :: S)) := by
  subst hp
  exact ps X (fun H hx hby _ q => XS.i2b H hx rfl (hb hby hd) rfl q) kk
theorem o_i2s (X : St w Z a0 EL y bytes maxL ret p l e R s m args below meth c T h sf k n) {pc pc' : Nat} {L : Array Slot} {S : List Value} {x : Int32} (hd : decode bytes pc = .ok (.i2s, 1)) (hp : pc + 1 = pc')  (kk : Go w Z EL C N Q p e s below T (mkF m pc' L (.int (x.toInt16.toInt32) :: S))) : Go w Z EL C N Q p e s below T (mkF m pc L (.int x :: S)) := by
  subst hp
  exact ps X (fun H hx hby _ q => XS.i2s H hx rfl (hb hby hd) rfl q) kk
theorem o_i2l (X : St w Z a0 EL y bytes maxL ret p l e R s m args below meth c T h sf k n) {pc pc' : Nat} {L : Array Slot} {S : List Value} {x : Int32} (hd : decode bytes pc = .ok (.i2l, 1)) (hp : pc + 1 = pc')  (kk : Go w Z EL C N Q p e s below T (mkF m pc' L (.long (x.toInt64) :: S))) : Go w Z EL C N Q p e s below T (mkF m pc L (.int x :: S)) := by
  subst hp
  exact ps X (fun H hx hby _ q => XS.i2l H hx rfl (hb hby hd) rfl q) kk
theorem o_l2i (X : St w Z a0 EL y bytes maxL ret p l e R s m args below meth c T h sf k n) {pc pc' : Nat} {L : Array Slot} {S : List Value} {x : Int64} (hd : decode bytes pc = .ok (.l2i, 1)) (hp : pc + 1 = pc')  (kk : Go w Z EL C N Q p e s below T (mkF m pc' L (.int (x.toInt32) :: S))) : Go w Z EL C N Q p e s below T (mkF m pc L (.long x :: S)) := by
  subst hp
  exact ps X (fun H hx hby _ q => XS.l2i H hx rfl (hb hby hd) rfl q) kk
theorem o_lcmp (X : St w Z a0 EL y bytes maxL ret p l e R s m args below meth c T h sf k n) {pc pc' : Nat} {L : Array Slot} {S : List Value} {x z : Int64} (hd : decode bytes pc = .ok (.lcmp, 1)) (hp : pc + 1 = pc')  (kk : Go w Z EL C N Q p e s below T (mkF m pc' L (.int (XT.cmpL x z) :: S))) : Go w Z EL C N Q p e s below T (mkF m pc L (.long z :: .long x :: S)) := by
  subst hp
  exact ps X (fun H hx hby _ q => XT.lcmp H hx rfl (hb hby hd) rfl q) kk
theorem o_dup (X : St w Z a0 EL y bytes maxL ret p l e R s m args below meth c T h sf k n) {pc pc' : Nat} {L : Array Slot} {S : List Value} {v : Value} (hd : decode bytes pc = .ok (.dup, 1)) (hp : pc + 1 = pc') (hv : v.category = 1) (kk : Go w Z EL C N Q p e s below T (mkF m pc' L (v :: v :: S))) : Go w Z EL C N Q p e s below T (mkF m pc L (v :: S)) := by
  subst hp
  exact ps X (fun H hx hby _ q => XS.dup H hx rfl (hb hby hd) rfl hv q) kk
theorem o_pop (X : St w Z a0 EL y bytes maxL ret p l e R s m args below meth c T h sf k n) {pc pc' : Nat} {L : Array Slot} {S : List Value} {v : Value} (hd : decode bytes pc = .ok (.pop, 1)) (hp : pc + 1 = pc') (hv : v.category = 1) (kk : Go w Z EL C N Q p e s below T (mkF m pc' L S)) : Go w Z EL C N Q p e s below T (mkF m pc L (v :: S)) := by
  subst hp
  exact ps X (fun H hx hby _ q => XS.pop H hx rfl (hb hby hd) rfl hv q) kk
theorem o_dup_x1 (X : St w Z a0 EL y bytes maxL ret p l e R s m args below meth c T h sf k n) {pc pc' : Nat} {L : Array Slot} {S : List Value} {u v : Value} (hd : decode bytes pc = .ok (.dup_x1, 1)) (hp : pc + 1 = pc') (hu : u.category = 1) (hv : v.category = 1) (kk : Go w Z EL C N Q p e s below T (mkF m pc' L (u :: v :: u :: S))) : Go w Z EL C N Q p e s below T (mkF m pc L (u :: v :: S)) := by
  subst hp
  exact ps X (fun H hx hby _ q => XT.dupX1 H hx rfl (hb hby hd) rfl hu hv q) kk
theorem o_dup2 (X : St w Z a0 EL y bytes maxL ret p l e R s m args below meth c T h sf k n) {pc pc' : Nat} {L : Array Slot} {S : List Value} {u v : Value} (hd : decode bytes pc = .ok (.dup2, 1)) (hp : pc + 1 = pc') (hu : u.category = 1) (hv : v.category = 1) (kk : Go w Z EL C N Q p e s below T (mkF m pc' L (u :: v :: u :: v :: S))) : Go w Z EL C N Q p e s below T (mkF m pc L (u :: v :: S)) := by
  subst hp
  exact ps X (fun H hx hby _ q => XT.dup2 H hx rfl (hb hby hd) rfl hu hv q) kk
theorem o_iinc (X : St w Z a0 EL y bytes maxL ret p l e R s m args below meth c T h sf k n) {pc pc' : Nat} {L : Array Slot} {S : List Value} {i : Nat} {cst : Int} {x : Int32} {L' : Array Slot} (v : Int32) (hd : decode bytes pc = .ok (.iinc i cst, 3)) (hp : pc + 3 = pc') (hv : Int32.ofInt cst = v) (hl : L[i]? = some (.val (.int x))) (hl' : storeLocals L i (.int (x + v)) = some L') (kk : Go w Z EL C N Q p e s below T (mkF m pc' L' S)) : Go w Z EL C N Q p e s below T (mkF m pc L S) := by
  subst hp
  exact ps X (fun H hx hby _ q => XS.iinc H hx rfl (hb hby hd) hl (by rw [hv]; exact hl') q) kk
theorem o_irem (X : St w Z a0 EL y bytes maxL ret p l e R s m args below meth c T h sf k n) {pc pc' : Nat} {L : Array Slot} {S : List Value} {x z : Int32} (hd : decode bytes pc = .ok (.irem, 1)) (hp : pc + 1 = pc') (hz : z ≠ 0) (kk : Go w Z EL C N Q p e s below T (mkF m pc' L (.int (x % z) :: S))) : Go w Z EL C N Q p e s below T (mkF m pc L (.int z :: .int x :: S)) := by
  subst hp
  exact ps X (fun H hx hby _ q => XS.irem H hx rfl (hb hby hd) rfl hz (by rw [irem_eq_mod]; exact q)) kk
theorem o_goto (X : St w Z a0 EL y bytes maxL ret p l e R s m args below meth c T h sf k n) {pc pc' : Nat} {L : Array Slot} {S : List Value} {o : Int} (hd : decode bytes pc = .ok (.goto o, 3)) (hp : 0 ≤ (pc : Int) + o ∧ ((pc : Int) + o).toNat = pc') (kk : Go w Z EL C N Q p e s below T (mkF m pc' L S)) : Go w Z EL C N Q p e s below T (mkF m pc L S) :=
  ps X (fun H hx hby _ q => XS.goto H hx rfl (pc0 := pc) rfl (hb hby hd) hp.1 hp.2 q) kk
theorem o_if_icmpeq (X : St w Z a0 EL y bytes maxL ret p l e R s m args below meth c T h sf k n) {pc pt pf : Nat} {L : Array Slot} {S : List Value} {x z : Int32} {o : Int} (hd : decode bytes pc = .ok (.if_icmp .eq o, 3)) (hp : 0 ≤ (pc : Int) + o ∧ ((pc : Int) + o).toNat = pt) (hf : pc + 3 = pf) (kt : x = z → Go w Z EL C N Q p e s below T (mkF m pt L S)) (kf : ¬ x = z → Go w Z EL C N Q p e s below T (mkF m pf L S)) : Go w Z EL C N Q p e s below T (mkF m pc L (.int z :: .int x :: S)) := by
  subst hf
  by_cases hc : x = z
  · exact ps X (fun H hx hby _ q => XS.icmpYes H hx rfl (pc0 := pc) rfl (hb hby hd) rfl (XT.ii_eq_t hc) hp.1 hp.2 q) (kt hc)
  · exact ps X (fun H hx hby _ q => XS.icmpNo H hx rfl (hb hby hd) rfl (XT.ii_eq_f hc) q) (kf hc)
theorem o_ifeq (X : St w Z a0 EL y bytes maxL ret p l e R s m args below meth c T h sf k n) {pc pt pf : Nat} {L : Array Slot} {S : List Value} {x : Int32} {o : Int} (hd : decode bytes pc = .ok (.ifCond .eq o, 3)) (hp : 0 ≤ (pc : Int) + o ∧ ((pc : Int) + o).toNat = pt) (hf : pc + 3 = pf) (kt : x = 0 → Go w Z EL C N Q p e s below T (mkF m pt L S)) (kf : ¬ x = 0 → Go w Z EL C N Q p e s below T (mkF m pf L S)) : Go w Z EL C N Q p e s below T (mkF m pc L (.int x :: S)) := by
  subst hf
  by_cases hc : x = 0
  · exact ps X (fun H hx hby _ q => XS.ifYes H hx rfl (pc0 := pc) rfl (hb hby hd) rfl (XT.i0_eq_t hc) hp.1 hp.2 q) (kt hc)
  · exact ps X (fun H hx hby _ q => XS.ifNo H hx rfl (hb hby hd) rfl (XT.i0_eq_f hc) q) (kf hc)
theorem o_if_icmpne (X : St w Z a0 EL y bytes maxL ret p l e R s m args below meth c T h sf k n) {pc pt pf : Nat} {L : Array Slot} {S : List Value} {x z : Int32} {o : Int} (hd : decode bytes pc = .ok (.if_icmp .ne o, 3)) (hp : 0 ≤ (pc : Int) + o ∧ ((pc : Int) + o).toNat = pt) (hf : pc + 3 = pf) (kt : ¬ x = z → Go w Z EL C N Q p e s below T (mkF m pt L S)) (kf : x = z → Go w Z EL C N Q p e s below T (mkF m pf L S)) : Go w Z EL C N Q p e s below T (mkF m pc L (.int z :: .int x :: S)) := by
  subst hf
  by_cases hc : x = z
  · exact ps X (fun H hx hby _ q => XS.icmpNo H hx rfl (hb hby hd) rfl (XT.ii_ne_f hc) q) (kf hc)
  · exact ps X (fun H hx hby _ q => XS.icmpYes H hx rfl (pc0 := pc) rfl (hb hby hd) rfl (XT.ii_ne_t hc) hp.1 hp.2 q) (kt hc)
theorem o_ifne (X : St w Z a0 EL y bytes maxL ret p l e R s m args below meth c T h sf k n) {pc pt pf : Nat} {L : Array Slot} {S : List Value} {x : Int32} {o : Int} (hd : decode bytes pc = .ok (.ifCond .ne o, 3)) (hp : 0 ≤ (pc : Int) + o ∧ ((pc : Int) + o).toNat = pt) (hf : pc + 3 = pf) (kt : ¬ x = 0 → Go w Z EL C N Q p e s below T (mkF m pt L S)) (kf : x = 0 → Go w Z EL C N Q p e s below T (mkF m pf L S)) : Go w Z EL C N Q p e s below T (mkF m pc L (.int x :: S)) := by
  subst hf
  by_cases hc : x = 0
  · exact ps X (fun H hx hby _ q => XS.ifNo H hx rfl (hb hby hd) rfl (XT.i0_ne_f hc) q) (kf hc)
  · exact ps X (fun H hx hby _ q => XS.ifYes H hx rfl (pc0 := pc) rfl (hb hby hd) rfl (XT.i0_ne_t hc) hp.1 hp.2 q) (kt hc)
theorem o_if_icmplt (X : St w Z a0 EL y bytes maxL ret p l e R s m args below meth c T h sf k n) {pc pt pf : Nat} {L : Array Slot} {S : List Value} {x z : Int32} {o : Int} (hd : decode bytes pc = .ok (.if_icmp .lt o, 3)) (hp : 0 ≤ (pc : Int) + o ∧ ((pc : Int) + o).toNat = pt) (hf : pc + 3 = pf) (kt : x < z → Go w Z EL C N Q p e s below T (mkF m pt L S)) (kf : ¬ x < z → Go w Z EL C N Q p e s below T (mkF m pf L S)) : Go w Z EL C N Q p e s below T (mkF m pc L (.int z :: .int x :: S)) := by
  subst hf
  by_cases hc : x < z
  · exact ps X (fun H hx hby _ q => XS.icmpYes H hx rfl (pc0 := pc) rfl (hb hby hd) rfl (XT.ii_lt_t hc) hp.1 hp.2 q) (kt hc)
  · exact ps X (fun H hx hby _ q => XS.icmpNo H hx rfl (hb hby hd) rfl (XT.ii_lt_f hc) q) (kf hc)
theorem o_iflt (X : St w Z a0 EL y bytes maxL ret p l e R s m args below meth c T h sf k n) {pc pt pf : Nat} {L : Array Slot} {S : List Value} {x : Int32} {o : Int} (hd : decode bytes pc = .ok (.ifCond .lt o, 3)) (hp : 0 ≤ (pc : Int) + o ∧ ((pc : Int) + o).toNat = pt) (hf : pc + 3 = pf) (kt : x < 0 → Go w Z EL C N Q p e s below T (mkF m pt L S)) (kf : ¬ x < 0 → Go w Z EL C N Q p e s below T (mkF m pf L S)) : Go w Z EL C N Q p e s below T (mkF m pc L (.int x :: S)) := by
  subst hf
  by_cases hc : x < 0
  · exact ps X (fun H hx hby _ q => XS.ifYes H hx rfl (pc0 := pc) rfl (hb hby hd) rfl (XT.i0_lt_t hc) hp.1 hp.2 q) (kt hc)
  · exact ps X (fun H hx hby _ q => XS.ifNo H hx rfl (hb hby hd) rfl (XT.i0_lt_f hc) q) (kf hc)
theorem o_if_icmpge (X : St w Z a0 EL y bytes maxL ret p l e R s m args below meth c T h sf k n) {pc pt pf : Nat} {L : Array Slot} {S : List Value} {x z : Int32} {o : Int} (hd : decode bytes pc = .ok (.if_icmp .ge o, 3)) (hp : 0 ≤ (pc : Int) + o ∧ ((pc : Int) + o).toNat = pt) (hf : pc + 3 = pf) (kt : ¬ x < z → Go w Z EL C N Q p e s below T (mkF m pt L S)) (kf : x < z → Go w Z EL C N Q p e s below T (mkF m pf L S)) : Go w Z EL C N Q p e s below T (mkF m pc L (.int z :: .int x :: S)) := by
  subst hf
  by_cases hc : x < z
  · exact ps X (fun H hx hby _ q => XS.icmpNo H hx rfl (hb hby hd) rfl (XT.ii_ge_f hc) q) (kf hc)
  · exact ps X (fun H hx hby _ q => XS.icmpYes H hx rfl (pc0 := pc) rfl (hb hby hd) rfl (XT.ii_ge_t hc) hp.1 hp.2 q) (kt hc)
theorem o_ifge (X : St w Z a0 EL y bytes maxL ret p l e R s m args below meth c T h sf k n) {pc pt pf : Nat} {L : Array Slot} {S : List Value} {x : Int32} {o : Int} (hd : decode bytes pc = .ok (.ifCond .ge o, 3)) (hp : 0 ≤ (pc : Int) + o ∧ ((pc : Int) + o).toNat = pt) (hf : pc + 3 = pf) (kt : ¬ x < 0 → Go w Z EL C N Q p e s below T (mkF m pt L S)) (kf : x < 0 → Go w Z EL C N Q p e s below T (mkF m pf L S)) : Go w Z EL C N Q p e s below T (mkF m pc L (.int x :: S)) := by
  subst hf
  by_cases hc : x < 0
  · exact ps X (fun H hx hby _ q => XS.ifNo H hx rfl (hb hby hd) rfl (XT.i0_ge_f hc) q) (kf hc)
  · exact ps X (fun H hx hby _ q => XS.ifYes H hx rfl (pc0 := pc) rfl (hb hby hd) rfl (XT.i0_ge_t hc) hp.1 hp.2 q) (kt hc)
theorem o_if_icmpgt (X : St w Z a0 EL y bytes maxL ret p l e R s m args below meth c T h sf k n) {pc pt pf : Nat} {L : Array Slot} {S : List Value} {x z : Int32} {o : Int} (hd : decode bytes pc = .ok (.if_icmp .gt o, 3)) (hp : 0 ≤ (pc : Int) + o ∧ ((pc : Int) + o).toNat = pt) (hf : pc + 3 = pf) (kt : z < x → Go w Z EL C N Q p e s below T (mkF m pt L S)) (kf : ¬ z < x → Go w Z EL C N Q p e s below T (mkF m pf L S)) : Go w Z EL C N Q p e s below T (mkF m pc L (.int z :: .int x :: S)) := by
  subst hf
  by_cases hc : z < x
  · exact ps X (fun H hx hby _ q => XS.icmpYes H hx rfl (pc0 := pc) rfl (hb hby hd) rfl (XT.ii_gt_t hc) hp.1 hp.2 q) (kt hc)
  · exact ps X (fun H hx hby _ q => XS.icmpNo H hx rfl (hb hby hd) rfl (XT.ii_gt_f hc) q) (kf hc)
theorem o_ifgt (X : St w Z a0 EL y bytes maxL ret p l e R s m args below meth c T h sf k n) {pc pt pf : Nat} {L : Array Slot} {S : List Value} {x : Int32} {o : Int} (hd : decode bytes pc = .ok (.ifCond .gt o, 3)) (hp : 0 ≤ (pc : Int) + o ∧ ((pc : Int) + o).toNat = pt) (hf : pc + 3 = pf) (kt : 0 < x → Go w Z EL C N Q p e s below T (mkF m pt L S)) (kf : ¬ 0 < x → Go w Z EL C N Q p e s below T (mkF m pf L S)) : Go w Z EL C N Q p e s below T (mkF m pc L (.int x :: S)) := by
  subst hf
  by_cases hc : 0 < x
  · exact ps X (fun H hx hby _ q => XS.ifYes H hx rfl (pc0 := pc) rfl (hb hby hd) rfl (XT.i0_gt_t hc) hp.1 hp.2 q) (kt hc)
  · exact ps X (fun H hx hby _ q => XS.ifNo H hx rfl (hb hby hd) rfl (XT.i0_gt_f hc) q) (kf hc)
theorem o_if_icmple (X : St w Z a0 EL y bytes maxL ret p l e R s m args below meth c T h sf k n) {pc pt pf : Nat} {L : Array Slot} {S : List Value} {x z : Int32} {o : Int} (hd : decode bytes pc = .ok (.if_icmp .le o, 3)) (hp : 0 ≤ (pc : Int) + o ∧ ((pc : Int) + o).toNat = pt) (hf : pc + 3 = pf) (kt : ¬ z < x → Go w Z EL C N Q p e s below T (mkF m pt L S)) (kf : z < x → Go w Z EL C N Q p e s below T (mkF m pf L S)) : Go w Z EL C N Q p e s below T (mkF m pc L (.int z :: .int x :: S)) := by
  subst hf
  by_cases hc : z < x
  · exact ps X (fun H hx hby _ q => XS.icmpNo H hx rfl (hb hby hd) rfl (XT.ii_le_f hc) q) (kf hc)
  · exact ps X (fun H hx hby _ q => XS.icmpYes H hx rfl (pc0 := pc) rfl (hb hby hd) rfl (XT.ii_le_t hc) hp.1 hp.2 q) (kt hc)
theorem o_ifle (X : St w Z a0 EL y bytes maxL ret p l e R s m args below meth c T h sf k n) {pc pt pf : Nat} {L : Array Slot} {S : List Value} {x : Int32} {o : Int} (hd : decode bytes pc = .ok (.ifCond .le o, 3)) (hp : 0 ≤ (pc : Int) + o ∧ ((pc : Int) + o).toNat = pt) (hf : pc + 3 = pf) (kt : ¬ 0 < x → Go w Z EL C N Q p e s below T (mkF m pt L S)) (kf : 0 < x → Go w Z EL C N Q p e s below T (mkF m pf L S)) : Go w Z EL C N Q p e s below T (mkF m pc L (.int x :: S)) := by
  subst hf
  by_cases hc : 0 < x
  · exact ps X (fun H hx hby _ q => XS.ifNo H hx rfl (hb hby hd) rfl (XT.i0_le_f hc) q) (kf hc)
  · exact ps X (fun H hx hby _ q => XS.ifYes H hx rfl (pc0 := pc) rfl (hb hby hd) rfl (XT.i0_le_t hc) hp.1 hp.2 q) (kt hc)
theorem o_ifnull_y (X : St w Z a0 EL y bytes maxL ret p l e R s m args below meth c T h sf k n) {pc pt : Nat} {L : Array Slot} {S : List Value} {o : Int} (hd : decode bytes pc = .ok (.ifnull o, 3)) (hp : 0 ≤ (pc : Int) + o ∧ ((pc : Int) + o).toNat = pt) (kk : Go w Z EL C N Q p e s below T (mkF m pt L S)) : Go w Z EL C N Q p e s below T (mkF m pc L (.null :: S)) :=
  ps X (fun H hx hby _ q => XS.ifnullYes H hx rfl (pc0 := pc) rfl (hb hby hd) rfl hp.1 hp.2 q) kk
theorem o_ifnull_n (X : St w Z a0 EL y bytes maxL ret p l e R s m args below meth c T h sf k n) {pc pf : Nat} {L : Array Slot} {S : List Value} {o : Int} {b : Addr} (hd : decode bytes pc = .ok (.ifnull o, 3)) (hf : pc + 3 = pf) (kk : Go w Z EL C N Q p e s below T (mkF m pf L S)) : Go w Z EL C N Q p e s below T (mkF m pc L (.ref b :: S)) := by
  subst hf
  exact ps X (fun H hx hby _ q => XS.ifnullNo H hx rfl (hb hby hd) rfl q) kk
theorem o_ifnonnull_y (X : St w Z a0 EL y bytes maxL ret p l e R s m args below meth c T h sf k n) {pc pt : Nat} {L : Array Slot} {S : List Value} {o : Int} {b : Addr} (hd : decode bytes pc = .ok (.ifnonnull o, 3)) (hp : 0 ≤ (pc : Int) + o ∧ ((pc : Int) + o).toNat = pt) (kk : Go w Z EL C N Q p e s below T (mkF m pt L S)) : Go w Z EL C N Q p e s below T (mkF m pc L (.ref b :: S)) :=
  ps X (fun H hx hby _ q => XS.ifnonnullYes H hx rfl (pc0 := pc) rfl (hb hby hd) rfl hp.1 hp.2 q) kk
theorem o_ifnonnull_n (X : St w Z a0 EL y bytes maxL ret p l e R s m args below meth c T h sf k n) {pc pf : Nat} {L : Array Slot} {S : List Value} {o : Int} (hd : decode bytes pc = .ok (.ifnonnull o, 3)) (hf : pc + 3 = pf) (kk : Go w Z EL C N Q p e s below T (mkF m pf L S)) : Go w Z EL C N Q p e s below T (mkF m pc L (.null :: S)) := by
  subst hf
  exact ps X (fun H hx hby _ q => XS.ifnonnullNo H hx rfl (hb hby hd) rfl q) kk
theorem o_if_acmpeq (X : St w Z a0 EL y bytes maxL ret p l e R s m args below meth c T h sf k n) {pc pt pf : Nat} {L : Array Slot} {S : List Value} {u v : Value} {o : Int} (hd : decode bytes pc = .ok (.if_acmp .eq o, 3)) (hu : u.isRef = true) (hv : v.isRef = true) (hp : 0 ≤ (pc : Int) + o ∧ ((pc : Int) + o).toNat = pt) (hf : pc + 3 = pf) (kt : u = v → Go w Z EL C N Q p e s below T (mkF m pt L S)) (kf : ¬ u = v → Go w Z EL C N Q p e s below T (mkF m pf L S)) : Go w Z EL C N Q p e s below T (mkF m pc L (v :: u :: S)) := by
  subst hf
  by_cases hc : u = v
  · exact ps X (fun H hx hby _ q => XT.acmpYes H hx rfl (pc0 := pc) rfl (hb hby hd) rfl hu hv (XT.aa_eq_t hc) hp.1 hp.2 q) (kt hc)
  · exact ps X (fun H hx hby _ q => XT.acmpNo H hx rfl (hb hby hd) rfl hu hv (XT.aa_eq_f hc) q) (kf hc)
theorem o_if_acmpne (X : St w Z a0 EL y bytes maxL ret p l e R s m args below meth c T h sf k n) {pc pt pf : Nat} {L : Array Slot} {S : List Value} {u v : Value} {o : Int} (hd : decode bytes pc = .ok (.if_acmp .ne o, 3)) (hu : u.isRef = true) (hv : v.isRef = true) (hp : 0 ≤ (pc : Int) + o ∧ ((pc : Int) + o).toNat = pt) (hf : pc + 3 = pf) (kt : ¬ u = v → Go w Z EL C N Q p e s below T (mkF m pt L S)) (kf : u = v → Go w Z EL C N Q p e s below T (mkF m pf L S)) : Go w Z EL C N Q p e s below T (mkF m pc L (v :: u :: S)) := by
  subst hf
  by_cases hc : u = v
  · exact ps X (fun H hx hby _ q => XT.acmpNo H hx rfl (hb hby hd) rfl hu hv (XT.aa_ne_f hc) q) (kf hc)
  · exact ps X (fun H hx hby _ q => XT.acmpYes H hx rfl (pc0 := pc) rfl (hb hby hd) rfl hu hv (XT.aa_ne_t hc) hp.1 hp.2 q) (kt hc)
theorem St.ext (X : St w Z a0 EL y bytes maxL ret p l e R s m args below meth c T h sf k n) : Ext Z.heap h := by
  obtain ⟨-, vm0, k0, locs, X0, eT, hS, hk, hZ, hown, N, E, -⟩ := X; exact E
theorem St.drop (X : St w Z a0 EL y bytes maxL ret p l e R s m args below meth c T h sf k n) {sf' : List Addr} (q : ∀ x ∈ sf', x ∈ sf) : St w Z a0 EL y bytes maxL ret p l e R s m args below meth c T h sf' k n := by
  obtain ⟨c0, vm0, k0, locs, X0, eT, hS, hk, hZ, hown, N, E, hw, hC, hsf⟩ := X
  exact ⟨c0, vm0, k0, locs, X0, eT, hS, hk, hZ, hown, N, E, hw, hC, fun x hx => hsf x (q x hx)⟩
theorem o_getfield (X : St w Z a0 EL y bytes maxL ret p l e R s m args below meth c T h sf k n) {pc pc' : Nat} {L : Array Slot} {S : List Value} {idx : Nat} {R0 O nm d : String} {a : Addr} {v : Value} (hd : decode bytes pc = .ok (.getfield idx, 3)) (hp : pc + 3 = pc') (w1 : (Cond.fieldLink y.cls idx R0 nm d).before a0 Z = true) (via : Via Z R0 O nm d) (F : Fld Z h a O nm d v)
    (kk : ∀ T', St w Z a0 EL y bytes maxL ret p l e R s m args below meth c T' h sf k n → Go w Z EL C N Q p e s below T' (mkF m pc' L (v :: S))) : Go w Z EL C N Q p e s below T (mkF m pc L (.ref a :: S)) := by
  subst hp
  obtain ⟨⟨hx, hby, c1⟩, vm0, k0, locs, X0, eT, hS, hk, hZ, hown, N, E, hw, hC, hsf⟩ := X
  obtain ⟨T', X', e', st⟩ := getF (s := s.setVm vm0) X0 hx hZ hown (host := "") (Or.inl w1) via eT F (g := mkF m pc L (.ref a :: S)) rfl rfl (hb hby hd)
  obtain ⟨s₂, o, hs, r⟩ := kk T' ⟨⟨hx, hby, c1⟩, vm0, k0, locs, X', e', hS, hk, hZ, hown, N, E, hw, hC, hsf⟩
  exact ⟨s₂, o, st _ hs, r⟩
theorem o_getfieldNest (X : St w Z a0 EL y bytes maxL ret p l e R s m args below meth c T h sf k n) {pc pc' : Nat} {L : Array Slot} {S : List Value} {idx : Nat} {R0 O nm d host : String} {a : Addr} {v : Value} (hd : decode bytes pc = .ok (.getfield idx, 3)) (hp : pc + 3 = pc') (w1 : (Cond.fieldLinkNest y.cls idx R0 nm d host).before a0 Z = true) (via : Via Z R0 O nm d) (F : Fld Z h a O nm d v)
    (kk : ∀ T', St w Z a0 EL y bytes maxL ret p l e R s m args below meth c T' h sf k n → Go w Z EL C N Q p e s below T' (mkF m pc' L (v :: S))) : Go w Z EL C N Q p e s below T (mkF m pc L (.ref a :: S)) := by
  subst hp
  obtain ⟨⟨hx, hby, c1⟩, vm0, k0, locs, X0, eT, hS, hk, hZ, hown, N, E, hw, hC, hsf⟩ := X
  obtain ⟨T', X', e', st⟩ := getF (s := s.setVm vm0) X0 hx hZ hown (Or.inr w1) via eT F (g := mkF m pc L (.ref a :: S)) rfl rfl (hb hby hd)
  obtain ⟨s₂, o, hs, r⟩ := kk T' ⟨⟨hx, hby, c1⟩, vm0, k0, locs, X', e', hS, hk, hZ, hown, N, E, hw, hC, hsf⟩
  exact ⟨s₂, o, st _ hs, r⟩
theorem o_getstatic (X : St w Z a0 EL y bytes maxL ret p l e R s m args below meth c T h sf k n) {pc pc' : Nat} {L : Array Slot} {S : List Value} {idx : Nat} {R0 O nm d : String} {v : Value} (hd : decode bytes pc = .ok (.getstatic idx, 3)) (hp : pc + 3 = pc') (w1 : (Cond.fieldLink y.cls idx R0 nm d).before a0 Z = true) (via : Via Z R0 O nm d) (F : Sta Z Z.heap O nm d v)
    (kk : ∀ T', St w Z a0 EL y bytes maxL ret p l e R s m args below meth c T' h sf k n → Go w Z EL C N Q p e s below T' (mkF m pc' L (v :: S))) : Go w Z EL C N Q p e s below T (mkF m pc L S) := by
  subst hp
  obtain ⟨⟨hx, hby, c1⟩, vm0, k0, locs, X0, eT, hS, hk, hZ, hown, N, E, hw, hC, hsf⟩ := X
  obtain ⟨T', X', e', st⟩ := getS (s := s.setVm vm0) X0 hx hZ hown (host := "") w1 via eT (F.ext E) (g := mkF m pc L S) rfl (hb hby hd)
  obtain ⟨s₂, o, hs, r⟩ := kk T' ⟨⟨hx, hby, c1⟩, vm0, k0, locs, X', e', hS, hk, hZ, hown, N, E, hw, hC, hsf⟩
  exact ⟨s₂, o, st _ hs, r⟩
/-- behind a write of one slot -/
theorem St.wrote {vm0 : Vm} {k0 : Nat} {locs : List Loc} {T' : State} {h' : Heap} {a : Addr} {sl : Nat} {v : Value} (c1 : p.tables.exec = Jvm.exec ∧ c.code = bytes ∧ c.maxLocals = maxL ∧ meth.sig.returnType = ret ∧ meth.locks = false ∧ meth.name = y.name ∧ EW Z a0 EL)
    (X' : Stand p l e R (s.setVm vm0) m args below meth c T' (locs ++ [⟨a, sl⟩]) k n) (e' : T'.heap = h') (hS : s.Since vm0 k0) (hk : k0 ≤ h.size) (hZ : Z.Warmed39 vm0) (hown : vm0.findClass y.cls = some m.cls) (N : Fr Z.heap.size locs) (E : Ext Z.heap h) (hw : w = false → vm0 = s.vm ∧ EL = []) (hC : CHr Z EL s.vm s.heap vm0 h) (hsf : ∀ x ∈ sf, x < h.size ∧ Safe Z EL vm0 h x)
    (W : Wr h h' a sl v) (ha : Z.heap.size ≤ a) (ok : Ok Z EL h sf a) : St w Z a0 EL y bytes maxL ret p l e R s m args below meth c T' h' sf k n := by
  have S := ok.safe hZ.alike hsf
  refine ⟨c1, vm0, k0, _, X', e', hS, by rw [W.size]; exact hk, hZ, hown, Fr.snoc X' N ha, (Old.wr (Z := Z) (n0 := Z.heap.size) ⟨rfl, E⟩ W ha).2, hw, hC.trans (CHr.wr W S hC.1), fun x hx => ⟨by rw [W.size]; exact (hsf x hx).1, Safe.wr W S hC.1 (hsf x hx).2⟩⟩
theorem o_putfield (X : St w Z a0 EL y bytes maxL ret p l e R s m args below meth c T h sf k n) {pc pc' : Nat} {L : Array Slot} {S : List Value} {idx kk0 : Nat} {R0 O nm d K : String} {ty : FieldType} {a : Addr} {v old : Value} (hd : decode bytes pc = .ok (.putfield idx, 3)) (hp : pc + 3 = pc') (w1 : (Cond.fieldLink y.cls idx R0 nm d).before a0 Z = true) (via : Via Z R0 O nm d) (F : Fld Z h a O nm d old) (E0 : Exa Z h a K)
    (L0 : (Cond.lays K O nm d).before a0 Z = true ∨ ((Cond.laysFinal K O nm d).before a0 Z = true ∧ y.cls = O ∧ y.name = "<init>")) (wi : (Cond.instantiable K kk0).before a0 Z = true) (hty : parseFieldDescriptor d = some ty) (hn : narrow ty v = v) (hf : fits ty v = true) (ha : Z.heap.size ≤ a) (ok : Ok Z EL h sf a)
    (kk : ∀ T' h', Wr h h' a (Jvm.RoadKit.slotOf Z O nm d) v → St w Z a0 EL y bytes maxL ret p l e R s m args below meth c T' h' sf k n → Go w Z EL C N Q p e s below T' (mkF m pc' L S)) : Go w Z EL C N Q p e s below T (mkF m pc L (v :: .ref a :: S)) := by
  subst hp
  obtain ⟨c1, vm0, k0, locs, X0, eT, hS, hk, hZ, hown, N, E, hw, hC, hsf⟩ := X
  obtain ⟨T', h', X', e', W, st⟩ := putF (s := s.setVm vm0) X0 c1.1 hZ hown (host := "") (Or.inl w1) via eT F E0 (L0.imp id fun q => ⟨q.1, q.2.1, c1.2.2.2.2.2.1.trans q.2.2⟩) wi hty hn hf (g := mkF m pc L (v :: .ref a :: S)) rfl rfl (hb c1.2.1 hd)
  obtain ⟨s₂, o, hs, r⟩ := kk T' h' W (St.wrote c1 X' e' hS hk hZ hown N E hw hC hsf W ha ok)
  exact ⟨s₂, o, st _ hs, r⟩
theorem o_putfieldN (X : St w Z a0 EL y bytes maxL ret p l e R s m args below meth c T h sf k n) {pc pc' : Nat} {L : Array Slot} {S : List Value} {idx kk0 : Nat} {R0 O nm d K : String} {ty : FieldType} {a : Addr} {v v' old : Value} (hd : decode bytes pc = .ok (.putfield idx, 3)) (hp : pc + 3 = pc') (w1 : (Cond.fieldLink y.cls idx R0 nm d).before a0 Z = true) (via : Via Z R0 O nm d) (F : Fld Z h a O nm d old) (E0 : Exa Z h a K)
    (L0 : (Cond.lays K O nm d).before a0 Z = true ∨ ((Cond.laysFinal K O nm d).before a0 Z = true ∧ y.cls = O ∧ y.name = "<init>")) (wi : (Cond.instantiable K kk0).before a0 Z = true) (hty : parseFieldDescriptor d = some ty) (hn : narrow ty v = v') (hf : fits ty v' = true) (ha : Z.heap.size ≤ a) (ok : Ok Z EL h sf a)
    (kk : ∀ T' h', Wr h h' a (Jvm.RoadKit.slotOf Z O nm d) v' → St w Z a0 EL y bytes maxL ret p l e R s m args below meth c T' h' sf k n → Go w Z EL C N Q p e s below T' (mkF m pc' L S)) : Go w Z EL C N Q p e s below T (mkF m pc L (v :: .ref a :: S)) := by
  subst hp
  obtain ⟨c1, vm0, k0, locs, X0, eT, hS, hk, hZ, hown, N, E, hw, hC, hsf⟩ := X
  obtain ⟨T', h', X', e', W, st⟩ := putFN (s := s.setVm vm0) X0 c1.1 hZ hown w1 via eT F E0 (L0.imp id fun q => ⟨q.1, q.2.1, c1.2.2.2.2.2.1.trans q.2.2⟩) wi hty hn hf (g := mkF m pc L (v :: .ref a :: S)) rfl rfl (hb c1.2.1 hd)
  obtain ⟨s₂, o, hs, r⟩ := kk T' h' W (St.wrote c1 X' e' hS hk hZ hown N E hw hC hsf W ha ok)
  exact ⟨s₂, o, st _ hs, r⟩
/-- behind an instruction that made one cell -/
theorem St.made {vm0 : Vm} {k0 : Nat} {locs : List Loc} {T' : State} {h' : Heap} {k1 n1 : Nat} (c1 : p.tables.exec = Jvm.exec ∧ c.code = bytes ∧ c.maxLocals = maxL ∧ meth.sig.returnType = ret ∧ meth.locks = false ∧ meth.name = y.name ∧ EW Z a0 EL)
    (X' : Stand p l e R (s.setVm vm0) m args below meth c T' locs k1 n1) (e' : T'.heap = h') (hS : s.Since vm0 k0) (hk : k0 ≤ h.size) (hZ : Z.Warmed39 vm0) (hown : vm0.findClass y.cls = some m.cls) (N : Fr Z.heap.size locs) (E : Ext Z.heap h) (hw : w = false → vm0 = s.vm ∧ EL = []) (hC : CHr Z EL s.vm s.heap vm0 h) (hsf : ∀ x ∈ sf, x < h.size ∧ Safe Z EL vm0 h x)
    (E2 : Ext h h') (hlt : h.size < h'.size) : St w Z a0 EL y bytes maxL ret p l e R s m args below meth c T' h' (h.size :: sf) k1 n1 := by
  refine ⟨c1, vm0, k0, locs, X', e', hS, Nat.le_trans hk E2.1, hZ, hown, N, ⟨Nat.le_trans E.1 E2.1, fun a q r => E2.2 _ _ (E.2 _ _ r)⟩, hw, hC.trans (CHr.ext E2 hC.1), fun x hx => ?_⟩
  rcases List.mem_cons.mp hx with rfl | hx
  · exact ⟨hlt, Safe.ext E2 hC.1 (Safe.new (Nat.le_refl _))⟩
  · exact ⟨Nat.lt_of_lt_of_le (hsf x hx).1 E2.1, Safe.ext E2 hC.1 (hsf x hx).2⟩
theorem o_new (X : St w Z a0 EL y bytes maxL ret p l e R s m args below meth c T h sf k n) {pc pc' : Nat} {L : Array Slot} {S : List Value} {idx nn : Nat} {K : String} (hd : decode bytes pc = .ok (.new idx, 3)) (hp : pc + 3 = pc') (w1 : (Cond.classLink y.cls idx K).before a0 Z = true) (wi : (Cond.instantiable K nn).before a0 Z = true) (wz : (Cond.initialized K).before a0 Z = true) (hc : k + 1 ≤ R.cells) (hl : n + nn ≤ R.slots)
    (kk : ∀ T' h' a, a = h.size → Z.heap.size ≤ a → Ext h h' → Exa Z h' a K → (∀ {O nm d : String} {ty : FieldType}, Laid Z a0 K O nm d → parseFieldDescriptor d = some ty → Fld Z h' a O nm d (defaultValue ty)) → St w Z a0 EL y bytes maxL ret p l e R s m args below meth c T' h' (a :: sf) (k + 1) (n + nn) → Go w Z EL C N Q p e s below T' (mkF m pc' L (.ref a :: S))) : Go w Z EL C N Q p e s below T (mkF m pc L S) := by
  subst hp
  obtain ⟨c1, vm0, k0, locs, X0, eT, hS, hk, hZ, hown, N, E, hw, hC, hsf⟩ := X
  obtain ⟨T', h', X', e', E2, A2, D2, -, st⟩ := newO (s := s.setVm vm0) X0 c1.1 hZ hown w1 wi wz eT (g := mkF m pc L S) rfl (hb c1.2.1 hd) hc hl
  obtain ⟨s₂, o, hs, r⟩ := kk T' h' h.size rfl E.1 E2 A2 D2 (St.made c1 X' e' hS hk hZ hown N E hw hC hsf E2 A2.lt)
  exact ⟨s₂, o, st _ hs, r⟩
theorem o_newarray (X : St w Z a0 EL y bytes maxL ret p l e R s m args below meth c T h sf k n) {pc pc' : Nat} {L : Array Slot} {S : List Value} {aty : ArrayType} {z : Int32} (hd : decode bytes pc = .ok (.newarray aty, 2)) (hp : pc + 2 = pc') (w1 : (Cond.arrayClass (newarray.typeOf aty)).before a0 Z = true) (hz : ¬ z < 0) {cap : Nat} (hcap : z.toNatClampNeg ≤ cap) (hb8 : cap * 8 ≤ 536870912) (hc : k + 1 ≤ R.cells) (hl : n + cap ≤ R.slots)
    (kk : ∀ T' h' a kA, a = h.size → Z.heap.size ≤ a → Ext h h' → Arv Z h' a kA (newarray.typeOf aty) z [] (defaultValue (newarray.typeOf aty)) → St w Z a0 EL y bytes maxL ret p l e R s m args below meth c T' h' (a :: sf) (k + 1) (n + cap) → Go w Z EL C N Q p e s below T' (mkF m pc' L (.ref a :: S))) : Go w Z EL C N Q p e s below T (mkF m pc L (.int z :: S)) := by
  subst hp
  obtain ⟨c1, vm0, k0, locs, X0, eT, hS, hk, hZ, hown, N, E, hw, hC, hsf⟩ := X
  obtain ⟨T', h', kA, X', e', E2, A2, st⟩ := newP (s := s.setVm vm0) X0 c1.1 hZ w1 eT (g := mkF m pc L (.int z :: S)) rfl (hb c1.2.1 hd) rfl hz hcap hb8 hc hl
  obtain ⟨s₂, o, hs, r⟩ := kk T' h' h.size kA rfl E.1 E2 (Arv.new A2 hz) (St.made c1 X' e' hS hk hZ hown N E hw hC hsf E2 A2.lt)
  exact ⟨s₂, o, st _ hs, r⟩
theorem o_newarrayE (X : St w Z a0 EL y bytes maxL ret p l e R s m args below meth c T h sf k n) {pc pc' : Nat} {L : Array Slot} {S : List Value} {aty : ArrayType} {z : Int32} (hd : decode bytes pc = .ok (.newarray aty, 2)) (hp : pc + 2 = pc') (w1 : (Cond.arrayClass (newarray.typeOf aty)).before a0 Z = true) (hz : ¬ z < 0) {cap : Nat} (hcap : z.toNatClampNeg ≤ cap) (hb8 : cap * 8 ≤ 536870912) (hc : k + 1 ≤ R.cells) (hl : n + cap ≤ R.slots) {ad : String} (had : "[" ++ (newarray.typeOf aty).toString = ad)
    (kk : ∀ T' h' a kA, a = h.size → Z.heap.size ≤ a → Ext h h' → Arv Z h' a kA (newarray.typeOf aty) z [] (defaultValue (newarray.typeOf aty)) → Exa Z h' a ad → St w Z a0 EL y bytes maxL ret p l e R s m args below meth c T' h' (a :: sf) (k + 1) (n + cap) → Go w Z EL C N Q p e s below T' (mkF m pc' L (.ref a :: S))) : Go w Z EL C N Q p e s below T (mkF m pc L (.int z :: S)) := by
  subst hp
  obtain ⟨c1, vm0, k0, locs, X0, eT, hS, hk, hZ, hown, N, E, hw, hC, hsf⟩ := X
  obtain ⟨T', h', kA, X', e', E2, A2, D2, st⟩ := newPE (s := s.setVm vm0) X0 c1.1 hZ w1 eT (g := mkF m pc L (.int z :: S)) rfl (hb c1.2.1 hd) rfl hz hcap hb8 hc hl had
  obtain ⟨s₂, o, hs, r⟩ := kk T' h' h.size kA rfl E.1 E2 (Arv.new A2 hz) D2 (St.made c1 X' e' hS hk hZ hown N E hw hC hsf E2 A2.lt)
  exact ⟨s₂, o, st _ hs, r⟩
theorem o_lookHit (X : St w Z a0 EL y bytes maxL ret p l e R s m args below meth c T h sf k n) {pc pc' len : Nat} {L : Array Slot} {S : List Value} {i : Int32} {dflt : Int} {pairs : Array (Int × Int)} (hd : decode bytes pc = .ok (.lookupswitch dflt pairs, len)) (hso : (pairs.toList.zip (pairs.toList.drop 1)).all (fun (a, next) => a.1 < next.1) = true) {u off : Int} (hf : pairs.find? (·.1 == i.toInt) = some (u, off)) (hp : 0 ≤ (pc : Int) + off ∧ ((pc : Int) + off).toNat = pc') (kk : Go w Z EL C N Q p e s below T (mkF m pc' L S)) : Go w Z EL C N Q p e s below T (mkF m pc L (.int i :: S)) := by
  obtain ⟨hp0, rfl⟩ := hp
  obtain ⟨c1, vm0, k0, locs, X0, -⟩ := X
  obtain ⟨s₂, o, hs, r⟩ := kk
  exact ⟨s₂, o, X0.lookupswitchHit c1.1 (g := mkF m pc L (.int i :: S)) rfl rfl (hb c1.2.1 hd) hso hf hp0 _ hs, r⟩
theorem o_lookMiss (X : St w Z a0 EL y bytes maxL ret p l e R s m args below meth c T h sf k n) {pc pc' len : Nat} {L : Array Slot} {S : List Value} {i : Int32} {dflt : Int} {pairs : Array (Int × Int)} (hd : decode bytes pc = .ok (.lookupswitch dflt pairs, len)) (hso : (pairs.toList.zip (pairs.toList.drop 1)).all (fun (a, next) => a.1 < next.1) = true) (hf : pairs.find? (·.1 == i.toInt) = none) (hp : 0 ≤ (pc : Int) + dflt ∧ ((pc : Int) + dflt).toNat = pc') (kk : Go w Z EL C N Q p e s below T (mkF m pc' L S)) : Go w Z EL C N Q p e s below T (mkF m pc L (.int i :: S)) := by
  obtain ⟨hp0, rfl⟩ := hp
  obtain ⟨c1, vm0, k0, locs, X0, -⟩ := X
  obtain ⟨s₂, o, hs, r⟩ := kk
  exact ⟨s₂, o, X0.lookupswitchMiss c1.1 (g := mkF m pc L (.int i :: S)) rfl rfl (hb c1.2.1 hd) hso hf hp0 _ hs, r⟩
theorem o_tswIn (X : St w Z a0 EL y bytes maxL ret p l e R s m args below meth c T h sf k n) {pc pc' len : Nat} {L : Array Slot} {S : List Value} {i : Int32} {dflt low high : Int} {offs : Array Int} (hd : decode bytes pc = .ok (.tableswitch dflt low high offs, len)) (hin : ¬ (i.toInt < low ∨ i.toInt > high)) {off : Int} (hf : offs[(i.toInt - low).toNat]? = some off) (hp : 0 ≤ (pc : Int) + off ∧ ((pc : Int) + off).toNat = pc') (kk : Go w Z EL C N Q p e s below T (mkF m pc' L S)) : Go w Z EL C N Q p e s below T (mkF m pc L (.int i :: S)) := by
  obtain ⟨hp0, rfl⟩ := hp
  obtain ⟨c1, vm0, k0, locs, X0, -⟩ := X
  obtain ⟨s₂, o, hs, r⟩ := kk
  exact ⟨s₂, o, X0.tableswitchIn c1.1 (g := mkF m pc L (.int i :: S)) rfl rfl (hb c1.2.1 hd) hin hf hp0 _ hs, r⟩
theorem o_tswOut (X : St w Z a0 EL y bytes maxL ret p l e R s m args below meth c T h sf k n) {pc pc' len : Nat} {L : Array Slot} {S : List Value} {i : Int32} {dflt low high : Int} {offs : Array Int} (hd : decode bytes pc = .ok (.tableswitch dflt low high offs, len)) (hout : i.toInt < low ∨ i.toInt > high) (hp : 0 ≤ (pc : Int) + dflt ∧ ((pc : Int) + dflt).toNat = pc') (kk : Go w Z EL C N Q p e s below T (mkF m pc' L S)) : Go w Z EL C N Q p e s below T (mkF m pc L (.int i :: S)) := by
  obtain ⟨hp0, rfl⟩ := hp
  obtain ⟨c1, vm0, k0, locs, X0, -⟩ := X
  obtain ⟨s₂, o, hs, r⟩ := kk
  exact ⟨s₂, o, X0.tableswitchOut c1.1 (g := mkF m pc L (.int i :: S)) rfl rfl (hb c1.2.1 hd) hout hp0 _ hs, r⟩
theorem o_anewarray (X : St w Z a0 EL y bytes maxL ret p l e R s m args below meth c T h sf k n) {pc pc' : Nat} {L : Array Slot} {S : List Value} {idx : Nat} {K : String} {z : Int32} (hd : decode bytes pc = .ok (.anewarray idx, 3)) (hp : pc + 3 = pc') (w1 : (Cond.classLink y.cls idx K).before a0 Z = true) (w2 : (Cond.arrayOver (.object K)).before a0 Z = true) (hz : ¬ z < 0) {cap : Nat} (hcap : z.toNatClampNeg ≤ cap) (hb8 : cap * 8 ≤ 536870912) (hc : k + 1 ≤ R.cells) (hl : n + cap ≤ R.slots)
    (kk : ∀ T' h' a kA, a = h.size → Z.heap.size ≤ a → Ext h h' → Arv Z h' a kA (.object K) z [] .null → Ovr Z kA K → St w Z a0 EL y bytes maxL ret p l e R s m args below meth c T' h' (a :: sf) (k + 1) (n + cap) → Go w Z EL C N Q p e s below T' (mkF m pc' L (.ref a :: S))) : Go w Z EL C N Q p e s below T (mkF m pc L (.int z :: S)) := by
  subst hp
  obtain ⟨c1, vm0, k0, locs, X0, eT, hS, hk, hZ, hown, N, E, hw, hC, hsf⟩ := X
  obtain ⟨T', h', kA, X', e', E2, A2, O2, st⟩ := newR (s := s.setVm vm0) X0 c1.1 hZ hown w1 w2 eT (g := mkF m pc L (.int z :: S)) rfl (hb c1.2.1 hd) rfl hz hcap hb8 hc hl
  obtain ⟨s₂, o, hs, r⟩ := kk T' h' h.size kA rfl E.1 E2 (Arv.new A2 hz) O2 (St.made c1 X' e' hS hk hZ hown N E hw hC hsf E2 A2.lt)
  exact ⟨s₂, o, st _ hs, r⟩
theorem o_castore (X : St w Z a0 EL y bytes maxL ret p l e R s m args below meth c T h sf k n) {pc pc' : Nat} {L : Array Slot} {S : List Value} {a : Addr} {kA : ClassId} {z j x : Int32} {vs : List Value} {d : Value} (hd : decode bytes pc = .ok (.castore, 1)) (hp : pc + 1 = pc') (A : Arv Z h a kA .char z vs d) (i : Nat) (hj : j.toNatClampNeg = i) (hjz : ¬ j < 0 ∧ j < z) (hi : i < vs.length) (ha : Z.heap.size ≤ a) (ok : Ok Z EL h sf a)
    (kk : ∀ T' h', Wr h h' a i (.int (nar .char x)) → Arv Z h' a kA .char z (vs.set i (.int (nar .char x))) d → St w Z a0 EL y bytes maxL ret p l e R s m args below meth c T' h' sf k n → Go w Z EL C N Q p e s below T' (mkF m pc' L S)) : Go w Z EL C N Q p e s below T (mkF m pc L (.int x :: .int j :: .ref a :: S)) := by
  subst hp
  obtain ⟨c1, vm0, k0, locs, X0, eT, hS, hk, hZ, hown, N, E, hw, hC, hsf⟩ := X
  obtain ⟨cl, Ar, q1, q2, q3, q4, q5⟩ := A
  have hin := inb_of (j := j) q2 hjz
  obtain ⟨T', h', X', e', W, st⟩ := stC (s := s.setVm vm0) X0 c1.1 hZ eT Ar hin (g := mkF m pc L (.int x :: .int j :: .ref a :: S)) rfl rfl (hb c1.2.1 hd)
  have V := Arv.set Ar q1 q2 q3 q4 q5 (fits_nar_char x) W i hj hi
  obtain ⟨s₂, o, hs, r⟩ := kk T' h' (hj ▸ W) V (St.wrote c1 X' e' hS hk hZ hown N E hw hC hsf W ha ok)
  exact ⟨s₂, o, st _ hs, r⟩
theorem o_bastore (X : St w Z a0 EL y bytes maxL ret p l e R s m args below meth c T h sf k n) {pc pc' : Nat} {L : Array Slot} {S : List Value} {a : Addr} {kA : ClassId} {z j x : Int32} {vs : List Value} {d : Value} (hd : decode bytes pc = .ok (.bastore, 1)) (hp : pc + 1 = pc') (A : Arv Z h a kA .byte z vs d) (i : Nat) (hj : j.toNatClampNeg = i) (hjz : ¬ j < 0 ∧ j < z) (hi : i < vs.length) (ha : Z.heap.size ≤ a) (ok : Ok Z EL h sf a)
    (kk : ∀ T' h', Wr h h' a i (.int (nar .byte x)) → Arv Z h' a kA .byte z (vs.set i (.int (nar .byte x))) d → St w Z a0 EL y bytes maxL ret p l e R s m args below meth c T' h' sf k n → Go w Z EL C N Q p e s below T' (mkF m pc' L S)) : Go w Z EL C N Q p e s below T (mkF m pc L (.int x :: .int j :: .ref a :: S)) := by
  subst hp
  obtain ⟨c1, vm0, k0, locs, X0, eT, hS, hk, hZ, hown, N, E, hw, hC, hsf⟩ := X
  obtain ⟨cl, Ar, q1, q2, q3, q4, q5⟩ := A
  have hin := inb_of (j := j) q2 hjz
  obtain ⟨T', h', X', e', W, st⟩ := stB (s := s.setVm vm0) X0 c1.1 hZ eT Ar hin (g := mkF m pc L (.int x :: .int j :: .ref a :: S)) rfl rfl (hb c1.2.1 hd)
  have V := Arv.set Ar q1 q2 q3 q4 q5 (fits_nar_byte x) W i hj hi
  obtain ⟨s₂, o, hs, r⟩ := kk T' h' (hj ▸ W) V (St.wrote c1 X' e' hS hk hZ hown N E hw hC hsf W ha ok)
  exact ⟨s₂, o, st _ hs, r⟩
theorem o_aastore (X : St w Z a0 EL y bytes maxL ret p l e R s m args below meth c T h sf k n) {pc pc' : Nat} {L : Array Slot} {S : List Value} {a b : Addr} {kA : ClassId} {K : String} {z j : Int32} {vs : List Value} {d : Value} (hd : decode bytes pc = .ok (.aastore, 1)) (hp : pc + 1 = pc') (A : Arv Z h a kA (.object K) z vs d) (O : Ovr Z kA K) (I : Ins Z h b K true) (i : Nat) (hj : j.toNatClampNeg = i) (hjz : ¬ j < 0 ∧ j < z) (hi : i < vs.length) (ha : Z.heap.size ≤ a) (ok : Ok Z EL h sf a)
    (kk : ∀ T' h', Wr h h' a i (.ref b) → Arv Z h' a kA (.object K) z (vs.set i (.ref b)) d → St w Z a0 EL y bytes maxL ret p l e R s m args below meth c T' h' sf k n → Go w Z EL C N Q p e s below T' (mkF m pc' L S)) : Go w Z EL C N Q p e s below T (mkF m pc L (.ref b :: .int j :: .ref a :: S)) := by
  subst hp
  obtain ⟨c1, vm0, k0, locs, X0, eT, hS, hk, hZ, hown, N, E, hw, hC, hsf⟩ := X
  obtain ⟨cl, Ar, q1, q2, q3, q4, q5⟩ := A
  have hin := inb_of (j := j) q2 hjz
  obtain ⟨T', h', X', e', W, st⟩ := stR (s := s.setVm vm0) X0 c1.1 hZ eT Ar hin rfl (Sto.ofV Ar q1 O I) (g := mkF m pc L (.ref b :: .int j :: .ref a :: S)) rfl rfl (hb c1.2.1 hd)
  have V := Arv.set Ar q1 q2 q3 q4 q5 rfl W i hj hi
  obtain ⟨s₂, o, hs, r⟩ := kk T' h' (hj ▸ W) V (St.wrote c1 X' e' hS hk hZ hown N E hw hC hsf W ha ok)
  exact ⟨s₂, o, st _ hs, r⟩
theorem o_caload (X : St w Z a0 EL y bytes maxL ret p l e R s m args below meth c T h sf k n) {pc pc' : Nat} {L : Array Slot} {S : List Value} {a : Addr} {kA : ClassId} {z j : Int32} {vs : List Value} {d v : Value} (hd : decode bytes pc = .ok (.caload, 1)) (hp : pc + 1 = pc') (A : Arv Z h a kA .char z vs d) (hjz : ¬ j < 0 ∧ j < z) (hv : vs.getD j.toNatClampNeg d = v)
    (kk : Go w Z EL C N Q p e s below T (mkF m pc' L (v :: S))) : Go w Z EL C N Q p e s below T (mkF m pc L (.int j :: .ref a :: S)) := by
  subst hp
  obtain ⟨c1, vm0, k0, locs, X0, eT, hS, hk, hZ, hown, N, E, hw, hC, hsf⟩ := X
  obtain ⟨cl, Ar, q1, q2, q3, q4, q5⟩ := A
  have hin := inb_of (j := j) q2 hjz
  obtain ⟨s₂, o, hs, r⟩ := kk
  exact ⟨s₂, o, X0.caload c1.1 (j := j) (v := v) (by rw [eT]; exact Ar.1) (State.isArrayOf_alike hZ.alike Ar.2.1) Ar.2.2 hin (q4.at hin hv) (g := mkF m pc L (.int j :: .ref a :: S)) rfl rfl (hb c1.2.1 hd) _ hs, r⟩
theorem o_baload (X : St w Z a0 EL y bytes maxL ret p l e R s m args below meth c T h sf k n) {pc pc' : Nat} {L : Array Slot} {S : List Value} {a : Addr} {kA : ClassId} {z j : Int32} {vs : List Value} {d v : Value} (hd : decode bytes pc = .ok (.baload, 1)) (hp : pc + 1 = pc') (A : Arv Z h a kA .byte z vs d) (hjz : ¬ j < 0 ∧ j < z) (hv : vs.getD j.toNatClampNeg d = v)
    (kk : Go w Z EL C N Q p e s below T (mkF m pc' L (v :: S))) : Go w Z EL C N Q p e s below T (mkF m pc L (.int j :: .ref a :: S)) := by
  subst hp
  obtain ⟨c1, vm0, k0, locs, X0, eT, hS, hk, hZ, hown, N, E, hw, hC, hsf⟩ := X
  obtain ⟨cl, Ar, q1, q2, q3, q4, q5⟩ := A
  have hin := inb_of (j := j) q2 hjz
  obtain ⟨s₂, o, hs, r⟩ := kk
  exact ⟨s₂, o, X0.baloadBytes c1.1 (j := j) (v := v) (by rw [eT]; exact Ar.1) (State.isArrayOf_alike hZ.alike Ar.2.1) Ar.2.2 hin (q4.at hin hv) (g := mkF m pc L (.int j :: .ref a :: S)) rfl rfl (hb c1.2.1 hd) _ hs, r⟩
theorem o_aaload (X : St w Z a0 EL y bytes maxL ret p l e R s m args below meth c T h sf k n) {pc pc' : Nat} {L : Array Slot} {S : List Value} {a : Addr} {kA : ClassId} {K : String} {z j : Int32} {vs : List Value} {d v : Value} (hd : decode bytes pc = .ok (.aaload, 1)) (hp : pc + 1 = pc') (A : Arv Z h a kA (.object K) z vs d) (hjz : ¬ j < 0 ∧ j < z) (hv : vs.getD j.toNatClampNeg d = v)
    (kk : Go w Z EL C N Q p e s below T (mkF m pc' L (v :: S))) : Go w Z EL C N Q p e s below T (mkF m pc L (.int j :: .ref a :: S)) := by
  subst hp
  obtain ⟨c1, vm0, k0, locs, X0, eT, hS, hk, hZ, hown, N, E, hw, hC, hsf⟩ := X
  obtain ⟨cl, Ar, q1, q2, q3, q4, q5⟩ := A
  have hin := inb_of (j := j) q2 hjz
  obtain ⟨s₂, o, hs, r⟩ := kk
  exact ⟨s₂, o, X0.aaload c1.1 (j := j) (v := v) (by rw [eT]; exact Ar.1) (State.isArrayOf_alike hZ.alike Ar.2.1) rfl Ar.2.2 hin (q4.at hin hv) (g := mkF m pc L (.int j :: .ref a :: S)) rfl rfl (hb c1.2.1 hd) _ hs, r⟩
theorem o_arraylength (X : St w Z a0 EL y bytes maxL ret p l e R s m args below meth c T h sf k n) {pc pc' : Nat} {L : Array Slot} {S : List Value} {a : Addr} {kA : ClassId} {ty : FieldType} {z : Int32} {vs : List Value} {d : Value} (hd : decode bytes pc = .ok (.arraylength, 1)) (hp : pc + 1 = pc') (A : Arv Z h a kA ty z vs d)
    (kk : Go w Z EL C N Q p e s below T (mkF m pc' L (.int z :: S))) : Go w Z EL C N Q p e s below T (mkF m pc L (.ref a :: S)) := by
  subst hp
  obtain ⟨c1, vm0, k0, locs, X0, eT, hS, hk, hZ, hown, N, E, hw, hC, hsf⟩ := X
  obtain ⟨cl, Ar, q1, q2, q3, q4, q5⟩ := A
  obtain ⟨s₂, o, hs, r⟩ := kk
  refine ⟨s₂, o, X0.arraylength c1.1 (by rw [eT]; exact Ar.1) (State.isArrayOf_alike hZ.alike Ar.2.1) (g := mkF m pc L (.ref a :: S)) rfl rfl (hb c1.2.1 hd) _ ?_, r⟩
  rw [len_of q2 q3]; exact hs
theorem o_checkcast (X : St w Z a0 EL y bytes maxL ret p l e R s m args below meth c T h sf k n) {pc pc' : Nat} {L : Array Slot} {S : List Value} {idx : Nat} {K : String} {a : Addr} (hd : decode bytes pc = .ok (.checkcast idx, 3)) (hp : pc + 3 = pc') (w1 : (Cond.classLink y.cls idx K).before a0 Z = true) (F : Ins Z h a K true)
    (kk : ∀ T', St w Z a0 EL y bytes maxL ret p l e R s m args below meth c T' h sf k n → Go w Z EL C N Q p e s below T' (mkF m pc' L (.ref a :: S))) : Go w Z EL C N Q p e s below T (mkF m pc L (.ref a :: S)) := by
  subst hp
  obtain ⟨⟨hx, hby, c1⟩, vm0, k0, locs, X0, eT, hS, hk, hZ, hown, N, E, hw, hC, hsf⟩ := X
  obtain ⟨T', X', e', st⟩ := castY (s := s.setVm vm0) X0 hx hZ hown w1 eT F (g := mkF m pc L (.ref a :: S)) rfl rfl (hb hby hd)
  obtain ⟨s₂, o, hs, r⟩ := kk T' ⟨⟨hx, hby, c1⟩, vm0, k0, locs, X', e', hS, hk, hZ, hown, N, E, hw, hC, hsf⟩
  exact ⟨s₂, o, st _ hs, r⟩
theorem o_instanceof_y (X : St w Z a0 EL y bytes maxL ret p l e R s m args below meth c T h sf k n) {pc pc' : Nat} {L : Array Slot} {S : List Value} {idx : Nat} {K : String} {a : Addr} (hd : decode bytes pc = .ok (.instanceof idx, 3)) (hp : pc + 3 = pc') (w1 : (Cond.classLink y.cls idx K).before a0 Z = true) (F : Ins Z h a K true)
    (kk : ∀ T', St w Z a0 EL y bytes maxL ret p l e R s m args below meth c T' h sf k n → Go w Z EL C N Q p e s below T' (mkF m pc' L (.int 1 :: S))) : Go w Z EL C N Q p e s below T (mkF m pc L (.ref a :: S)) := by
  subst hp
  obtain ⟨⟨hx, hby, c1⟩, vm0, k0, locs, X0, eT, hS, hk, hZ, hown, N, E, hw, hC, hsf⟩ := X
  obtain ⟨T', X', e', st⟩ := instY (s := s.setVm vm0) X0 hx hZ hown w1 eT F (g := mkF m pc L (.ref a :: S)) rfl rfl (hb hby hd)
  obtain ⟨s₂, o, hs, r⟩ := kk T' ⟨⟨hx, hby, c1⟩, vm0, k0, locs, X', e', hS, hk, hZ, hown, N, E, hw, hC, hsf⟩
  exact ⟨s₂, o, st _ hs, r⟩
theorem o_instanceof_n (X : St w Z a0 EL y bytes maxL ret p l e R s m args below meth c T h sf k n) {pc pc' : Nat} {L : Array Slot} {S : List Value} {idx : Nat} {K D : String} {a : Addr} (hd : decode bytes pc = .ok (.instanceof idx, 3)) (hp : pc + 3 = pc') (w1 : (Cond.classLink y.cls idx K).before a0 Z = true) (E0 : Exa Z h a D) (F : ∃ c t, Z.vm.findClass D = some c ∧ Z.vm.findClass K = some t ∧ Z.vm.assignable c t = false)
    (kk : ∀ T', St w Z a0 EL y bytes maxL ret p l e R s m args below meth c T' h sf k n → Go w Z EL C N Q p e s below T' (mkF m pc' L (.int 0 :: S))) : Go w Z EL C N Q p e s below T (mkF m pc L (.ref a :: S)) := by
  subst hp
  obtain ⟨⟨hx, hby, c1⟩, vm0, k0, locs, X0, eT, hS, hk, hZ, hown, N, E, hw, hC, hsf⟩ := X
  obtain ⟨T', X', e', st⟩ := instNo (s := s.setVm vm0) X0 hx hZ hown w1 eT E0 F (g := mkF m pc L (.ref a :: S)) rfl rfl (hb hby hd)
  obtain ⟨s₂, o, hs, r⟩ := kk T' ⟨⟨hx, hby, c1⟩, vm0, k0, locs, X', e', hS, hk, hZ, hown, N, E, hw, hC, hsf⟩
  exact ⟨s₂, o, st _ hs, r⟩
theorem o_instanceof_null (X : St w Z a0 EL y bytes maxL ret p l e R s m args below meth c T h sf k n) {pc pc' : Nat} {L : Array Slot} {S : List Value} {idx : Nat} (hd : decode bytes pc = .ok (.instanceof idx, 3)) (hp : pc + 3 = pc')
    (kk : Go w Z EL C N Q p e s below T (mkF m pc' L (.int 0 :: S))) : Go w Z EL C N Q p e s below T (mkF m pc L (.null :: S)) := by
  subst hp
  obtain ⟨⟨hx, hby, c1⟩, vm0, k0, locs, X0, -⟩ := X
  obtain ⟨s₂, o, hs, r⟩ := kk
  exact ⟨s₂, o, X0.instanceofNull hx (g := mkF m pc L (.null :: S)) rfl rfl (hb hby hd) _ hs, r⟩
theorem o_checkcast_null (X : St w Z a0 EL y bytes maxL ret p l e R s m args below meth c T h sf k n) {pc pc' : Nat} {L : Array Slot} {S : List Value} {idx : Nat} (hd : decode bytes pc = .ok (.checkcast idx, 3)) (hp : pc + 3 = pc')
    (kk : Go w Z EL C N Q p e s below T (mkF m pc' L (.null :: S))) : Go w Z EL C N Q p e s below T (mkF m pc L (.null :: S)) := by
  subst hp
  obtain ⟨⟨hx, hby, c1⟩, vm0, k0, locs, X0, -⟩ := X
  obtain ⟨s₂, o, hs, r⟩ := kk
  exact ⟨s₂, o, X0.checkcastNull hx (g := mkF m pc L (.null :: S)) rfl rfl (hb hby hd) _ hs, r⟩
theorem o_ldcI (X : St w Z a0 EL y bytes maxL ret p l e R s m args below meth c T h sf k n) {pc pc' : Nat} {L : Array Slot} {S : List Value} {idx : Nat} {v : Int32} (hd : decode bytes pc = .ok (.ldc idx, 2)) (hp : pc + 2 = pc') (w1 : (Cond.constant y.cls idx v).before a0 Z = true)
    (kk : Go w Z EL C N Q p e s below T (mkF m pc' L (.int v :: S))) : Go w Z EL C N Q p e s below T (mkF m pc L S) := by
  subst hp
  obtain ⟨⟨hx, hby, c1⟩, vm0, k0, locs, X0, eT, hS, hk, hZ, hown, -⟩ := X
  obtain ⟨s₂, o, hs, r⟩ := kk
  exact ⟨s₂, o, X0.ldcInt hx hown (mvT (s := s.setVm vm0) hZ w1) (g := mkF m pc L S) rfl (hb hby hd) _ hs, r⟩
/-- a String constant, its text not read -/
theorem o_ldcO (X : St w Z a0 EL y bytes maxL ret p l e R s m args below meth c T h sf k n) (hwt : w = true) {pc pc' : Nat} {L : Array Slot} {S : List Value} {idx nn : Nat} {text : String} (hd : decode bytes pc = .ok (.ldc idx, 2)) (hp : pc + 2 = pc') (w1 : (Cond.stringLink y.cls idx text).before a0 Z = true) (wS : ∀ a ∈ Bundle.stringAtoms, a.before a0 Z = true) (hn : 4 * text.toList.length ≤ nn) (hbig : nn ≤ 536870912) (hc : k + 2 ≤ R.cells) (hl : n + (nn + 4) ≤ R.slots)
    (kk : ∀ T' h' a, Ext h h' → St w Z a0 EL y bytes maxL ret p l e R s m args below meth c T' h' sf (k + 2) (n + (nn + 4)) → Go w Z EL C N Q p e s below T' (mkF m pc' L (.ref a :: S))) : Go w Z EL C N Q p e s below T (mkF m pc L S) := by
  subst hp
  obtain ⟨c1, vm0, k0, locs, X0, eT, hS, hk, hZ, hown, N, E, hw, hC, hsf⟩ := X
  obtain ⟨a, T', h', k1, X', e', E2, hS', hk', hZ', hown', hC', -, st⟩ := ldcOH X0 c1.1 hZ hown w1 wS eT hS hk c1.2.2.2.2.2.2 hC.1 (g := mkF m pc L S) rfl (hb c1.2.1 hd) hn hbig hc hl
  obtain ⟨s₂, o, hs, r⟩ := kk T' h' a E2 ⟨c1, T'.vm, k1, locs, X', e', hS', hk', hZ', hown', N, ⟨Nat.le_trans E.1 E2.1, fun a q r => E2.2 _ _ (E.2 _ _ r)⟩, (fun q => by rw [hwt] at q; cases q), hC.trans hC', fun x hx => ⟨Nat.lt_of_lt_of_le (hsf x hx).1 E2.1, hC'.safe (hsf x hx).1 (hsf x hx).2⟩⟩
  exact ⟨s₂, o, st _ hs, r⟩
/-- a String constant whose text is read -/
theorem o_ldcT (X : St w Z a0 EL y bytes maxL ret p l e R s m args below meth c T h sf k n) (hwt : w = true) {pc pc' : Nat} {L : Array Slot} {S : List Value} {idx nn : Nat} {text : String} (hd : decode bytes pc = .ok (.ldc idx, 2)) (hp : pc + 2 = pc') (w1 : (Cond.stringLink y.cls idx text).before a0 Z = true) (wS : ∀ a ∈ Bundle.stringAtoms, a.before a0 Z = true) (hmem : (y.cls, idx) ∈ EL) {vs : List Value} {z : Int32} (ht : (∀ c ∈ text.toList, c.toNat < 256) ∧ text.toList.map (fun c => Value.int (Jvm.Lit.byteI c.toNat.toUInt16)) = vs) (hz : ¬ z < 0) (hvl : z.toNatClampNeg = vs.length) (hn : 4 * text.toList.length ≤ nn) (hbig : nn ≤ 536870912) (hc : k + 2 ≤ R.cells) (hl : n + (nn + 4) ≤ R.slots)
    (kk : ∀ T' h' a b kA, Ext h h' → Exa Z h' a "java/lang/String" → Fld Z h' a "java/lang/String" "coder" "B" (.int 0) → Fld Z h' a "java/lang/String" "value" "[B" (.ref b) → Arv Z h' b kA .byte z vs (.int 0) → (∀ x ∈ sf, x ≠ a ∧ x ≠ b) → St w Z a0 EL y bytes maxL ret p l e R s m args below meth c T' h' sf (k + 2) (n + (nn + 4)) → Go w Z EL C N Q p e s below T' (mkF m pc' L (.ref a :: S))) : Go w Z EL C N Q p e s below T (mkF m pc L S) := by
  subst hp
  obtain ⟨c1, vm0, k0, locs, X0, eT, hS, hk, hZ, hown, N, E, hw, hC, hsf⟩ := X
  obtain ⟨a, T', h', k1, b, kA, X', e', E2, hS', hk', hZ', hown', hE, hF1, hF2, hA, -, -, hC', -, hne, st⟩ := ldcCH X0 c1.1 hZ hown w1 wS eT hS hk c1.2.2.2.2.2.2 hmem hC.1 ht hz hvl (g := mkF m pc L S) rfl (hb c1.2.1 hd) hn hbig hc hl
  have hsf' : ∀ x ∈ sf, x < h'.size ∧ Safe Z EL T'.vm h' x := fun x hx => ⟨Nat.lt_of_lt_of_le (hsf x hx).1 E2.1, hC'.safe (hsf x hx).1 (hsf x hx).2⟩
  obtain ⟨s₂, o, hs, r⟩ := kk T' h' a b kA E2 hE hF1 hF2 hA (fun x hx => hne x (hsf' x hx).2) ⟨c1, T'.vm, k1, locs, X', e', hS', hk', hZ', hown', N, ⟨Nat.le_trans E.1 E2.1, fun a q r => E2.2 _ _ (E.2 _ _ r)⟩, (fun q => by rw [hwt] at q; cases q), hC.trans hC', hsf'⟩
  exact ⟨s₂, o, st _ hs, r⟩
theorem o_initO (X : St w Z a0 EL y bytes maxL ret p l e R s m args below meth c T h sf k n) {pc pc' : Nat} {L : Array Slot} {S : List Value} {idx : Nat} {a : Addr} (hd : decode bytes pc = .ok (.invokespecial idx, 3)) (hp : pc + 3 = pc') (w1 : (Cond.methodLink y.cls idx Lib.objectInit).before a0 Z = true) (w2 : (Cond.instanceMethod Lib.objectInit).before a0 Z = true) (w3 : (Cond.code Lib.objectInit ⟨#[0xb1]⟩ 1 none).before a0 Z = true) (hsz : L.size = maxL) (hf : 1 ≤ R.frames) (hl : (S.map fun v => v.category).sum + 12 ≤ R.locals)
    (kk : ∀ T', St w Z a0 EL y bytes maxL ret p l e R s m args below meth c T' h sf k n → Go w Z EL C N Q p e s below T' (mkF m pc' L S)) : Go w Z EL C N Q p e s below T (mkF m pc L (.ref a :: S)) := by
  subst hp
  obtain ⟨c1, vm0, k0, locs, X0, eT, hS, hk, hZ, hown, N, E, hw, hC, hsf⟩ := X
  obtain ⟨T', X', e', st⟩ := initO (s := s.setVm vm0) X0 c1.1 hZ hown w1 w2 w3 eT (g := mkF m pc L (.ref a :: S)) rfl (hsz.trans c1.2.2.1.symm) rfl (hb c1.2.1 hd) hf (W := (S.map fun v => v.category).sum) (by show 2 * 0 + _ ≤ _; omega) hl
  obtain ⟨s₂, o, hs, r⟩ := kk T' ⟨c1, vm0, k0, locs, X', e', hS, hk, hZ, hown, N, E, hw, hC, hsf⟩
  exact ⟨s₂, o, st _ hs, r⟩
theorem EndAt.mono {o : Outcome} {t : State} {L : List Loc} {k1 n1 : Nat} (q : EndAt w s o t L k n) (hk : k ≤ k1) (hn : n ≤ n1) : EndAt w s o t L k1 n1 := by
  cases w
  · exact (show FrameEnd s o t L k1 n1 from ⟨(show FrameEnd s o t L k n from q).1, (show FrameEnd s o t L k n from q).2.1, (show FrameEnd s o t L k n from q).2.2.mono hk hn⟩)
  · obtain ⟨a, b, d, f⟩ := (show ReturnedEndW s o t L k n from q)
    exact (show ReturnedEndW s o t L k1 n1 from ⟨a, b, d, f.mono hk hn⟩)
/-- the way out, whatever is returned -/
theorem leaveG (X : St w Z a0 EL y bytes maxL ret p l e R s m args below meth c T h sf k n) {v : Option Value} {g : JFrame} (hv : ret = none → v = none) (hC : k ≤ C) (hN : n ≤ N) (q : ∀ P : Addr → Prop, (∀ x ∈ sf, P x) → Q v h P)
    (f : ∀ (vm0 : Vm) (locs : List Loc) (fs : List Frame), Stand p l e R (s.setVm vm0) m args below meth c T locs k n → p.tables.exec = Jvm.exec → meth.sig.returnType = ret → c.code = bytes → (∀ (f : JFrame) (acts : List Action), f.method = m → f.locked = none → f.entered = [] → (doReturn e (T.setTop f) acts v).1 = T.setFrames fs) → Steps p.tables e below (T.setTop g) (T.setFrames fs)) : Go w Z EL C N Q p e s below T g := by
  obtain ⟨⟨hx, hby, hml, hret, hlk, hnm, hEW⟩, vm0, k0, locs, X0, eT, hS, hk, hZ, hown, NN, E, hw, hCH, hsf⟩ := X
  have A := CHv.at X0 hZ hEW hCH.1
  have hq : Q v T.heap (Safe Z EL T.vm T.heap) := by
    rw [eT]; exact q _ fun x hx => A.safe (hsf x hx).1 (hsf x hx).2
  have hCe : CHr Z EL s.vm s.heap T.vm T.heap := by rw [eT]; exact hCH.trans A
  have hE : Ext Z.heap T.heap := by rw [eT]; exact E
  cases w with
  | true =>
    obtain ⟨fs, hr, hrun, hended, hW⟩ := X0.leaveW hS (by rw [eT]; exact hk) (v := v) (fun z => hv (hret.symm.trans z)) hlk
    exact ⟨_, _, f vm0 locs fs X0 hx hret hby hr, hrun, hended, v, locs, rfl, ⟨NN, hE, hCe, hq⟩, EndAt.mono (w := true) hW hC hN⟩
  | false =>
    have e0 := (hw rfl).1
    subst e0
    obtain ⟨fs, hr, hrun, hended, hW, hsame⟩ := Stand.leave (s := s) X0 (v := v) (fun z => hv (hret.symm.trans z)) hlk
    exact ⟨_, _, f s.vm locs fs X0 hx hret hby hr, hrun, hended, v, locs, rfl, ⟨NN, hE, hCe, hq⟩, EndAt.mono (w := false) (show FrameEnd s _ _ _ _ _ from ⟨⟨v, rfl⟩, hW, hsame⟩) hC hN⟩
theorem o_return (X : St w Z a0 EL y bytes maxL none p l e R s m args below meth c T h sf k n) {pc : Nat} {L : Array Slot} (hd : decode bytes pc = .ok (.return_, 1)) (hC : k ≤ C) (hN : n ≤ N) (q : ∀ P : Addr → Prop, (∀ x ∈ sf, P x) → Q none h P) : Go w Z EL C N Q p e s below T (mkF m pc L []) :=
  leaveG X (v := none) (fun _ => rfl) hC hN q fun vm0 locs fs X0 hx hret hby hr => X0.returnOut hx hret (hb hby hd) hr
theorem o_areturn (X : St w Z a0 EL y bytes maxL ret p l e R s m args below meth c T h sf k n) {pc : Nat} {L : Array Slot} {v : Value} {S : List Value} {t : FieldType} (hd : decode bytes pc = .ok (.areturn, 1)) (ht : ret = some t) (htr : t.isReference = true) (hv : v.isRef = true) (hC : k ≤ C) (hN : n ≤ N) (q : ∀ P : Addr → Prop, (∀ x ∈ sf, P x) → Q (some v) h P) : Go w Z EL C N Q p e s below T (mkF m pc L (v :: S)) :=
  leaveG X (v := some v) (fun z => by rw [ht] at z; cases z) hC hN q fun vm0 locs fs X0 hx hret hby hr => retOut X0 hx (hret.trans ht) (by cases t <;> cases v <;> first | rfl | (simp [FieldType.isReference] at htr; done) | (simp [Value.isRef] at hv; done)) (Or.inr (Or.inr (Or.inr (Or.inr ⟨rfl, htr, hv⟩)))) (hb hby hd) hr
theorem o_ireturn (X : St w Z a0 EL y bytes maxL ret p l e R s m args below meth c T h sf k n) {pc : Nat} {L : Array Slot} {x v : Int32} {S : List Value} {t : FieldType} (hd : decode bytes pc = .ok (.ireturn, 1)) (ht : ret = some t) (htr : t = .boolean ∨ t = .byte ∨ t = .char ∨ t = .short) (hv : nar t x = v) (hC : k ≤ C) (hN : n ≤ N) (q : ∀ P : Addr → Prop, (∀ x ∈ sf, P x) → Q (some (.int v)) h P) : Go w Z EL C N Q p e s below T (mkF m pc L (.int x :: S)) := by
  subst hv
  exact leaveG X (v := some (.int (nar t x))) (fun z => by rw [ht] at z; cases z) hC hN q fun vm0 locs fs X0 hx hret hby hr => retN X0 hx (hret.trans ht) htr (hb hby hd) hr
theorem o_ireturnI (X : St w Z a0 EL y bytes maxL ret p l e R s m args below meth c T h sf k n) {pc : Nat} {L : Array Slot} {x : Int32} {S : List Value} (hd : decode bytes pc = .ok (.ireturn, 1)) (ht : ret = some .int) (hC : k ≤ C) (hN : n ≤ N) (q : ∀ P : Addr → Prop, (∀ x ∈ sf, P x) → Q (some (.int x)) h P) : Go w Z EL C N Q p e s below T (mkF m pc L (.int x :: S)) :=
  leaveG X (v := some (.int x)) (fun z => by rw [ht] at z; cases z) hC hN q fun vm0 locs fs X0 hx hret hby hr => retOut X0 hx (hret.trans ht) rfl (Or.inl ⟨rfl, Or.inl rfl, x, rfl⟩) (hb hby hd) hr
theorem o_lreturn (X : St w Z a0 EL y bytes maxL ret p l e R s m args below meth c T h sf k n) {pc : Nat} {L : Array Slot} {x : Int64} {S : List Value} (hd : decode bytes pc = .ok (.lreturn, 1)) (ht : ret = some .long) (hC : k ≤ C) (hN : n ≤ N) (q : ∀ P : Addr → Prop, (∀ x ∈ sf, P x) → Q (some (.long x)) h P) : Go w Z EL C N Q p e s below T (mkF m pc L (.long x :: S)) :=
  leaveG X (v := some (.long x)) (fun z => by rw [ht] at z; cases z) hC hN q fun vm0 locs fs X0 hx hret hby hr => retOut X0 hx (hret.trans ht) rfl (Or.inr (Or.inl ⟨rfl, rfl, x, rfl⟩)) (hb hby hd) hr
/-- what a callee's contract says of the point behind the call -/
def PostC (Z : State) (EL : List (String × Nat)) (rm : Room) (Q' : Option Value → Heap → (Addr → Prop) → Prop) (vmB : Vm) (h : Heap) (A : Pt) (v : Option Value) (B : Pt) : Prop :=
  ∃ L, (Fr Z.heap.size L ∧ Ext Z.heap B.U.heap ∧ Q' v B.U.heap (Safe Z EL B.U.vm B.U.heap)) ∧ B.locs = A.locs ++ L ∧ B.cells = A.cells + rm.cells ∧ B.slots = A.slots + rm.slots ∧ CHr Z EL vmB h B.U.vm B.U.heap
def PreC (as : Array Value) (rm R : Room) (h : Heap) (A : Pt) (a : Array Value) : Prop := a = as ∧ A.U.heap = h ∧ A.cells + rm.cells ≤ R.cells ∧ A.slots + rm.slots ≤ R.slots
theorem Ct.backW {vm0 : Vm} {len W : Nat} (hC : Ct true Z a0 EL l y bytes maxL ret rm as h sf0 Q) (hext : Ext Z.heap h) (hZ : Z.Warmed39 vm0) (wc : (Cond.code y bytes maxL ret).before a0 Z = true) (wz : (Cond.initialized y.cls).before a0 Z = true) (hf : rm.frames + 1 ≤ R.frames) (hl : W + (maxL + 11) + rm.locals ≤ R.locals) (hEL : EW Z a0 EL) (H : CHv Z EL vm0 h) (hsf : ∀ x ∈ sf0, x < h.size ∧ Safe Z EL vm0 h x) :
    BackS l R p e below (s.setVm vm0) args y len W (PreC as rm R h) (fun A _ v B => PostC Z EL rm Q vm0 h A v B) :=
  BackS.of_freeW (bytes := bytes) (maxL := maxL) (ret := ret) (E := fun _ first o t L k n => k = rm.cells ∧ n = rm.slots ∧ (∃ v, o = .returned v ∧ Fr Z.heap.size L ∧ Ext Z.heap t.heap ∧ Q v t.heap (Safe Z EL t.vm t.heap)) ∧ CHr Z EL first.vm first.heap t.vm t.heap) (hC [] hEL hext) hf hl
    (fun m meth c A a Y hp => have hU : Z.Warmed39 A.U.vm := wtrans (s := s.setVm vm0) hZ Y.warmed
      ⟨by show (Cond.and _ .tt).before a A.U = true; rw [Cond.before_and, mv hU wc]; rfl, mv hU wc, mv hU wz, hp.2.2.1, hp.2.2.2⟩)
    (fun m meth c A a g mk Y hp => ⟨hp.1, wtrans (s := s.setVm vm0) hZ Y.warmed, hp.2.1, (CHv.at Y hZ hEL H).1, fun x hx => ⟨(hsf x hx).1, (CHv.at Y hZ hEL H).safe (hsf x hx).1 (hsf x hx).2⟩⟩) (fun _ _ _ _ _ _ _ _ _ => trivial)
    (fun _ _ _ _ ⟨v, L, h1, ⟨n1, n2, n3, n4⟩, h4⟩ => ⟨L, _, _, h4, rfl, rfl, ⟨v, h1, n1, n2, n4⟩, n3⟩)
    (fun m meth c A a g mk v t L k n Y hp _ _ ⟨e1, e2, ⟨v', e3, e4⟩, e5⟩ => by
      cases e3; subst e1 e2
      refine ⟨L, e4, rfl, rfl, rfl, (CHv.at Y hZ hEL H).trans ?_⟩
      rw [← hp.2.1]; exact e5)
theorem Ct.backP {len W : Nat} (hC : Ct false Z a0 EL l y bytes maxL ret rm as h sf0 Q) (hext : Ext Z.heap h) (hZ : Z.Warmed39 s.vm) (wc : (Cond.code y bytes maxL ret).before a0 Z = true) (wz : (Cond.initialized y.cls).before a0 Z = true) (hf : rm.frames + 1 ≤ R.frames) (hl : W + (maxL + 11) + rm.locals ≤ R.locals) (hEL : EW Z a0 EL) (H : CHv Z EL s.vm h) (hsf : ∀ x ∈ sf0, x < h.size ∧ Safe Z EL s.vm h x) :
    Back l R p e below s args y len W (PreC as rm R h) (fun A _ v B => PostC Z EL rm Q s.vm h A v B) :=
  Back.of_free (bytes := bytes) (maxL := maxL) (ret := ret) (E := fun _ first o t L k n => k = rm.cells ∧ n = rm.slots ∧ (∃ v, o = .returned v ∧ Fr Z.heap.size L ∧ Ext Z.heap t.heap ∧ Q v t.heap (Safe Z EL t.vm t.heap)) ∧ CHr Z EL first.vm first.heap t.vm t.heap) (hC [] hEL hext) hf hl
    (fun m meth c A a Y hp => have hU : Z.Warmed39 A.U.vm := wtrans hZ Y.warmed
      ⟨by show (Cond.and _ .tt).before a A.U = true; rw [Cond.before_and, mv hU wc]; rfl, mv hU wc, mv hU wz, hp.2.2.1, hp.2.2.2⟩)
    (fun m meth c A a g mk Y hp => ⟨hp.1, wtrans hZ Y.warmed, hp.2.1, (CHv.at (vm0 := s.vm) Y hZ hEL H).1, fun x hx => ⟨(hsf x hx).1, (CHv.at (vm0 := s.vm) Y hZ hEL H).safe (hsf x hx).1 (hsf x hx).2⟩⟩) (fun _ _ _ _ _ _ _ _ _ => trivial)
    (fun _ _ _ _ ⟨v, L, h1, ⟨n1, n2, n3, n4⟩, h4⟩ => ⟨L, _, _, h4, rfl, rfl, ⟨v, h1, n1, n2, n4⟩, n3⟩)
    (fun m meth c A a g mk v t L k n Y hp _ _ ⟨e1, e2, ⟨v', e3, e4⟩, e5⟩ => by
      cases e3; subst e1 e2
      refine ⟨L, e4, rfl, rfl, rfl, (CHv.at (vm0 := s.vm) Y hZ hEL H).trans ?_⟩
      rw [← hp.2.1]; exact e5)
/-- what is handed on behind a call -/
def After (w : Bool) (Z : State) (a0 : Array Value) (EL : List (String × Nat)) (y : MethodName) (bytes : ByteArray) (maxL : Nat) (ret : Option FieldType) (p : Program) (l : Launch) (e : Env) (R : Room) (s : State) (m : MethodId) (args : Array Value) (below : List Frame) (meth : Method) (c : Code) (sf : List Addr) (k n : Nat) (Q' : Option Value → Heap → (Addr → Prop) → Prop) (v : Option Value) (T' : State) : Prop :=
  ∃ (h' : Heap) (S : Addr → Prop), Q' v h' S ∧ ∀ xs : List Addr, (∀ x ∈ xs, x < h'.size ∧ S x) → St w Z a0 EL y bytes maxL ret p l e R s m args below meth c T' h' (xs ++ sf) k n
theorem After.wide {vm0 : Vm} {k0 : Nat} {locs : List Loc} {v : Option Value} {Q' : Option Value → Heap → (Addr → Prop) → Prop} {B : Pt} (c1 : p.tables.exec = Jvm.exec ∧ c.code = bytes ∧ c.maxLocals = maxL ∧ meth.sig.returnType = ret ∧ meth.locks = false ∧ meth.name = y.name ∧ EW Z a0 EL)
    (eT : T.heap = h) (hS : s.Since vm0 k0) (hk : k0 ≤ h.size) (hZ : Z.Warmed39 vm0) (hown : vm0.findClass y.cls = some m.cls) (N : Fr Z.heap.size locs) (hC : CHr Z EL s.vm s.heap vm0 h) (hsf : ∀ x ∈ sf, x < h.size ∧ Safe Z EL vm0 h x) {vm1 : Vm}
    (X' : Stand p l e R ((s.setVm vm0).setVm B.U.vm) m args below meth c B.U B.locs B.cells B.slots) (h2 : (s.setVm vm0).Since B.U.vm B.U.heap.size) (gr : T.heap.size ≤ B.U.heap.size) (post : PostC Z EL rm Q' vm0 h ⟨T.setVm vm1, locs, k, n⟩ v B) : After true Z a0 EL y bytes maxL ret p l e R s m args below meth c sf (k + rm.cells) (n + rm.slots) Q' v B.U := by
  obtain ⟨L, ⟨q1, q2, q3⟩, q4, q5, q6, q7⟩ := post
  obtain ⟨Y, hS2, hZ2, hown2⟩ := rebS hS hk X' h2 (eT ▸ gr) hZ hown
  refine ⟨_, _, q3, fun xs hxs => ⟨c1, B.U.vm, B.U.heap.size, B.locs, ?_, rfl, hS2, Nat.le_refl _, hZ2, hown2, ?_, q2, fun q => Bool.noConfusion q, hC.trans q7, fun x hx => ?_⟩⟩
  · rw [q5, q6] at Y; exact Y
  · rw [q4]; exact N.app q1
  · rcases List.mem_append.mp hx with hx | hx
    · exact hxs x hx
    · exact ⟨Nat.lt_of_lt_of_le (hsf x hx).1 q7.2.1, q7.safe (hsf x hx).1 (hsf x hx).2⟩
theorem After.plain {locs : List Loc} {k0 : Nat} {v : Option Value} {Q' : Option Value → Heap → (Addr → Prop) → Prop} {B : Pt} (hE0 : EL = []) (c1 : p.tables.exec = Jvm.exec ∧ c.code = bytes ∧ c.maxLocals = maxL ∧ meth.sig.returnType = ret ∧ meth.locks = false ∧ meth.name = y.name ∧ EW Z a0 EL)
    (hS : s.Since s.vm k0) (hk : k0 ≤ h.size) (hZ : Z.Warmed39 s.vm) (hown : s.vm.findClass y.cls = some m.cls) (N : Fr Z.heap.size locs) (hC : CHr Z EL s.vm s.heap s.vm h) (hsf : ∀ x ∈ sf, x < h.size ∧ Safe Z EL s.vm h x) {vm1 : Vm}
    (X' : Stand p l e R s m args below meth c B.U B.locs B.cells B.slots) (post : PostC Z EL rm Q' s.vm h ⟨T.setVm vm1, locs, k, n⟩ v B) : After false Z a0 EL y bytes maxL ret p l e R s m args below meth c sf (k + rm.cells) (n + rm.slots) Q' v B.U := by
  obtain ⟨L, ⟨q1, q2, q3⟩, q4, q5, q6, q7⟩ := post
  have sz : h.size ≤ B.U.heap.size := q7.2.1
  subst hE0
  refine ⟨_, _, q3, fun xs hxs => ⟨c1, s.vm, k0, B.locs, ?_, rfl, hS, Nat.le_trans hk sz, hZ, hown, ?_, q2, fun q => ⟨rfl, rfl⟩, ⟨fun p hp => (nomatch hp), Nat.le_trans hC.2.1 sz, fun y ⟨p, hp, _⟩ => (nomatch hp)⟩, fun x hx => ⟨?_, fun ⟨p, hp, _⟩ => (nomatch hp)⟩⟩⟩
  · rw [q5, q6] at X'; exact X'
  · rw [q4]; exact N.app q1
  · rcases List.mem_append.mp hx with hx | hx
    · exact (hxs x hx).1
    · exact Nat.lt_of_lt_of_le (hsf x hx).1 sz
theorem o_static (X : St w Z a0 EL y bytes maxL ret p l e R s m args below meth c T h sf k n) {pc pc' : Nat} {L : Array Slot} {rest : List Value} {idx : Nat} {z : MethodName} {bz : ByteArray} {mz : Nat} {rz : Option FieldType} {Q' : Option Value → Heap → (Addr → Prop) → Prop} (hd : decode bytes pc = .ok (.invokestatic idx, 3)) (hp : pc + 3 = pc')
    (w1 : (Cond.methodLink y.cls idx z).before a0 Z = true) (w2 : (Cond.static z).before a0 Z = true) (w3 : (Cond.initialized z.cls).before a0 Z = true) (w4 : (Cond.code z bz mz rz).before a0 Z = true) (hy : z.cls ≠ "java/lang/invoke/MethodHandle" ∧ z.cls ≠ "java/lang/invoke/VarHandle")
    (hC' : Ct w Z a0 EL l z bz mz rz rm as h sf0 Q') (hok : ∀ x ∈ sf0, x < h.size ∧ Ok Z EL h sf x) (argsL : List Value) (hargs : argsL.toArray = as) {S0 : List Value} (hst : S0 = argsL.reverse ++ rest) {ps : List FieldType} {rr : Option FieldType} (hpd : parseMethodDescriptor z.desc = some ⟨ps, rr⟩) (hlen : argsL.length = ps.length) (hsz : L.size = maxL)
    (hf : rm.frames + 1 ≤ R.frames) (hl : (rest.map fun v => v.category).sum + (mz + 11) + rm.locals ≤ R.locals) (hc : k + rm.cells ≤ R.cells) (hs : n + rm.slots ≤ R.slots)
    (kk : ∀ (v : Option Value) (T' : State), After w Z a0 EL y bytes maxL ret p l e R s m args below meth c sf (k + rm.cells) (n + rm.slots) Q' v T' → Go w Z EL C N Q p e s below T' (mkF m pc' L (v.toList ++ rest))) : Go w Z EL C N Q p e s below T (mkF m pc L S0) := by
  subst hp hargs hst
  obtain ⟨c1, vm0, k0, locs, X0, eT, hS, hk, hZ, hown, NN, E, hw, hC, hsf⟩ := X
  have hso : ∀ x ∈ sf0, x < h.size ∧ Safe Z EL vm0 h x := fun x hx => ⟨(hok x hx).1, (hok x hx).2.safe hZ.alike hsf⟩
  cases w with
  | true =>
    obtain ⟨v, vm1, B, -, X', h2, gr, post, st⟩ := callSS (s := s.setVm vm0) X0 c1.1 hown (mvT (s := s.setVm vm0) hZ w1) (mvT (s := s.setVm vm0) hZ w2) (mvT (s := s.setVm vm0) hZ w3) (mvT (s := s.setVm vm0) hZ w4) hy (hC'.backW E hZ w4 w3 hf hl c1.2.2.2.2.2.2 hC.1 hso) (g := mkF m pc L (argsL.reverse ++ rest)) rfl (hsz.trans c1.2.2.1.symm) (lenOf hpd hlen) rfl (by show 2 * 0 + _ ≤ _; omega) (hb c1.2.1 hd) (fun _ _ => ⟨rfl, eT, hc, hs⟩)
    obtain ⟨s₂, o, hs, r⟩ := kk v B.U (After.wide c1 eT hS hk hZ hown NN hC hsf X' h2 gr post)
    exact ⟨s₂, o, st.trans hs, r⟩
  | false =>
    obtain ⟨e0, hE0⟩ := hw rfl
    subst e0
    obtain ⟨v, vm1, B, -, X', post, st⟩ := Jvm.LawKit.callS (s := s) X0 c1.1 hown (mvT hZ w1) (mvT hZ w2) (mvT hZ w3) (mvT hZ w4) hy (hC'.backP E hZ w4 w3 hf hl c1.2.2.2.2.2.2 hC.1 hso) (g := mkF m pc L (argsL.reverse ++ rest)) rfl (hsz.trans c1.2.2.1.symm) (lenOf hpd hlen) rfl (by show 2 * 0 + _ ≤ _; omega) (hb c1.2.1 hd) (fun _ _ => ⟨rfl, eT, hc, hs⟩)
    obtain ⟨s₂, o, hs, r⟩ := kk v B.U (After.plain (T := T) hE0 c1 hS hk hZ hown NN hC hsf X' post)
    exact ⟨s₂, o, st _ hs, r⟩
theorem o_special (X : St w Z a0 EL y bytes maxL ret p l e R s m args below meth c T h sf k n) {pc pc' : Nat} {L : Array Slot} {rest : List Value} {idx : Nat} {z : MethodName} {bz : ByteArray} {mz : Nat} {Q' : Option Value → Heap → (Addr → Prop) → Prop} {a : Addr} (hd : decode bytes pc = .ok (.invokespecial idx, 3)) (hp : pc + 3 = pc') (hz : z.name = "<init>")
    (w1 : (Cond.methodLink y.cls idx z).before a0 Z = true) (w2 : (Cond.instanceMethod z).before a0 Z = true) (w3 : (Cond.initialized z.cls).before a0 Z = true) (w4 : (Cond.code z bz mz none).before a0 Z = true) (hy : z.cls ≠ "java/lang/invoke/MethodHandle" ∧ z.cls ≠ "java/lang/invoke/VarHandle")
    (hC' : Ct w Z a0 EL l z bz mz none rm as h sf0 Q') (hok : ∀ x ∈ sf0, x < h.size ∧ Ok Z EL h sf x) (argsL : List Value) (hargs : (.ref a :: argsL).toArray = as) {S0 : List Value} (hst : S0 = argsL.reverse ++ .ref a :: rest) {ps : List FieldType} {rr : Option FieldType} (hpd : parseMethodDescriptor z.desc = some ⟨ps, rr⟩) (hlen : argsL.length = ps.length) (hsz : L.size = maxL)
    (hf : rm.frames + 1 ≤ R.frames) (hl : (rest.map fun v => v.category).sum + (mz + 11) + rm.locals ≤ R.locals) (hc : k + rm.cells ≤ R.cells) (hs : n + rm.slots ≤ R.slots)
    (kk : ∀ (v : Option Value) (T' : State), After w Z a0 EL y bytes maxL ret p l e R s m args below meth c sf (k + rm.cells) (n + rm.slots) Q' v T' → Go w Z EL C N Q p e s below T' (mkF m pc' L (v.toList ++ rest))) : Go w Z EL C N Q p e s below T (mkF m pc L S0) := by
  subst hp hargs hst
  obtain ⟨c1, vm0, k0, locs, X0, eT, hS, hk, hZ, hown, NN, E, hw, hC, hsf⟩ := X
  have hso : ∀ x ∈ sf0, x < h.size ∧ Safe Z EL vm0 h x := fun x hx => ⟨(hok x hx).1, (hok x hx).2.safe hZ.alike hsf⟩
  cases w with
  | true =>
    obtain ⟨v, vm1, B, -, X', h2, gr, post, st⟩ := Stand.specialBackS (s := s.setVm vm0) X0 c1.1 hz hown (mvT (s := s.setVm vm0) hZ w1) (mvT (s := s.setVm vm0) hZ w2) (mvT (s := s.setVm vm0) hZ w4) hy (hC'.backW E hZ w4 w3 hf hl c1.2.2.2.2.2.2 hC.1 hso) (g := mkF m pc L (argsL.reverse ++ .ref a :: rest)) rfl (hsz.trans c1.2.2.1.symm) (Steps.refl _) (lenOf hpd hlen) rfl (by show 2 * 0 + _ ≤ _; omega) (hb c1.2.1 hd) (fun _ _ => ⟨rfl, eT, hc, hs⟩)
    obtain ⟨s₂, o, hs, r⟩ := kk v B.U (After.wide c1 eT hS hk hZ hown NN hC hsf X' h2 gr post)
    exact ⟨s₂, o, st.trans hs, r⟩
  | false =>
    obtain ⟨e0, hE0⟩ := hw rfl
    subst e0
    obtain ⟨v, vm1, B, -, X', post, st⟩ := Stand.specialBack (s := s) X0 c1.1 hz hown (mvT hZ w1) (mvT hZ w2) (mvT hZ w4) hy (hC'.backP E hZ w4 w3 hf hl c1.2.2.2.2.2.2 hC.1 hso) (g := mkF m pc L (argsL.reverse ++ .ref a :: rest)) rfl (hsz.trans c1.2.2.1.symm) (Steps.refl _) (lenOf hpd hlen) rfl (by show 2 * 0 + _ ≤ _; omega) (hb c1.2.1 hd) (fun _ _ => ⟨rfl, eT, hc, hs⟩)
    obtain ⟨s₂, o, hs, r⟩ := kk v B.U (After.plain (T := T) hE0 c1 hS hk hZ hown NN hC hsf X' post)
    exact ⟨s₂, o, st.trans hs, r⟩
theorem o_virtual (X : St w Z a0 EL y bytes maxL ret p l e R s m args below meth c T h sf k n) {pc pc' : Nat} {L : Array Slot} {rest : List Value} {idx : Nat} {u z : MethodName} {K : String} {bz : ByteArray} {mz : Nat} {rz : Option FieldType} {Q' : Option Value → Heap → (Addr → Prop) → Prop} {a : Addr} (hd : decode bytes pc = .ok (.invokevirtual idx, 3)) (hp : pc + 3 = pc')
    (w1 : (Cond.methodLink y.cls idx u).before a0 Z = true) (w2 : (Cond.declares u).before a0 Z = true) (nf : ∀ s' : State, Z.Warmed39 s'.vm → NotFace s' u) (w5 : (Cond.selects K u z).before a0 Z = true) (w6 : (Cond.instanceMethod z).before a0 Z = true) (w3 : (Cond.initialized z.cls).before a0 Z = true) (w4 : (Cond.code z bz mz rz).before a0 Z = true) (hy : u.cls ≠ "java/lang/invoke/MethodHandle" ∧ u.cls ≠ "java/lang/invoke/VarHandle") (E0 : Exa Z h a K)
    (hC' : Ct w Z a0 EL l z bz mz rz rm as h sf0 Q') (hok : ∀ x ∈ sf0, x < h.size ∧ Ok Z EL h sf x) (argsL : List Value) (hargs : (.ref a :: argsL).toArray = as) {S0 : List Value} (hst : S0 = argsL.reverse ++ .ref a :: rest) {ps : List FieldType} {rr : Option FieldType} (hpd : parseMethodDescriptor u.desc = some ⟨ps, rr⟩) (hlen : argsL.length = ps.length) (hsz : L.size = maxL)
    (hf : rm.frames + 1 ≤ R.frames) (hl : (rest.map fun v => v.category).sum + (mz + 11) + rm.locals ≤ R.locals) (hc : k + rm.cells ≤ R.cells) (hs : n + rm.slots ≤ R.slots)
    (kk : ∀ (v : Option Value) (T' : State), After w Z a0 EL y bytes maxL ret p l e R s m args below meth c sf (k + rm.cells) (n + rm.slots) Q' v T' → Go w Z EL C N Q p e s below T' (mkF m pc' L (v.toList ++ rest))) : Go w Z EL C N Q p e s below T (mkF m pc L S0) := by
  subst hp hargs hst
  obtain ⟨c1, vm0, k0, locs, X0, eT, hS, hk, hZ, hown, NN, E, hw, hC, hsf⟩ := X
  have hso : ∀ x ∈ sf0, x < h.size ∧ Safe Z EL vm0 h x := fun x hx => ⟨(hok x hx).1, (hok x hx).2.safe hZ.alike hsf⟩
  obtain ⟨cq, kq, qa, qb, qc⟩ := isOf (s := s.setVm vm0) hZ eT E0
  cases w with
  | true =>
    obtain ⟨v, vm1, B, -, X', h2, gr, post, st⟩ := Stand.virtualBackS (s := s.setVm vm0) X0 c1.1 hown (mvT (s := s.setVm vm0) hZ w1) (mvT (s := s.setVm vm0) hZ w2) (nf _ hZ) (mvT (s := s.setVm vm0) hZ w5) (mvT (s := s.setVm vm0) hZ w6) hy (hC'.backW E hZ w4 w3 hf hl c1.2.2.2.2.2.2 hC.1 hso) qa qc (g := mkF m pc L (argsL.reverse ++ .ref a :: rest)) rfl (hsz.trans c1.2.2.1.symm) (Steps.refl _) (lenOf hpd hlen) rfl (by show 2 * 0 + _ ≤ _; omega) (hb c1.2.1 hd) (fun _ _ => ⟨rfl, eT, hc, hs⟩)
    obtain ⟨s₂, o, hs, r⟩ := kk v B.U (After.wide c1 eT hS hk hZ hown NN hC hsf X' h2 gr post)
    exact ⟨s₂, o, st.trans hs, r⟩
  | false =>
    obtain ⟨e0, hE0⟩ := hw rfl
    subst e0
    obtain ⟨v, vm1, B, -, X', post, st⟩ := Stand.virtualBack (s := s) X0 c1.1 hown (mvT hZ w1) (mvT hZ w2) (nf _ hZ) (mvT hZ w5) (mvT hZ w6) hy (hC'.backP E hZ w4 w3 hf hl c1.2.2.2.2.2.2 hC.1 hso) qa qc (g := mkF m pc L (argsL.reverse ++ .ref a :: rest)) rfl (hsz.trans c1.2.2.1.symm) (Steps.refl _) (lenOf hpd hlen) rfl (by show 2 * 0 + _ ≤ _; omega) (hb c1.2.1 hd) (fun _ _ => ⟨rfl, eT, hc, hs⟩)
    obtain ⟨s₂, o, hs, r⟩ := kk v B.U (After.plain (T := T) hE0 c1 hS hk hZ hown NN hC hsf X' post)
    exact ⟨s₂, o, st.trans hs, r⟩
theorem okArr {a : Addr} {kA : ClassId} {ty : FieldType} {z : Int32} {vs : List Value} {d : Value} (A : Arv Z h a kA ty z vs d) (q : ty ≠ .byte) : ∃ (cl : Cell) (ty : FieldType), Arr Z h a cl ty ∧ ty ≠ .byte := by
  obtain ⟨cl, Ar, -⟩ := A
  exact ⟨cl, ty, Ar, q⟩
theorem St.mono (X : St w Z a0 EL y bytes maxL ret p l e R s m args below meth c T h sf k n) {k1 n1 : Nat} (hk1 : k ≤ k1) (hn1 : n ≤ n1) : St w Z a0 EL y bytes maxL ret p l e R s m args below meth c T h sf k1 n1 := by
  obtain ⟨c0, vm0, k0, locs, X0, r⟩ := X
  exact ⟨c0, vm0, k0, locs, ⟨X0.admits, X0.cas, X0.clock, X0.frames, X0.room, X0.hears, X0.method, X0.code, X0.here, X0.tail, X0.warmed, X0.limits, X0.bytes, X0.same.mono hk1 hn1⟩, r⟩
theorem o_pop2L (X : St w Z a0 EL y bytes maxL ret p l e R s m args below meth c T h sf k n) {pc pc' : Nat} {L : Array Slot} {S : List Value} {v : Int64} (hd : decode bytes pc = .ok (.pop2, 1)) (hp : pc + 1 = pc') (kk : Go w Z EL C N Q p e s below T (mkF m pc' L S)) : Go w Z EL C N Q p e s below T (mkF m pc L (.long v :: S)) := by
  subst hp
  exact ps X (fun H hx hby _ q => by
    have hd' := hb hby hd
    show Steps p.tables e below (T.setTop { method := m, pc := pc, locals := L, stack := .long v :: S, locked := none }) _
    jvm_step H [H.top, hx, hd', Value.category]
    exact q) kk

end
end W
end Jvm.Pilot.@@N@@
namespace Jvm.Pilot.@@N@@
open Jvm Jvm.ClassFile Sem Op Lib Jvm.Free Jvm.Stand Jvm.LawKit Jvm.RoadKit Bundle Jvm.Pilot.@@N@@.Jvm.D
theorem o32_toInt (n : Nat) (h : n < 2147483648) : (Int32.ofNat n).toInt = n := by
  rw [Int32.toInt_ofNat_of_lt]; simpa using h
theorem o32_lt {i n : Nat} (h : i < n) (hn : n < 2147483648) : ¬ (Int32.ofNat i) < 0 ∧ Int32.ofNat i < Int32.ofNat n := by
  have e1 := o32_toInt i (by omega)
  have e2 := o32_toInt n hn
  refine ⟨?_, ?_⟩
  · rw [Int32.lt_iff_toInt_lt, e1]; show ¬ ((i : Int) < 0); omega
  · rw [Int32.lt_iff_toInt_lt, e1, e2]; omega
theorem o32_clamp {i : Nat} (h : i < 2147483648) : (Int32.ofNat i).toNatClampNeg = i := by
  have e1 := o32_toInt i h
  show (Int32.ofNat i).toInt.toNat = i
  rw [e1]; rfl
theorem o32_succ (i : Nat) : Int32.ofNat i + 1 = Int32.ofNat (i + 1) := by
  rw [Int32.ofNat_add]; rfl
theorem o32_nn {i : Nat} (hn : i < 2147483648) : ¬ Int32.ofNat i < 0 := by
  rw [Int32.lt_iff_toInt_lt, o32_toInt i hn]; show ¬ ((i : Int) < 0); omega
theorem o32_ge {i n : Nat} (h : n ≤ i) (hn : i < 2147483648) : ¬ Int32.ofNat i < Int32.ofNat n := by
  rw [Int32.lt_iff_toInt_lt, o32_toInt i hn, o32_toInt n (by omega)]; omega
theorem o32_inj {i n : Nat} (hi : i < 2147483648) (hn : n < 2147483648) (h : Int32.ofNat i = Int32.ofNat n) : i = n := by
  have := congrArg Int32.toInt h
  rw [o32_toInt i hi, o32_toInt n hn] at this; omega
def lay {α : Type} (f : Int32 → α) (z : α) (cs : List Int32) (j : Nat) : List α := (cs.take j).map f ++ List.replicate (cs.length - j) z
theorem lay_len {α : Type} (f : Int32 → α) (z : α) (cs : List Int32) (j : Nat) (h : j ≤ cs.length) : (lay f z cs j).length = cs.length := by
  simp [lay]; omega
theorem lay_set {α : Type} (f : Int32 → α) (z : α) (cs : List Int32) (j : Nat) (h : j < cs.length) : (lay f z cs j).set j (f cs[j]) = lay f z cs (j + 1) := by
  apply List.ext_getElem
  · simp [lay]; omega
  · intro i h1 h2
    simp only [lay, List.getElem_set, List.getElem_append, List.length_map, List.length_take, List.getElem_map, List.getElem_take, List.getElem_replicate]
    by_cases e : j = i
    · subst e; simp; omega
    · rw [if_neg e]
      by_cases q : i < j
      · rw [dif_pos (by omega), dif_pos (by omega)]
      · rw [dif_neg (by omega), dif_neg (by omega)]
theorem lay_all {α : Type} (f : Int32 → α) (z : α) (cs : List Int32) : lay f z cs cs.length = cs.map f := by simp [lay]
theorem lay_zero {α : Type} (f : Int32 → α) (z : α) (cs : List Int32) : lay f z cs 0 = List.replicate cs.length z := by simp [lay]
def big (c : Int32) : Bool := decide (255 < c)
/-- a char's low byte, as a byte[] holds it -/
def lo (c : Int32) : Value := .int c.toInt8.toInt32
theorem nar_bb (x : Int32) : nar .byte x.toInt8.toInt32 = x.toInt8.toInt32 := by simp [nar]
theorem nar_ch {x : Int32} (h0 : ¬ x < 0) (h1 : ¬ 65535 < x) : nar .char x = x := by
  show x.toUInt32.toUInt16.toUInt32.toInt32 = x
  have q := c_i2c x
  apply Int32.toInt_inj.mp
  rw [Int32.lt_iff_toInt_lt] at h0 h1
  have z0 : (0 : Int32).toInt = 0 := rfl
  have z1 : (65535 : Int32).toInt = 65535 := rfl
  omega
theorem and_ch (x : Int32) : ¬ (x &&& 255).toUInt32.toUInt16.toUInt32.toInt32 < 0 ∧ ¬ 255 < (x &&& 255).toUInt32.toUInt16.toUInt32.toInt32 := by
  have q := c_i2c (x &&& 255)
  have r := c_and x 255 (by decide)
  have z0 : (0 : Int32).toInt = 0 := rfl
  have z1 : (255 : Int32).toInt = 255 := rfl
  rw [Int32.lt_iff_toInt_lt, Int32.lt_iff_toInt_lt]
  omega
theorem no_big {c : Int32} (h : ¬ 255 < c) : ¬ 65535 < c := by
  rw [Int32.lt_iff_toInt_lt] at h ⊢
  have z0 : (255 : Int32).toInt = 255 := rfl
  have z1 : (65535 : Int32).toInt = 65535 := rfl
  omega
theorem getD_map {cs : List Int32} {j : Nat} (h : j < cs.length) (d : Value) : (cs.map Value.int).getD j d = .int cs[j] := by simp [List.getD, h]
/-- a Latin-1 String: its class, its two fields, its bytes -/
def Str (Z : State) (h : Heap) (a t : Addr) (cs : List Int32) : Prop :=
  Exa Z h a "java/lang/String" ∧ Fld Z h a "java/lang/String" "coder" "B" (.int 0) ∧ Fld Z h a "java/lang/String" "value" "[B" (.ref t) ∧ (∃ kt, Arv Z h t kt .byte (Int32.ofNat cs.length) (cs.map lo) (.int 0)) ∧ cs.length ≤ 1000 ∧ ∀ c ∈ cs, ¬ c < 0 ∧ ¬ 255 < c
theorem Str.ext {Z : State} {h h' : Heap} {a t : Addr} {cs : List Int32} (F : Str Z h a t cs) (E : Ext h h') : Str Z h' a t cs := by
  obtain ⟨h1, h2, h3, ⟨kt, h4⟩, r⟩ := F; exact ⟨h1.ext E, h2.ext E, h3.ext E, ⟨kt, h4.ext E⟩, r⟩
theorem Str.keep {Z : State} {h h' : Heap} {a t : Addr} {cs : List Int32} {ws : List Addr} (F : Str Z h a t cs) (K : Keep h h' ws) (q : a ∉ ws) (r : t ∉ ws) : Str Z h' a t cs := by
  obtain ⟨h1, h2, h3, ⟨kt, h4⟩, r'⟩ := F; exact ⟨h1.keep K, h2.keep K q, h3.keep K q, ⟨kt, h4.keep K r⟩, r'⟩
theorem Str.other {Z : State} {h h' : Heap} {a t x : Addr} {sl : Nat} {v : Value} {cs : List Int32} (F : Str Z h a t cs) (W : Wr h h' x sl v) (q : a ≠ x) (r : t ≠ x) : Str Z h' a t cs := by
  obtain ⟨h1, h2, h3, ⟨kt, h4⟩, r'⟩ := F; exact ⟨h1.wr W, h2.other W (Or.inl q), h3.other W (Or.inl q), ⟨kt, h4.other W r⟩, r'⟩
theorem Str.lt {Z : State} {h : Heap} {a t : Addr} {cs : List Int32} (F : Str Z h a t cs) : a < h.size := F.1.lt
theorem Str.lt' {Z : State} {h : Heap} {a t : Addr} {cs : List Int32} (F : Str Z h a t cs) : t < h.size := by obtain ⟨-, -, -, ⟨kt, h4⟩, -⟩ := F; exact h4.lt
theorem allI {P : Int32 → Prop} {y : Int32} {L : List Int32} (q : P y) (r : ∀ x ∈ L, P x) : ∀ x ∈ y :: L, P x := fun x z => (List.mem_cons.mp z).elim (fun u => u ▸ q) (r x)
theorem lo255 {c : Int32} (h0 : ¬ c < 0) (h1 : ¬ 255 < c) : (c.toInt8.toInt32 &&& 255).toUInt32.toUInt16.toUInt32.toInt32 = c := by
  rw [Int32.lt_iff_toInt_lt] at h0 h1
  have z0 : (0 : Int32).toInt = 0 := rfl
  have z1 : (255 : Int32).toInt = 255 := rfl
  have b1 := c_i2b c
  have m1 := c_mask c.toInt8.toInt32 255 8 (by decide) rfl
  have f := c_i2c (c.toInt8.toInt32 &&& 255)
  apply Int32.toInt_inj.mp
  omega
def b2i (b : Bool) : Int32 := if b then 1 else 0
theorem b2i_0 {b : Bool} (h : b2i b = 0) : b = false := by cases b <;> simp_all [b2i]
theorem b2i_n {b : Bool} (h : ¬ b2i b = 0) : b = true := by cases b <;> simp_all [b2i]
theorem nar_b2i (b : Bool) : nar .boolean (b2i b) = b2i b := by cases b <;> rfl
theorem lo_inj {c d : Int32} (hc : ¬ c < 0 ∧ ¬ 255 < c) (hd : ¬ d < 0 ∧ ¬ 255 < d) (h : c.toInt8.toInt32 = d.toInt8.toInt32) : c = d := by rw [← lo255 hc.1 hc.2, ← lo255 hd.1 hd.2, h]
theorem getD_lo {cs : List Int32} {j : Nat} (h : j < cs.length) (d : Value) : (cs.map lo).getD j d = .int cs[j].toInt8.toInt32 := by simp [List.getD, h, lo]
theorem Str.neObj {Z : State} {h : Heap} {a t x : Addr} {cs : List Int32} {C : String} {a0 : Array Value} {n : Nat} (F : Str Z h a t cs) (E : Exa Z h x C) (w : (Cond.instantiable C n).before a0 Z = true) : t ≠ x := by
  obtain ⟨-, -, -, ⟨kt, h4⟩, -⟩ := F
  exact Ne.symm (Exa.neArv E h4 w)
theorem i2c_id {x : Int32} (h0 : ¬ x < 0) (h1 : ¬ 65535 < x) : x.toUInt32.toUInt16.toUInt32.toInt32 = x := nar_ch h0 h1
abbrev wd : Bool := false
abbrev el : List (String × Nat) := []
theorem hwe : wd = false → el = [] := fun q => rfl
theorem d_jdk_30_method_1_0 : decode jdk_30_method_1_code 0 = .ok (.aload_n 0, 1) := by decide +kernel
theorem d_jdk_30_method_1_1 : decode jdk_30_method_1_code 1 = .ok (.invokespecial 1, 3) := by decide +kernel
theorem d_jdk_30_method_1_4 : decode jdk_30_method_1_code 4 = .ok (.return_, 1) := by decide +kernel
theorem pn_java_lang_Record : plainName "java/lang/Record" = true := by first | (simp [plainName, overriddenIn]; done) | decide +kernel
theorem d_prog_97_method_1_0 : decode prog_97_method_1_code 0 = .ok (.aload_n 0, 1) := by decide +kernel
theorem d_prog_97_method_1_1 : decode prog_97_method_1_code 1 = .ok (.invokespecial 1, 3) := by decide +kernel
theorem pd___V : parseMethodDescriptor "()V" = some ⟨[], none⟩ := by decide +kernel
theorem d_prog_97_method_1_4 : decode prog_97_method_1_code 4 = .ok (.iload_n 2, 1) := by decide +kernel
theorem d_prog_97_method_1_5 : decode prog_97_method_1_code 5 = .ok (.iconst 1, 1) := by decide +kernel
theorem d_prog_97_method_1_6 : decode prog_97_method_1_code 6 = .ok (.if_icmp .lt 8, 3) := by decide +kernel
theorem d_prog_97_method_1_9 : decode prog_97_method_1_code 9 = .ok (.iload_n 2, 1) := by decide +kernel
theorem d_prog_97_method_1_10 : decode prog_97_method_1_code 10 = .ok (.iconst 4, 1) := by decide +kernel
theorem d_prog_97_method_1_11 : decode prog_97_method_1_code 11 = .ok (.if_icmp .le 17, 3) := by decide +kernel
theorem d_prog_97_method_1_28 : decode prog_97_method_1_code 28 = .ok (.aload_n 0, 1) := by decide +kernel
theorem d_prog_97_method_1_29 : decode prog_97_method_1_code 29 = .ok (.iload_n 1, 1) := by decide +kernel
theorem d_prog_97_method_1_30 : decode prog_97_method_1_code 30 = .ok (.putfield 18, 3) := by decide +kernel
theorem d_prog_97_method_1_33 : decode prog_97_method_1_code 33 = .ok (.aload_n 0, 1) := by decide +kernel
theorem d_prog_97_method_1_34 : decode prog_97_method_1_code 34 = .ok (.iload_n 2, 1) := by decide +kernel
theorem d_prog_97_method_1_35 : decode prog_97_method_1_code 35 = .ok (.putfield 22, 3) := by decide +kernel
theorem d_prog_97_method_1_38 : decode prog_97_method_1_code 38 = .ok (.return_, 1) := by decide +kernel
theorem pn_com_example_noteform_noteform_util_Quarter : plainName "com/example/noteform/noteform/util/Quarter" = true := by first | (simp [plainName, overriddenIn]; done) | decide +kernel
theorem d_jdk_2423_method_6_0 : decode jdk_2423_method_6_code 0 = .ok (.aload_n 0, 1) := by decide +kernel
theorem d_jdk_2423_method_6_1 : decode jdk_2423_method_6_code 1 = .ok (.getfield 33, 3) := by decide +kernel
theorem d_jdk_2423_method_6_4 : decode jdk_2423_method_6_code 4 = .ok (.lreturn, 1) := by decide +kernel
theorem pn_java_time_temporal_ValueRange : plainName "java/time/temporal/ValueRange" = true := by first | (simp [plainName, overriddenIn]; done) | decide +kernel
theorem d_jdk_2423_method_9_0 : decode jdk_2423_method_9_code 0 = .ok (.aload_n 0, 1) := by decide +kernel
theorem d_jdk_2423_method_9_1 : decode jdk_2423_method_9_code 1 = .ok (.getfield 43, 3) := by decide +kernel
theorem d_jdk_2423_method_9_4 : decode jdk_2423_method_9_code 4 = .ok (.lreturn, 1) := by decide +kernel
theorem d_jdk_2395_method_8_0 : decode jdk_2395_method_8_code 0 = .ok (.aload_n 0, 1) := by decide +kernel
theorem d_jdk_2395_method_8_1 : decode jdk_2395_method_8_code 1 = .ok (.getfield 124, 3) := by decide +kernel
theorem d_jdk_2395_method_8_4 : decode jdk_2395_method_8_code 4 = .ok (.areturn, 1) := by decide +kernel
theorem pn_java_time_temporal_ChronoField : plainName "java/time/temporal/ChronoField" = true := by first | (simp [plainName, overriddenIn]; done) | decide +kernel
theorem d_jdk_2323_method_24_0 : decode jdk_2323_method_24_code 0 = .ok (.aload_n 0, 1) := by decide +kernel
theorem d_jdk_2323_method_24_1 : decode jdk_2323_method_24_code 1 = .ok (.getfield 246, 3) := by decide +kernel
theorem d_jdk_2323_method_24_4 : decode jdk_2323_method_24_code 4 = .ok (.ireturn, 1) := by decide +kernel
theorem pn_java_time_LocalDate : plainName "java/time/LocalDate" = true := by first | (simp [plainName, overriddenIn]; done) | decide +kernel
theorem d_jdk_2323_method_25_0 : decode jdk_2323_method_25_code 0 = .ok (.aload_n 0, 1) := by decide +kernel
theorem d_jdk_2323_method_25_1 : decode jdk_2323_method_25_code 1 = .ok (.getfield 250, 3) := by decide +kernel
theorem d_jdk_2323_method_25_4 : decode jdk_2323_method_25_code 4 = .ok (.ireturn, 1) := by decide +kernel
theorem d_jdk_2323_method_27_0 : decode jdk_2323_method_27_code 0 = .ok (.aload_n 0, 1) := by decide +kernel
theorem d_jdk_2323_method_27_1 : decode jdk_2323_method_27_code 1 = .ok (.getfield 253, 3) := by decide +kernel
theorem d_jdk_2323_method_27_4 : decode jdk_2323_method_27_code 4 = .ok (.ireturn, 1) := by decide +kernel
theorem d_jdk_2423_method_11_0 : decode jdk_2423_method_11_code 0 = .ok (.lload_n 1, 1) := by decide +kernel
theorem d_jdk_2423_method_11_1 : decode jdk_2423_method_11_code 1 = .ok (.aload_n 0, 1) := by decide +kernel
theorem d_jdk_2423_method_11_2 : decode jdk_2423_method_11_code 2 = .ok (.invokevirtual 46, 3) := by decide +kernel
theorem pd___J : parseMethodDescriptor "()J" = some ⟨[], some .long⟩ := by decide +kernel
theorem d_jdk_2423_method_11_5 : decode jdk_2423_method_11_code 5 = .ok (.lcmp, 1) := by decide +kernel
theorem d_jdk_2423_method_11_6 : decode jdk_2423_method_11_code 6 = .ok (.ifCond .lt 16, 3) := by decide +kernel
theorem d_jdk_2423_method_11_9 : decode jdk_2423_method_11_code 9 = .ok (.lload_n 1, 1) := by decide +kernel
theorem d_jdk_2423_method_11_10 : decode jdk_2423_method_11_code 10 = .ok (.aload_n 0, 1) := by decide +kernel
theorem d_jdk_2423_method_11_11 : decode jdk_2423_method_11_code 11 = .ok (.invokevirtual 54, 3) := by decide +kernel
theorem d_jdk_2423_method_11_14 : decode jdk_2423_method_11_code 14 = .ok (.lcmp, 1) := by decide +kernel
theorem d_jdk_2423_method_11_15 : decode jdk_2423_method_11_code 15 = .ok (.ifCond .gt 7, 3) := by decide +kernel
theorem d_jdk_2423_method_11_18 : decode jdk_2423_method_11_code 18 = .ok (.iconst 1, 1) := by decide +kernel
theorem d_jdk_2423_method_11_19 : decode jdk_2423_method_11_code 19 = .ok (.goto 4, 3) := by decide +kernel
theorem d_jdk_2423_method_11_23 : decode jdk_2423_method_11_code 23 = .ok (.ireturn, 1) := by decide +kernel
theorem d_jdk_2423_method_13_0 : decode jdk_2423_method_13_code 0 = .ok (.aload_n 0, 1) := by decide +kernel
theorem d_jdk_2423_method_13_1 : decode jdk_2423_method_13_code 1 = .ok (.lload_n 1, 1) := by decide +kernel
theorem d_jdk_2423_method_13_2 : decode jdk_2423_method_13_code 2 = .ok (.invokevirtual 63, 3) := by decide +kernel
theorem pd__J_Z : parseMethodDescriptor "(J)Z" = some ⟨[.long], some .boolean⟩ := by decide +kernel
theorem d_jdk_2423_method_13_5 : decode jdk_2423_method_13_code 5 = .ok (.ifCond .ne 17, 3) := by decide +kernel
theorem d_jdk_2423_method_13_22 : decode jdk_2423_method_13_code 22 = .ok (.lload_n 1, 1) := by decide +kernel
theorem d_jdk_2423_method_13_23 : decode jdk_2423_method_13_code 23 = .ok (.lreturn, 1) := by decide +kernel
theorem d_jdk_2395_method_11_0 : decode jdk_2395_method_11_code 0 = .ok (.aload_n 0, 1) := by decide +kernel
theorem d_jdk_2395_method_11_1 : decode jdk_2395_method_11_code 1 = .ok (.invokevirtual 190, 3) := by decide +kernel
theorem pd___Ljava_time_temporal_ValueRange_ : parseMethodDescriptor "()Ljava/time/temporal/ValueRange;" = some ⟨[], some (.object "java/time/temporal/ValueRange")⟩ := by decide +kernel
theorem d_jdk_2395_method_11_4 : decode jdk_2395_method_11_code 4 = .ok (.lload_n 1, 1) := by decide +kernel
theorem d_jdk_2395_method_11_5 : decode jdk_2395_method_11_code 5 = .ok (.aload_n 0, 1) := by decide +kernel
theorem d_jdk_2395_method_11_6 : decode jdk_2395_method_11_code 6 = .ok (.invokevirtual 193, 3) := by decide +kernel
theorem pd__JLjava_time_temporal_TemporalField__J : parseMethodDescriptor "(JLjava/time/temporal/TemporalField;)J" = some ⟨[.long, (.object "java/time/temporal/TemporalField")], some .long⟩ := by decide +kernel
theorem d_jdk_2395_method_11_9 : decode jdk_2395_method_11_code 9 = .ok (.lreturn, 1) := by decide +kernel
theorem d_jdk_2323_method_14_0 : decode jdk_2323_method_14_code 0 = .ok (.aload_n 0, 1) := by decide +kernel
theorem d_jdk_2323_method_14_1 : decode jdk_2323_method_14_code 1 = .ok (.invokespecial 243, 3) := by decide +kernel
theorem d_jdk_2323_method_14_4 : decode jdk_2323_method_14_code 4 = .ok (.aload_n 0, 1) := by decide +kernel
theorem d_jdk_2323_method_14_5 : decode jdk_2323_method_14_code 5 = .ok (.iload_n 1, 1) := by decide +kernel
theorem d_jdk_2323_method_14_6 : decode jdk_2323_method_14_code 6 = .ok (.putfield 246, 3) := by decide +kernel
theorem d_jdk_2323_method_14_9 : decode jdk_2323_method_14_code 9 = .ok (.aload_n 0, 1) := by decide +kernel
theorem d_jdk_2323_method_14_10 : decode jdk_2323_method_14_code 10 = .ok (.iload_n 2, 1) := by decide +kernel
theorem d_jdk_2323_method_14_11 : decode jdk_2323_method_14_code 11 = .ok (.i2s, 1) := by decide +kernel
theorem d_jdk_2323_method_14_12 : decode jdk_2323_method_14_code 12 = .ok (.putfield 250, 3) := by decide +kernel
theorem d_jdk_2323_method_14_15 : decode jdk_2323_method_14_code 15 = .ok (.aload_n 0, 1) := by decide +kernel
theorem d_jdk_2323_method_14_16 : decode jdk_2323_method_14_code 16 = .ok (.iload_n 3, 1) := by decide +kernel
theorem d_jdk_2323_method_14_17 : decode jdk_2323_method_14_code 17 = .ok (.i2s, 1) := by decide +kernel
theorem d_jdk_2323_method_14_18 : decode jdk_2323_method_14_code 18 = .ok (.putfield 253, 3) := by decide +kernel
theorem d_jdk_2323_method_14_21 : decode jdk_2323_method_14_code 21 = .ok (.return_, 1) := by decide +kernel
theorem d_jdk_2323_method_12_0 : decode jdk_2323_method_12_code 0 = .ok (.iload_n 2, 1) := by decide +kernel
theorem d_jdk_2323_method_12_1 : decode jdk_2323_method_12_code 1 = .ok (.bipush 28, 2) := by decide +kernel
theorem d_jdk_2323_method_12_3 : decode jdk_2323_method_12_code 3 = .ok (.if_icmp .le 176, 3) := by decide +kernel
theorem d_jdk_2323_method_12_179 : decode jdk_2323_method_12_code 179 = .ok (.new 1, 3) := by decide +kernel
theorem d_jdk_2323_method_12_182 : decode jdk_2323_method_12_code 182 = .ok (.dup, 1) := by decide +kernel
theorem d_jdk_2323_method_12_183 : decode jdk_2323_method_12_code 183 = .ok (.iload_n 0, 1) := by decide +kernel
theorem d_jdk_2323_method_12_184 : decode jdk_2323_method_12_code 184 = .ok (.iload_n 1, 1) := by decide +kernel
theorem d_jdk_2323_method_12_185 : decode jdk_2323_method_12_code 185 = .ok (.iload_n 2, 1) := by decide +kernel
theorem d_jdk_2323_method_12_186 : decode jdk_2323_method_12_code 186 = .ok (.invokespecial 121, 3) := by decide +kernel
theorem pd__III_V : parseMethodDescriptor "(III)V" = some ⟨[.int, .int, .int], none⟩ := by decide +kernel
theorem d_jdk_2323_method_12_189 : decode jdk_2323_method_12_code 189 = .ok (.areturn, 1) := by decide +kernel
theorem d_jdk_2323_method_5_0 : decode jdk_2323_method_5_code 0 = .ok (.getstatic 39, 3) := by decide +kernel
theorem d_jdk_2323_method_5_3 : decode jdk_2323_method_5_code 3 = .ok (.iload_n 0, 1) := by decide +kernel
theorem d_jdk_2323_method_5_4 : decode jdk_2323_method_5_code 4 = .ok (.i2l, 1) := by decide +kernel
theorem d_jdk_2323_method_5_5 : decode jdk_2323_method_5_code 5 = .ok (.invokevirtual 45, 3) := by decide +kernel
theorem pd__J_J : parseMethodDescriptor "(J)J" = some ⟨[.long], some .long⟩ := by decide +kernel
theorem d_jdk_2323_method_5_8 : decode jdk_2323_method_5_code 8 = .ok (.pop2, 1) := by decide +kernel
theorem d_jdk_2323_method_5_9 : decode jdk_2323_method_5_code 9 = .ok (.getstatic 64, 3) := by decide +kernel
theorem d_jdk_2323_method_5_12 : decode jdk_2323_method_5_code 12 = .ok (.iload_n 1, 1) := by decide +kernel
theorem d_jdk_2323_method_5_13 : decode jdk_2323_method_5_code 13 = .ok (.i2l, 1) := by decide +kernel
theorem d_jdk_2323_method_5_14 : decode jdk_2323_method_5_code 14 = .ok (.invokevirtual 45, 3) := by decide +kernel
theorem d_jdk_2323_method_5_17 : decode jdk_2323_method_5_code 17 = .ok (.pop2, 1) := by decide +kernel
theorem d_jdk_2323_method_5_18 : decode jdk_2323_method_5_code 18 = .ok (.getstatic 51, 3) := by decide +kernel
theorem d_jdk_2323_method_5_21 : decode jdk_2323_method_5_code 21 = .ok (.iload_n 2, 1) := by decide +kernel
theorem d_jdk_2323_method_5_22 : decode jdk_2323_method_5_code 22 = .ok (.i2l, 1) := by decide +kernel
theorem d_jdk_2323_method_5_23 : decode jdk_2323_method_5_code 23 = .ok (.invokevirtual 45, 3) := by decide +kernel
theorem d_jdk_2323_method_5_26 : decode jdk_2323_method_5_code 26 = .ok (.pop2, 1) := by decide +kernel
theorem d_jdk_2323_method_5_27 : decode jdk_2323_method_5_code 27 = .ok (.iload_n 0, 1) := by decide +kernel
theorem d_jdk_2323_method_5_28 : decode jdk_2323_method_5_code 28 = .ok (.iload_n 1, 1) := by decide +kernel
theorem d_jdk_2323_method_5_29 : decode jdk_2323_method_5_code 29 = .ok (.iload_n 2, 1) := by decide +kernel
theorem d_jdk_2323_method_5_30 : decode jdk_2323_method_5_code 30 = .ok (.invokestatic 60, 3) := by decide +kernel
theorem pd__III_Ljava_time_LocalDate_ : parseMethodDescriptor "(III)Ljava/time/LocalDate;" = some ⟨[.int, .int, .int], some (.object "java/time/LocalDate")⟩ := by decide +kernel
theorem d_jdk_2323_method_5_33 : decode jdk_2323_method_5_code 33 = .ok (.areturn, 1) := by decide +kernel
theorem d_prog_97_method_3_0 : decode prog_97_method_3_code 0 = .ok (.aload_n 0, 1) := by decide +kernel
theorem d_prog_97_method_3_1 : decode prog_97_method_3_code 1 = .ok (.getfield 18, 3) := by decide +kernel
theorem d_prog_97_method_3_4 : decode prog_97_method_3_code 4 = .ok (.aload_n 0, 1) := by decide +kernel
theorem d_prog_97_method_3_5 : decode prog_97_method_3_code 5 = .ok (.getfield 22, 3) := by decide +kernel
theorem d_prog_97_method_3_8 : decode prog_97_method_3_code 8 = .ok (.iconst 1, 1) := by decide +kernel
theorem d_prog_97_method_3_9 : decode prog_97_method_3_code 9 = .ok (.isub, 1) := by decide +kernel
theorem d_prog_97_method_3_10 : decode prog_97_method_3_code 10 = .ok (.iconst 3, 1) := by decide +kernel
theorem d_prog_97_method_3_11 : decode prog_97_method_3_code 11 = .ok (.imul, 1) := by decide +kernel
theorem d_prog_97_method_3_12 : decode prog_97_method_3_code 12 = .ok (.iconst 1, 1) := by decide +kernel
theorem d_prog_97_method_3_13 : decode prog_97_method_3_code 13 = .ok (.iadd, 1) := by decide +kernel
theorem d_prog_97_method_3_14 : decode prog_97_method_3_code 14 = .ok (.iconst 1, 1) := by decide +kernel
theorem d_prog_97_method_3_15 : decode prog_97_method_3_code 15 = .ok (.invokestatic 44, 3) := by decide +kernel
theorem d_prog_97_method_3_18 : decode prog_97_method_3_code 18 = .ok (.areturn, 1) := by decide +kernel
theorem d_method_2_0 : decode method_2_code 0 = .ok (.iload_n 0, 1) := by decide +kernel
theorem d_method_2_1 : decode method_2_code 1 = .ok (.iconst 1, 1) := by decide +kernel
theorem d_method_2_2 : decode method_2_code 2 = .ok (.if_icmp .ne 5, 3) := by decide +kernel
theorem d_method_2_7 : decode method_2_code 7 = .ok (.iload_n 0, 1) := by decide +kernel
theorem d_method_2_8 : decode method_2_code 8 = .ok (.iconst 2, 1) := by decide +kernel
theorem d_method_2_9 : decode method_2_code 9 = .ok (.if_icmp .ne 5, 3) := by decide +kernel
theorem d_method_2_14 : decode method_2_code 14 = .ok (.iload_n 0, 1) := by decide +kernel
theorem d_method_2_15 : decode method_2_code 15 = .ok (.iconst 3, 1) := by decide +kernel
theorem d_method_2_16 : decode method_2_code 16 = .ok (.if_icmp .ne 6, 3) := by decide +kernel
theorem d_method_2_22 : decode method_2_code 22 = .ok (.bipush 10, 2) := by decide +kernel
theorem d_method_2_24 : decode method_2_code 24 = .ok (.ireturn, 1) := by decide +kernel
theorem d_method_2_19 : decode method_2_code 19 = .ok (.bipush 7, 2) := by decide +kernel
theorem d_method_2_21 : decode method_2_code 21 = .ok (.ireturn, 1) := by decide +kernel
theorem d_method_2_12 : decode method_2_code 12 = .ok (.iconst 4, 1) := by decide +kernel
theorem d_method_2_13 : decode method_2_code 13 = .ok (.ireturn, 1) := by decide +kernel
theorem d_method_2_5 : decode method_2_code 5 = .ok (.iconst 1, 1) := by decide +kernel
theorem d_method_2_6 : decode method_2_code 6 = .ok (.ireturn, 1) := by decide +kernel
theorem pn_com_example_noteform_noteform_util_QuarterFirstDayPinLaw : plainName "com/example/noteform/noteform/util/QuarterFirstDayPinLaw" = true := by first | (simp [plainName, overriddenIn]; done) | decide +kernel
theorem pd__II_V : parseMethodDescriptor "(II)V" = some ⟨[.int, .int], none⟩ := by decide +kernel
theorem pd___Ljava_time_LocalDate_ : parseMethodDescriptor "()Ljava/time/LocalDate;" = some ⟨[], some (.object "java/time/LocalDate")⟩ := by decide +kernel
theorem pd___I : parseMethodDescriptor "()I" = some ⟨[], some .int⟩ := by decide +kernel
theorem pd__I_I : parseMethodDescriptor "(I)I" = some ⟨[.int], some .int⟩ := by decide +kernel
theorem cmpL_nlt {x y : Int64} (h : ¬ x < y) : ¬ XT.cmpL x y < 0 := by
  unfold XT.cmpL
  split
  · decide
  · split
    · decide
    · rename_i h1 h2
      exact absurd (Int64.lt_of_le_of_ne (Int64.not_lt.mp h1) h2) h
theorem cmpL_ngt {x y : Int64} (h : ¬ y < x) : ¬ 0 < XT.cmpL x y := by
  unfold XT.cmpL
  rw [if_neg h]
  split <;> decide
def fm (q : Int32) : Int32 := if q = 1 then 1 else if q = 2 then 4 else if q = 3 then 7 else 10
def qOk (q : Int32) : Prop := q = 1 ∨ q = 2 ∨ q = 3 ∨ q = 4
theorem qOk_and (n : Int32) : qOk (1 + (n &&& 3)) := by
  have r := c_and n 3 (by decide)
  have z3 : (3 : Int32).toInt = 3 := rfl
  have key : n &&& 3 = 0 ∨ n &&& 3 = 1 ∨ n &&& 3 = 2 ∨ n &&& 3 = 3 := by
    generalize n &&& 3 = k at r
    have e0 : k = 0 ↔ k.toInt = 0 := ⟨fun q => by rw [q]; rfl, fun q => Int32.toInt_inj.mp q⟩
    have e1 : k = 1 ↔ k.toInt = 1 := ⟨fun q => by rw [q]; rfl, fun q => Int32.toInt_inj.mp q⟩
    have e2 : k = 2 ↔ k.toInt = 2 := ⟨fun q => by rw [q]; rfl, fun q => Int32.toInt_inj.mp q⟩
    have e3 : k = 3 ↔ k.toInt = 3 := ⟨fun q => by rw [q]; rfl, fun q => Int32.toInt_inj.mp q⟩
    rw [e0, e1, e2, e3]
    omega
  rcases key with h | h | h | h <;> rw [h] <;> unfold qOk <;> decide
theorem q_mon {q : Int32} (h : qOk q) : ((q - 1) * 3 + 1).toInt16.toInt32 = fm q := by rcases h with rfl | rfl | rfl | rfl <;> decide
theorem q_lo {q : Int32} (h : qOk q) : ¬ q < 1 ∧ ¬ 4 < q := by rcases h with rfl | rfl | rfl | rfl <;> decide
theorem q_rng {q : Int32} (h : qOk q) : ¬ ((q - 1) * 3 + 1).toInt64 < 1 ∧ ¬ 12 < ((q - 1) * 3 + 1).toInt64 := by rcases h with rfl | rfl | rfl | rfl <;> decide
theorem y_rng (n : Int32) : ¬ (n % 1000000000).toInt64 < -999999999 ∧ ¬ 999999999 < (n % 1000000000).toInt64 := by
  have q := c_irem n 1000000000 1000000000 rfl
  have a := rng32 n
  rw [Int64.lt_iff_toInt_lt, Int64.lt_iff_toInt_lt, c_i2l, show (-999999999 : Int64).toInt = -999999999 from rfl, show (999999999 : Int64).toInt = 999999999 from rfl]
  rcases Int.lt_or_le n.toInt 0 with h | h
  · have := q.2 h; omega
  · have := q.1 h; omega
theorem fits_s (x : Int32) : narrow .short (.int x.toInt16.toInt32) = .int x.toInt16.toInt32 := XT.narrow_s x
theorem fits_s' (x : Int32) : fits .short (.int x.toInt16.toInt32) = true := by
  have q := c_i2s x
  simp only [fits, Bool.and_eq_true, decide_eq_true_eq, Int32.le_iff_toInt_le]
  have z0 : (-32768 : Int32).toInt = -32768 := rfl
  have z1 : (32767 : Int32).toInt = 32767 := rfl
  omega
set_option maxRecDepth 65536 in
set_option maxHeartbeats 40000000 in
theorem ctRec (l : Launch) (Z : State) (a0 : Array Value) (hw : ∀ d ∈ tables_1, d.before a0 Z = true) (a : Addr) (h0 : Heap)  :
    W.Ct wd Z a0 el l (⟨"java/lang/Record", "<init>", "()V"⟩ : MethodName) jdk_30_method_1_code 1 none ({ frames := 1, cells := 0, slots := 0, locals := 12 } : Room) #[(.ref a)] h0 [] (fun v h S => v = none ∧ h = h0) := by
  refine W.Ct.walk hwe (plainFor_of_name pn_java_lang_Record) ?_
  intro p e s m below meth c T hE0 X
  refine W.castG (show entryFrame m #[(.ref a)] 1 = mkF m 0 #[.val (.ref a)] [] from by first | (simp [entryFrame, mkF, argsToLocals, Value.category]; done) | rfl) ?_
  refine W.o_aloadN X (pc' := 1) d_jdk_30_method_1_0 rfl rfl rfl ?_
  refine W.o_initO X (pc' := 4) d_jdk_30_method_1_1 rfl (hw _ (List.mem_of_getElem? (i := 12) rfl)) (hw _ (List.mem_of_getElem? (i := 13) rfl)) (hw _ (List.mem_of_getElem? (i := 14) rfl)) rfl (by decide) (by decide) (fun T X => ?_)
  exact W.o_return X d_jdk_30_method_1_4 (by decide) (by decide) fun P hP => ⟨rfl, rfl⟩
set_option maxRecDepth 65536 in
set_option maxHeartbeats 40000000 in
theorem ctQua (l : Launch) (Z : State) (a0 : Array Value) (hw : ∀ d ∈ tables_1, d.before a0 Z = true) (a : Addr) (y q : Int32) (h0 : Heap) (hq : ¬ q < 1 ∧ ¬ 4 < q) (gz : Z.heap.size ≤ a) (E0 : Exa Z h0 a "com/example/noteform/noteform/util/Quarter") (F0 : Fld Z h0 a "com/example/noteform/noteform/util/Quarter" "year" "I" (.int (0 : Int32))) (F1 : Fld Z h0 a "com/example/noteform/noteform/util/Quarter" "number" "I" (.int (0 : Int32))) :
    W.Ct wd Z a0 el l (⟨"com/example/noteform/noteform/util/Quarter", "<init>", "(II)V"⟩ : MethodName) prog_97_method_1_code 3 none ({ frames := 2, cells := 0, slots := 0, locals := 24 } : Room) #[(.ref a), (.int y), (.int q)] h0 [] (fun v h S => v = none ∧ Keep h0 h [a] ∧ Exa Z h a "com/example/noteform/noteform/util/Quarter" ∧ Fld Z h a "com/example/noteform/noteform/util/Quarter" "year" "I" (.int y) ∧ Fld Z h a "com/example/noteform/noteform/util/Quarter" "number" "I" (.int q)) := by
  refine W.Ct.walk hwe (plainFor_of_name pn_com_example_noteform_noteform_util_Quarter) ?_
  intro p e s m below meth c T hE0 X
  refine W.castG (show entryFrame m #[(.ref a), (.int y), (.int q)] 3 = mkF m 0 #[.val (.ref a), .val (.int y), .val (.int q)] [] from by first | (simp [entryFrame, mkF, argsToLocals, Value.category]; done) | rfl) ?_
  refine W.o_aloadN X (pc' := 1) d_prog_97_method_1_0 rfl rfl rfl ?_
  refine W.o_special X (pc' := 4) d_prog_97_method_1_1 rfl (z := (⟨"java/lang/Record", "<init>", "()V"⟩ : MethodName)) rfl (hw _ (List.mem_of_getElem? (i := 7) rfl)) (hw _ (List.mem_of_getElem? (i := 8) rfl)) (hw _ (List.mem_of_getElem? (i := 10) rfl)) (hw _ (List.mem_of_getElem? (i := 11) rfl)) (by decide) (ctRec l Z a0 hw a h0) (fun _ q => nomatch q) [] rfl (rest := []) rfl pd___V rfl rfl (by decide) (by exact Nat.le_of_ble_eq_true rfl) (by decide) (by decide) (fun v1 T q2 => ?_)
  obtain ⟨h5, S3, ⟨rfl, eh⟩, X4⟩ := q2
  have eh := eh.symm
  subst eh
  have X := X4 [] all0
  show W.Go _ _ _ _ _ _ _ _ _ _ _ (mkF m 4 #[.val (.ref a), .val (.int y), .val (.int q)] [])
  refine W.o_iloadN X (pc' := 5) d_prog_97_method_1_4 rfl rfl ?_
  refine W.o_iconst X (1 : Int32) (pc' := 6) d_prog_97_method_1_5 rfl rfl ?_
  refine W.o_if_icmplt X (pt := 14) (pf := 9) d_prog_97_method_1_6 ⟨by decide, by decide⟩ rfl (fun hc => absurd hc hq.1) (fun _ => ?_)
  refine W.o_iloadN X (pc' := 10) d_prog_97_method_1_9 rfl rfl ?_
  refine W.o_iconst X (4 : Int32) (pc' := 11) d_prog_97_method_1_10 rfl rfl ?_
  refine W.o_if_icmple X (pt := 28) (pf := 14) d_prog_97_method_1_11 ⟨by decide, by decide⟩ rfl (fun _ => ?_) (fun hc => absurd hc hq.2)
  refine W.o_aloadN X (pc' := 29) d_prog_97_method_1_28 rfl rfl rfl ?_
  refine W.o_iloadN X (pc' := 30) d_prog_97_method_1_29 rfl rfl ?_
  refine W.o_putfield X (pc' := 33) d_prog_97_method_1_30 rfl (hw _ (List.mem_of_getElem? (i := 15) rfl)) Via.refl F0 E0 (Or.inr ⟨(hw _ (List.mem_of_getElem? (i := 16) rfl)), rfl, rfl⟩) (hw _ (List.mem_of_getElem? (i := 2) rfl)) (ty := .int) (by decide) rfl rfl gz (Or.inl rfl) (fun T h6 w7 X => ?_)
  have f8 := F0.same w7
  refine W.o_aloadN X (pc' := 34) d_prog_97_method_1_33 rfl rfl rfl ?_
  refine W.o_iloadN X (pc' := 35) d_prog_97_method_1_34 rfl rfl ?_
  have f9 := (E0.wr w7)
  have f10 := (F1.other w7 (Or.inr (slot_ne (Or.inr (hw _ (List.mem_of_getElem? (i := 18) rfl))) (Or.inr (hw _ (List.mem_of_getElem? (i := 16) rfl))) (by decide) (t := .int) (t' := .int) (by decide) (by decide))))
  refine W.o_putfield X (pc' := 38) d_prog_97_method_1_35 rfl (hw _ (List.mem_of_getElem? (i := 17) rfl)) Via.refl f10 f9 (Or.inr ⟨(hw _ (List.mem_of_getElem? (i := 18) rfl)), rfl, rfl⟩) (hw _ (List.mem_of_getElem? (i := 2) rfl)) (ty := .int) (by decide) rfl rfl gz (Or.inl rfl) (fun T h11 w12 X => ?_)
  have f13 := f10.same w12
  have f14 := (f9.wr w12)
  have f15 := (f8.other w12 (Or.inr (slot_ne (Or.inr (hw _ (List.mem_of_getElem? (i := 16) rfl))) (Or.inr (hw _ (List.mem_of_getElem? (i := 18) rfl))) (by decide) (t := .int) (t' := .int) (by decide) (by decide))))
  exact W.o_return X d_prog_97_method_1_38 (by decide) (by decide) fun P hP => ⟨rfl, (((Keep.refl h0 [a]).wr w7 (Or.inl (List.mem_of_getElem? (i := 0) rfl))).wr w12 (Or.inl (List.mem_of_getElem? (i := 0) rfl))), f14, f15, f13⟩
set_option maxRecDepth 65536 in
set_option maxHeartbeats 40000000 in
theorem ctMin (l : Launch) (Z : State) (a0 : Array Value) (hw : ∀ d ∈ tables_1, d.before a0 Z = true) (a : Addr) (x : Int64) (h0 : Heap) (F0 : Fld Z h0 a "java/time/temporal/ValueRange" "minSmallest" "J" (.long x)) :
    W.Ct wd Z a0 el l (⟨"java/time/temporal/ValueRange", "getMinimum", "()J"⟩ : MethodName) jdk_2423_method_6_code 1 (some .long) ({ frames := 0, cells := 0, slots := 0, locals := 0 } : Room) #[(.ref a)] h0 [] (fun v h S => v = some (.long x) ∧ h = h0) := by
  refine W.Ct.walk hwe (plainFor_of_name pn_java_time_temporal_ValueRange) ?_
  intro p e s m below meth c T hE0 X
  refine W.castG (show entryFrame m #[(.ref a)] 1 = mkF m 0 #[.val (.ref a)] [] from by first | (simp [entryFrame, mkF, argsToLocals, Value.category]; done) | rfl) ?_
  refine W.o_aloadN X (pc' := 1) d_jdk_2423_method_6_0 rfl rfl rfl ?_
  refine W.o_getfield X (pc' := 4) d_jdk_2423_method_6_1 rfl (hw _ (List.mem_of_getElem? (i := 58) rfl)) Via.refl F0 (fun T X => ?_)
  exact W.o_lreturn X d_jdk_2423_method_6_4 rfl (by decide) (by decide) fun P hP => ⟨rfl, rfl⟩
set_option maxRecDepth 65536 in
set_option maxHeartbeats 40000000 in
theorem ctMax (l : Launch) (Z : State) (a0 : Array Value) (hw : ∀ d ∈ tables_1, d.before a0 Z = true) (a : Addr) (x : Int64) (h0 : Heap) (F0 : Fld Z h0 a "java/time/temporal/ValueRange" "maxLargest" "J" (.long x)) :
    W.Ct wd Z a0 el l (⟨"java/time/temporal/ValueRange", "getMaximum", "()J"⟩ : MethodName) jdk_2423_method_9_code 1 (some .long) ({ frames := 0, cells := 0, slots := 0, locals := 0 } : Room) #[(.ref a)] h0 [] (fun v h S => v = some (.long x) ∧ h = h0) := by
  refine W.Ct.walk hwe (plainFor_of_name pn_java_time_temporal_ValueRange) ?_
  intro p e s m below meth c T hE0 X
  refine W.castG (show entryFrame m #[(.ref a)] 1 = mkF m 0 #[.val (.ref a)] [] from by first | (simp [entryFrame, mkF, argsToLocals, Value.category]; done) | rfl) ?_
  refine W.o_aloadN X (pc' := 1) d_jdk_2423_method_9_0 rfl rfl rfl ?_
  refine W.o_getfield X (pc' := 4) d_jdk_2423_method_9_1 rfl (hw _ (List.mem_of_getElem? (i := 65) rfl)) Via.refl F0 (fun T X => ?_)
  exact W.o_lreturn X d_jdk_2423_method_9_4 rfl (by decide) (by decide) fun P hP => ⟨rfl, rfl⟩
set_option maxRecDepth 65536 in
set_option maxHeartbeats 40000000 in
theorem ctRng (l : Launch) (Z : State) (a0 : Array Value) (hw : ∀ d ∈ tables_1, d.before a0 Z = true) (a : Addr) (x : Addr) (h0 : Heap) (F0 : Fld Z h0 a "java/time/temporal/ChronoField" "range" "Ljava/time/temporal/ValueRange;" (.ref x)) :
    W.Ct wd Z a0 el l (⟨"java/time/temporal/ChronoField", "range", "()Ljava/time/temporal/ValueRange;"⟩ : MethodName) jdk_2395_method_8_code 1 (some (.object "java/time/temporal/ValueRange")) ({ frames := 0, cells := 0, slots := 0, locals := 0 } : Room) #[(.ref a)] h0 [] (fun v h S => v = some (.ref x) ∧ h = h0) := by
  refine W.Ct.walk hwe (plainFor_of_name pn_java_time_temporal_ChronoField) ?_
  intro p e s m below meth c T hE0 X
  refine W.castG (show entryFrame m #[(.ref a)] 1 = mkF m 0 #[.val (.ref a)] [] from by first | (simp [entryFrame, mkF, argsToLocals, Value.category]; done) | rfl) ?_
  refine W.o_aloadN X (pc' := 1) d_jdk_2395_method_8_0 rfl rfl rfl ?_
  refine W.o_getfield X (pc' := 4) d_jdk_2395_method_8_1 rfl (hw _ (List.mem_of_getElem? (i := 40) rfl)) Via.refl F0 (fun T X => ?_)
  exact W.o_areturn X d_jdk_2395_method_8_4 rfl rfl rfl (by decide) (by decide) fun P hP => ⟨rfl, rfl⟩
set_option maxRecDepth 65536 in
set_option maxHeartbeats 40000000 in
theorem ctGY (l : Launch) (Z : State) (a0 : Array Value) (hw : ∀ d ∈ tables_1, d.before a0 Z = true) (a : Addr) (x : Int32) (h0 : Heap) (F0 : Fld Z h0 a "java/time/LocalDate" "year" "I" (.int x)) :
    W.Ct wd Z a0 el l (⟨"java/time/LocalDate", "getYear", "()I"⟩ : MethodName) jdk_2323_method_24_code 1 (some .int) ({ frames := 0, cells := 0, slots := 0, locals := 0 } : Room) #[(.ref a)] h0 [] (fun v h S => v = some (.int x) ∧ h = h0) := by
  refine W.Ct.walk hwe (plainFor_of_name pn_java_time_LocalDate) ?_
  intro p e s m below meth c T hE0 X
  refine W.castG (show entryFrame m #[(.ref a)] 1 = mkF m 0 #[.val (.ref a)] [] from by first | (simp [entryFrame, mkF, argsToLocals, Value.category]; done) | rfl) ?_
  refine W.o_aloadN X (pc' := 1) d_jdk_2323_method_24_0 rfl rfl rfl ?_
  refine W.o_getfield X (pc' := 4) d_jdk_2323_method_24_1 rfl (hw _ (List.mem_of_getElem? (i := 79) rfl)) Via.refl F0 (fun T X => ?_)
  exact W.o_ireturnI X d_jdk_2323_method_24_4 rfl (by decide) (by decide) fun P hP => ⟨rfl, rfl⟩
set_option maxRecDepth 65536 in
set_option maxHeartbeats 40000000 in
theorem ctGM (l : Launch) (Z : State) (a0 : Array Value) (hw : ∀ d ∈ tables_1, d.before a0 Z = true) (a : Addr) (x : Int32) (h0 : Heap) (F0 : Fld Z h0 a "java/time/LocalDate" "month" "S" (.int x)) :
    W.Ct wd Z a0 el l (⟨"java/time/LocalDate", "getMonthValue", "()I"⟩ : MethodName) jdk_2323_method_25_code 1 (some .int) ({ frames := 0, cells := 0, slots := 0, locals := 0 } : Room) #[(.ref a)] h0 [] (fun v h S => v = some (.int x) ∧ h = h0) := by
  refine W.Ct.walk hwe (plainFor_of_name pn_java_time_LocalDate) ?_
  intro p e s m below meth c T hE0 X
  refine W.castG (show entryFrame m #[(.ref a)] 1 = mkF m 0 #[.val (.ref a)] [] from by first | (simp [entryFrame, mkF, argsToLocals, Value.category]; done) | rfl) ?_
  refine W.o_aloadN X (pc' := 1) d_jdk_2323_method_25_0 rfl rfl rfl ?_
  refine W.o_getfield X (pc' := 4) d_jdk_2323_method_25_1 rfl (hw _ (List.mem_of_getElem? (i := 81) rfl)) Via.refl F0 (fun T X => ?_)
  exact W.o_ireturnI X d_jdk_2323_method_25_4 rfl (by decide) (by decide) fun P hP => ⟨rfl, rfl⟩
set_option maxRecDepth 65536 in
set_option maxHeartbeats 40000000 in
theorem ctGD (l : Launch) (Z : State) (a0 : Array Value) (hw : ∀ d ∈ tables_1, d.before a0 Z = true) (a : Addr) (x : Int32) (h0 : Heap) (F0 : Fld Z h0 a "java/time/LocalDate" "day" "S" (.int x)) :
    W.Ct wd Z a0 el l (⟨"java/time/LocalDate", "getDayOfMonth", "()I"⟩ : MethodName) jdk_2323_method_27_code 1 (some .int) ({ frames := 0, cells := 0, slots := 0, locals := 0 } : Room) #[(.ref a)] h0 [] (fun v h S => v = some (.int x) ∧ h = h0) := by
  refine W.Ct.walk hwe (plainFor_of_name pn_java_time_LocalDate) ?_
  intro p e s m below meth c T hE0 X
  refine W.castG (show entryFrame m #[(.ref a)] 1 = mkF m 0 #[.val (.ref a)] [] from by first | (simp [entryFrame, mkF, argsToLocals, Value.category]; done) | rfl) ?_
  refine W.o_aloadN X (pc' := 1) d_jdk_2323_method_27_0 rfl rfl rfl ?_
  refine W.o_getfield X (pc' := 4) d_jdk_2323_method_27_1 rfl (hw _ (List.mem_of_getElem? (i := 83) rfl)) Via.refl F0 (fun T X => ?_)
  exact W.o_ireturnI X d_jdk_2323_method_27_4 rfl (by decide) (by decide) fun P hP => ⟨rfl, rfl⟩
set_option maxRecDepth 65536 in
set_option maxHeartbeats 40000000 in
theorem ctVal (l : Launch) (Z : State) (a0 : Array Value) (hw : ∀ d ∈ tables_1, d.before a0 Z = true) (r : Addr) (lo hi x : Int64) (h0 : Heap) (E0 : Exa Z h0 r "java/time/temporal/ValueRange") (F0 : Fld Z h0 r "java/time/temporal/ValueRange" "minSmallest" "J" (.long lo)) (F1 : Fld Z h0 r "java/time/temporal/ValueRange" "maxLargest" "J" (.long hi)) (hx : ¬ x < lo ∧ ¬ hi < x) :
    W.Ct wd Z a0 el l (⟨"java/time/temporal/ValueRange", "isValidValue", "(J)Z"⟩ : MethodName) jdk_2423_method_11_code 3 (some .boolean) ({ frames := 1, cells := 0, slots := 0, locals := 14 } : Room) #[(.ref r), (.long x)] h0 [] (fun v h S => v = some (.int 1) ∧ h = h0) := by
  refine W.Ct.walk hwe (plainFor_of_name pn_java_time_temporal_ValueRange) ?_
  intro p e s m below meth c T hE0 X
  refine W.castG (show entryFrame m #[(.ref r), (.long x)] 3 = mkF m 0 #[.val (.ref r), .val (.long x), .second] [] from by first | (simp [entryFrame, mkF, argsToLocals, Value.category]; done) | rfl) ?_
  refine W.o_lloadN X (pc' := 1) d_jdk_2423_method_11_0 rfl rfl ?_
  refine W.o_aloadN X (pc' := 2) d_jdk_2423_method_11_1 rfl rfl rfl ?_
  refine W.o_virtual X (pc' := 5) d_jdk_2423_method_11_2 rfl (u := (⟨"java/time/temporal/ValueRange", "getMinimum", "()J"⟩ : MethodName)) (z := (⟨"java/time/temporal/ValueRange", "getMinimum", "()J"⟩ : MethodName)) (hw _ (List.mem_of_getElem? (i := 53) rfl)) (hw _ (List.mem_of_getElem? (i := 54) rfl)) (fun s' hZ => notFace_of_selects (args := #[]) (mvT hZ (hw _ (List.mem_of_getElem? (i := 56) rfl)))) (hw _ (List.mem_of_getElem? (i := 56) rfl)) (hw _ (List.mem_of_getElem? (i := 55) rfl)) (hw _ (List.mem_of_getElem? (i := 46) rfl)) (hw _ (List.mem_of_getElem? (i := 57) rfl)) (by decide) E0 (ctMin l Z a0 hw r lo h0 F0) (fun _ q => nomatch q) [] rfl (rest := [(.long x)]) rfl pd___J rfl rfl (by decide) (by exact Nat.le_of_ble_eq_true rfl) (by decide) (by decide) (fun v16 T q17 => ?_)
  obtain ⟨h20, S18, ⟨rfl, eh⟩, X19⟩ := q17
  have eh := eh.symm
  subst eh
  have X := X19 [] all0
  show W.Go _ _ _ _ _ _ _ _ _ _ _ (mkF m 5 #[.val (.ref r), .val (.long x), .second] [(.long lo), (.long x)])
  refine W.o_lcmp X (pc' := 6) d_jdk_2423_method_11_5 rfl ?_
  refine W.o_iflt X (pt := 22) (pf := 9) d_jdk_2423_method_11_6 ⟨by decide, by decide⟩ rfl (fun hc => absurd hc (cmpL_nlt hx.1)) (fun _ => ?_)
  refine W.o_lloadN X (pc' := 10) d_jdk_2423_method_11_9 rfl rfl ?_
  refine W.o_aloadN X (pc' := 11) d_jdk_2423_method_11_10 rfl rfl rfl ?_
  refine W.o_virtual X (pc' := 14) d_jdk_2423_method_11_11 rfl (u := (⟨"java/time/temporal/ValueRange", "getMaximum", "()J"⟩ : MethodName)) (z := (⟨"java/time/temporal/ValueRange", "getMaximum", "()J"⟩ : MethodName)) (hw _ (List.mem_of_getElem? (i := 60) rfl)) (hw _ (List.mem_of_getElem? (i := 61) rfl)) (fun s' hZ => notFace_of_selects (args := #[]) (mvT hZ (hw _ (List.mem_of_getElem? (i := 63) rfl)))) (hw _ (List.mem_of_getElem? (i := 63) rfl)) (hw _ (List.mem_of_getElem? (i := 62) rfl)) (hw _ (List.mem_of_getElem? (i := 46) rfl)) (hw _ (List.mem_of_getElem? (i := 64) rfl)) (by decide) E0 (ctMax l Z a0 hw r hi h0 F1) (fun _ q => nomatch q) [] rfl (rest := [(.long x)]) rfl pd___J rfl rfl (by decide) (by exact Nat.le_of_ble_eq_true rfl) (by decide) (by decide) (fun v21 T q22 => ?_)
  obtain ⟨h25, S23, ⟨rfl, eh⟩, X24⟩ := q22
  have eh := eh.symm
  subst eh
  have X := X24 [] all0
  show W.Go _ _ _ _ _ _ _ _ _ _ _ (mkF m 14 #[.val (.ref r), .val (.long x), .second] [(.long hi), (.long x)])
  refine W.o_lcmp X (pc' := 15) d_jdk_2423_method_11_14 rfl ?_
  refine W.o_ifgt X (pt := 22) (pf := 18) d_jdk_2423_method_11_15 ⟨by decide, by decide⟩ rfl (fun hc => absurd hc (cmpL_ngt hx.2)) (fun _ => ?_)
  refine W.o_iconst X (1 : Int32) (pc' := 19) d_jdk_2423_method_11_18 rfl rfl ?_
  refine W.o_goto X (pc' := 23) d_jdk_2423_method_11_19 ⟨by decide, by decide⟩ ?_
  exact W.o_ireturn X d_jdk_2423_method_11_23 rfl (Or.inl rfl) (v := 1) rfl (by decide) (by decide) fun P hP => ⟨rfl, rfl⟩
set_option maxRecDepth 65536 in
set_option maxHeartbeats 40000000 in
theorem ctChk (l : Launch) (Z : State) (a0 : Array Value) (hw : ∀ d ∈ tables_1, d.before a0 Z = true) (r f : Addr) (lo hi x : Int64) (h0 : Heap) (E0 : Exa Z h0 r "java/time/temporal/ValueRange") (F0 : Fld Z h0 r "java/time/temporal/ValueRange" "minSmallest" "J" (.long lo)) (F1 : Fld Z h0 r "java/time/temporal/ValueRange" "maxLargest" "J" (.long hi)) (hx : ¬ x < lo ∧ ¬ hi < x) :
    W.Ct wd Z a0 el l (⟨"java/time/temporal/ValueRange", "checkValidValue", "(JLjava/time/temporal/TemporalField;)J"⟩ : MethodName) jdk_2423_method_13_code 4 (some .long) ({ frames := 2, cells := 0, slots := 0, locals := 28 } : Room) #[(.ref r), (.long x), (.ref f)] h0 [] (fun v h S => v = some (.long x) ∧ h = h0) := by
  refine W.Ct.walk hwe (plainFor_of_name pn_java_time_temporal_ValueRange) ?_
  intro p e s m below meth c T hE0 X
  refine W.castG (show entryFrame m #[(.ref r), (.long x), (.ref f)] 4 = mkF m 0 #[.val (.ref r), .val (.long x), .second, .val (.ref f)] [] from by first | (simp [entryFrame, mkF, argsToLocals, Value.category]; done) | rfl) ?_
  refine W.o_aloadN X (pc' := 1) d_jdk_2423_method_13_0 rfl rfl rfl ?_
  refine W.o_lloadN X (pc' := 2) d_jdk_2423_method_13_1 rfl rfl ?_
  refine W.o_virtual X (pc' := 5) d_jdk_2423_method_13_2 rfl (u := (⟨"java/time/temporal/ValueRange", "isValidValue", "(J)Z"⟩ : MethodName)) (z := (⟨"java/time/temporal/ValueRange", "isValidValue", "(J)Z"⟩ : MethodName)) (hw _ (List.mem_of_getElem? (i := 48) rfl)) (hw _ (List.mem_of_getElem? (i := 49) rfl)) (fun s' hZ => notFace_of_selects (args := #[]) (mvT hZ (hw _ (List.mem_of_getElem? (i := 51) rfl)))) (hw _ (List.mem_of_getElem? (i := 51) rfl)) (hw _ (List.mem_of_getElem? (i := 50) rfl)) (hw _ (List.mem_of_getElem? (i := 46) rfl)) (hw _ (List.mem_of_getElem? (i := 52) rfl)) (by decide) E0 (ctVal l Z a0 hw r lo hi x h0 E0 F0 F1 hx) (fun _ q => nomatch q) [(.long x)] rfl (rest := []) rfl pd__J_Z rfl rfl (by decide) (by exact Nat.le_of_ble_eq_true rfl) (by decide) (by decide) (fun v26 T q27 => ?_)
  obtain ⟨h30, S28, ⟨rfl, eh⟩, X29⟩ := q27
  have eh := eh.symm
  subst eh
  have X := X29 [] all0
  show W.Go _ _ _ _ _ _ _ _ _ _ _ (mkF m 5 #[.val (.ref r), .val (.long x), .second, .val (.ref f)] [(.int (1 : Int32))])
  refine W.o_ifne X (pt := 22) (pf := 8) d_jdk_2423_method_13_5 ⟨by decide, by decide⟩ rfl (fun _ => ?_) (fun hc => absurd hc (by decide))
  refine W.o_lloadN X (pc' := 23) d_jdk_2423_method_13_22 rfl rfl ?_
  exact W.o_lreturn X d_jdk_2423_method_13_23 rfl (by decide) (by decide) fun P hP => ⟨rfl, rfl⟩
set_option maxRecDepth 65536 in
set_option maxHeartbeats 40000000 in
theorem ctFld (l : Launch) (Z : State) (a0 : Array Value) (hw : ∀ d ∈ tables_1, d.before a0 Z = true) (f r : Addr) (lo hi x : Int64) (h0 : Heap) (EF : Exa Z h0 f "java/time/temporal/ChronoField") (FF : Fld Z h0 f "java/time/temporal/ChronoField" "range" "Ljava/time/temporal/ValueRange;" (.ref r)) (E0 : Exa Z h0 r "java/time/temporal/ValueRange") (F0 : Fld Z h0 r "java/time/temporal/ValueRange" "minSmallest" "J" (.long lo)) (F1 : Fld Z h0 r "java/time/temporal/ValueRange" "maxLargest" "J" (.long hi)) (hx : ¬ x < lo ∧ ¬ hi < x) :
    W.Ct wd Z a0 el l (⟨"java/time/temporal/ChronoField", "checkValidValue", "(J)J"⟩ : MethodName) jdk_2395_method_11_code 3 (some .long) ({ frames := 3, cells := 0, slots := 0, locals := 43 } : Room) #[(.ref f), (.long x)] h0 [] (fun v h S => v = some (.long x) ∧ h = h0) := by
  refine W.Ct.walk hwe (plainFor_of_name pn_java_time_temporal_ChronoField) ?_
  intro p e s m below meth c T hE0 X
  refine W.castG (show entryFrame m #[(.ref f), (.long x)] 3 = mkF m 0 #[.val (.ref f), .val (.long x), .second] [] from by first | (simp [entryFrame, mkF, argsToLocals, Value.category]; done) | rfl) ?_
  refine W.o_aloadN X (pc' := 1) d_jdk_2395_method_11_0 rfl rfl rfl ?_
  refine W.o_virtual X (pc' := 4) d_jdk_2395_method_11_1 rfl (u := (⟨"java/time/temporal/ChronoField", "range", "()Ljava/time/temporal/ValueRange;"⟩ : MethodName)) (z := (⟨"java/time/temporal/ChronoField", "range", "()Ljava/time/temporal/ValueRange;"⟩ : MethodName)) (hw _ (List.mem_of_getElem? (i := 35) rfl)) (hw _ (List.mem_of_getElem? (i := 36) rfl)) (fun s' hZ => notFace_of_selects (args := #[]) (mvT hZ (hw _ (List.mem_of_getElem? (i := 38) rfl)))) (hw _ (List.mem_of_getElem? (i := 38) rfl)) (hw _ (List.mem_of_getElem? (i := 37) rfl)) (hw _ (List.mem_of_getElem? (i := 29) rfl)) (hw _ (List.mem_of_getElem? (i := 39) rfl)) (by decide) EF (ctRng l Z a0 hw f r h0 FF) (fun _ q => nomatch q) [] rfl (rest := []) rfl pd___Ljava_time_temporal_ValueRange_ rfl rfl (by decide) (by exact Nat.le_of_ble_eq_true rfl) (by decide) (by decide) (fun v31 T q32 => ?_)
  obtain ⟨h35, S33, ⟨rfl, eh⟩, X34⟩ := q32
  have eh := eh.symm
  subst eh
  have X := X34 [] all0
  show W.Go _ _ _ _ _ _ _ _ _ _ _ (mkF m 4 #[.val (.ref f), .val (.long x), .second] [(.ref r)])
  refine W.o_lloadN X (pc' := 5) d_jdk_2395_method_11_4 rfl rfl ?_
  refine W.o_aloadN X (pc' := 6) d_jdk_2395_method_11_5 rfl rfl rfl ?_
  refine W.o_virtual X (pc' := 9) d_jdk_2395_method_11_6 rfl (u := (⟨"java/time/temporal/ValueRange", "checkValidValue", "(JLjava/time/temporal/TemporalField;)J"⟩ : MethodName)) (z := (⟨"java/time/temporal/ValueRange", "checkValidValue", "(JLjava/time/temporal/TemporalField;)J"⟩ : MethodName)) (hw _ (List.mem_of_getElem? (i := 42) rfl)) (hw _ (List.mem_of_getElem? (i := 43) rfl)) (fun s' hZ => notFace_of_selects (args := #[]) (mvT hZ (hw _ (List.mem_of_getElem? (i := 45) rfl)))) (hw _ (List.mem_of_getElem? (i := 45) rfl)) (hw _ (List.mem_of_getElem? (i := 44) rfl)) (hw _ (List.mem_of_getElem? (i := 46) rfl)) (hw _ (List.mem_of_getElem? (i := 47) rfl)) (by decide) E0 (ctChk l Z a0 hw r f lo hi x h0 E0 F0 F1 hx) (fun _ q => nomatch q) [(.long x), (.ref f)] rfl (rest := []) rfl pd__JLjava_time_temporal_TemporalField__J rfl rfl (by decide) (by exact Nat.le_of_ble_eq_true rfl) (by decide) (by decide) (fun v36 T q37 => ?_)
  obtain ⟨h40, S38, ⟨rfl, eh⟩, X39⟩ := q37
  have eh := eh.symm
  subst eh
  have X := X39 [] all0
  show W.Go _ _ _ _ _ _ _ _ _ _ _ (mkF m 9 #[.val (.ref f), .val (.long x), .second] [(.long x)])
  exact W.o_lreturn X d_jdk_2395_method_11_9 rfl (by decide) (by decide) fun P hP => ⟨rfl, rfl⟩
set_option maxRecDepth 65536 in
set_option maxHeartbeats 40000000 in
theorem ctLD (l : Launch) (Z : State) (a0 : Array Value) (hw : ∀ d ∈ tables_1, d.before a0 Z = true) (a : Addr) (y mo da : Int32) (h0 : Heap) (gz : Z.heap.size ≤ a) (E0 : Exa Z h0 a "java/time/LocalDate") (F0 : Fld Z h0 a "java/time/LocalDate" "year" "I" (.int (0 : Int32))) (F1 : Fld Z h0 a "java/time/LocalDate" "month" "S" (.int (0 : Int32))) (F2 : Fld Z h0 a "java/time/LocalDate" "day" "S" (.int (0 : Int32))) :
    W.Ct wd Z a0 el l (⟨"java/time/LocalDate", "<init>", "(III)V"⟩ : MethodName) jdk_2323_method_14_code 4 none ({ frames := 1, cells := 0, slots := 0, locals := 12 } : Room) #[(.ref a), (.int y), (.int mo), (.int da)] h0 [] (fun v h S => v = none ∧ Keep h0 h [a] ∧ Exa Z h a "java/time/LocalDate" ∧ Fld Z h a "java/time/LocalDate" "year" "I" (.int y) ∧ Fld Z h a "java/time/LocalDate" "month" "S" (.int mo.toInt16.toInt32) ∧ Fld Z h a "java/time/LocalDate" "day" "S" (.int da.toInt16.toInt32)) := by
  refine W.Ct.walk hwe (plainFor_of_name pn_java_time_LocalDate) ?_
  intro p e s m below meth c T hE0 X
  refine W.castG (show entryFrame m #[(.ref a), (.int y), (.int mo), (.int da)] 4 = mkF m 0 #[.val (.ref a), .val (.int y), .val (.int mo), .val (.int da)] [] from by first | (simp [entryFrame, mkF, argsToLocals, Value.category]; done) | rfl) ?_
  refine W.o_aloadN X (pc' := 1) d_jdk_2323_method_14_0 rfl rfl rfl ?_
  refine W.o_initO X (pc' := 4) d_jdk_2323_method_14_1 rfl (hw _ (List.mem_of_getElem? (i := 78) rfl)) (hw _ (List.mem_of_getElem? (i := 13) rfl)) (hw _ (List.mem_of_getElem? (i := 14) rfl)) rfl (by decide) (by decide) (fun T X => ?_)
  refine W.o_aloadN X (pc' := 5) d_jdk_2323_method_14_4 rfl rfl rfl ?_
  refine W.o_iloadN X (pc' := 6) d_jdk_2323_method_14_5 rfl rfl ?_
  refine W.o_putfield X (pc' := 9) d_jdk_2323_method_14_6 rfl (hw _ (List.mem_of_getElem? (i := 79) rfl)) Via.refl F0 E0 (Or.inr ⟨(hw _ (List.mem_of_getElem? (i := 80) rfl)), rfl, rfl⟩) (hw _ (List.mem_of_getElem? (i := 73) rfl)) (ty := .int) (by decide) rfl rfl gz (Or.inl rfl) (fun T h41 w42 X => ?_)
  have f43 := F0.same w42
  refine W.o_aloadN X (pc' := 10) d_jdk_2323_method_14_9 rfl rfl rfl ?_
  refine W.o_iloadN X (pc' := 11) d_jdk_2323_method_14_10 rfl rfl ?_
  refine W.o_i2s X (pc' := 12) d_jdk_2323_method_14_11 rfl ?_
  have f44 := (E0.wr w42)
  have f45 := (F1.other w42 (Or.inr (slot_ne (Or.inr (hw _ (List.mem_of_getElem? (i := 82) rfl))) (Or.inr (hw _ (List.mem_of_getElem? (i := 80) rfl))) (by decide) (t := .short) (t' := .int) (by decide) (by decide))))
  refine W.o_putfieldN X (pc' := 15) d_jdk_2323_method_14_12 rfl (hw _ (List.mem_of_getElem? (i := 81) rfl)) Via.refl f45 f44 (Or.inr ⟨(hw _ (List.mem_of_getElem? (i := 82) rfl)), rfl, rfl⟩) (hw _ (List.mem_of_getElem? (i := 73) rfl)) (ty := .short) (v' := (.int (mo.toInt16.toInt32))) (by decide) (fits_s _) (fits_s' _) gz (Or.inl rfl) (fun T h46 w47 X => ?_)
  have f48 := f45.same w47
  refine W.o_aloadN X (pc' := 16) d_jdk_2323_method_14_15 rfl rfl rfl ?_
  refine W.o_iloadN X (pc' := 17) d_jdk_2323_method_14_16 rfl rfl ?_
  refine W.o_i2s X (pc' := 18) d_jdk_2323_method_14_17 rfl ?_
  have f49 := (f44.wr w47)
  have f50 := ((F2.other w42 (Or.inr (slot_ne (Or.inr (hw _ (List.mem_of_getElem? (i := 84) rfl))) (Or.inr (hw _ (List.mem_of_getElem? (i := 80) rfl))) (by decide) (t := .short) (t' := .int) (by decide) (by decide)))).other w47 (Or.inr (slot_ne (Or.inr (hw _ (List.mem_of_getElem? (i := 84) rfl))) (Or.inr (hw _ (List.mem_of_getElem? (i := 82) rfl))) (by decide) (t := .short) (t' := .short) (by decide) (by decide))))
  refine W.o_putfieldN X (pc' := 21) d_jdk_2323_method_14_18 rfl (hw _ (List.mem_of_getElem? (i := 83) rfl)) Via.refl f50 f49 (Or.inr ⟨(hw _ (List.mem_of_getElem? (i := 84) rfl)), rfl, rfl⟩) (hw _ (List.mem_of_getElem? (i := 73) rfl)) (ty := .short) (v' := (.int (da.toInt16.toInt32))) (by decide) (fits_s _) (fits_s' _) gz (Or.inl rfl) (fun T h51 w52 X => ?_)
  have f53 := f50.same w52
  have f54 := (f49.wr w52)
  have f55 := ((f43.other w47 (Or.inr (slot_ne (Or.inr (hw _ (List.mem_of_getElem? (i := 80) rfl))) (Or.inr (hw _ (List.mem_of_getElem? (i := 82) rfl))) (by decide) (t := .int) (t' := .short) (by decide) (by decide)))).other w52 (Or.inr (slot_ne (Or.inr (hw _ (List.mem_of_getElem? (i := 80) rfl))) (Or.inr (hw _ (List.mem_of_getElem? (i := 84) rfl))) (by decide) (t := .int) (t' := .short) (by decide) (by decide))))
  have f56 := (f48.other w52 (Or.inr (slot_ne (Or.inr (hw _ (List.mem_of_getElem? (i := 82) rfl))) (Or.inr (hw _ (List.mem_of_getElem? (i := 84) rfl))) (by decide) (t := .short) (t' := .short) (by decide) (by decide))))
  exact W.o_return X d_jdk_2323_method_14_21 (by decide) (by decide) fun P hP => ⟨rfl, ((((Keep.refl h0 [a]).wr w42 (Or.inl (List.mem_of_getElem? (i := 0) rfl))).wr w47 (Or.inl (List.mem_of_getElem? (i := 0) rfl))).wr w52 (Or.inl (List.mem_of_getElem? (i := 0) rfl))), f54, f55, f56, f53⟩
set_option maxRecDepth 65536 in
set_option maxHeartbeats 40000000 in
theorem ctCre (l : Launch) (Z : State) (a0 : Array Value) (hw : ∀ d ∈ tables_1, d.before a0 Z = true) (y mo da : Int32) (h0 : Heap) (hd : ¬ 28 < da) :
    W.Ct wd Z a0 el l (⟨"java/time/LocalDate", "create", "(III)Ljava/time/LocalDate;"⟩ : MethodName) jdk_2323_method_12_code 4 (some (.object "java/time/LocalDate")) ({ frames := 2, cells := 1, slots := 3, locals := 28 } : Room) #[(.int y), (.int mo), (.int da)] h0 [] (fun v h S => ∃ b, v = some (.ref b) ∧ Keep h0 h [] ∧ h0.size ≤ b ∧ Exa Z h b "java/time/LocalDate" ∧ Fld Z h b "java/time/LocalDate" "year" "I" (.int y) ∧ Fld Z h b "java/time/LocalDate" "month" "S" (.int mo.toInt16.toInt32) ∧ Fld Z h b "java/time/LocalDate" "day" "S" (.int da.toInt16.toInt32)) := by
  refine W.Ct.walk hwe (plainFor_of_name pn_java_time_LocalDate) ?_
  intro p e s m below meth c T hE0 X
  refine W.castG (show entryFrame m #[(.int y), (.int mo), (.int da)] 4 = mkF m 0 #[.val (.int y), .val (.int mo), .val (.int da), .unset] [] from by first | (simp [entryFrame, mkF, argsToLocals, Value.category]; done) | rfl) ?_
  refine W.o_iloadN X (pc' := 1) d_jdk_2323_method_12_0 rfl rfl ?_
  refine W.o_bipush X (28 : Int32) (pc' := 3) d_jdk_2323_method_12_1 rfl rfl ?_
  refine W.o_if_icmple X (pt := 179) (pf := 6) d_jdk_2323_method_12_3 ⟨by decide, by decide⟩ rfl (fun _ => ?_) (fun hc => absurd hc hd)
  refine W.o_new X (pc' := 182) d_jdk_2323_method_12_179 rfl (hw _ (List.mem_of_getElem? (i := 72) rfl)) (hw _ (List.mem_of_getElem? (i := 73) rfl)) (hw _ (List.mem_of_getElem? (i := 26) rfl)) (by decide) (by decide) (fun T h57 b58 g59 z60 e61 a62 D63 X => ?_)
  have f64 : Fld Z h57 b58 "java/time/LocalDate" "year" "I" (.int (0 : Int32)) := D63 (Or.inr (hw _ (List.mem_of_getElem? (i := 80) rfl))) (ty := .int) (by decide)
  have f65 : Fld Z h57 b58 "java/time/LocalDate" "month" "S" (.int (0 : Int32)) := D63 (Or.inr (hw _ (List.mem_of_getElem? (i := 82) rfl))) (ty := .short) (by decide)
  have f66 : Fld Z h57 b58 "java/time/LocalDate" "day" "S" (.int (0 : Int32)) := D63 (Or.inr (hw _ (List.mem_of_getElem? (i := 84) rfl))) (ty := .short) (by decide)
  refine W.o_dup X (pc' := 183) d_jdk_2323_method_12_182 rfl rfl ?_
  refine W.o_iloadN X (pc' := 184) d_jdk_2323_method_12_183 rfl rfl ?_
  refine W.o_iloadN X (pc' := 185) d_jdk_2323_method_12_184 rfl rfl ?_
  refine W.o_iloadN X (pc' := 186) d_jdk_2323_method_12_185 rfl rfl ?_
  refine W.o_special X (pc' := 189) d_jdk_2323_method_12_186 rfl (z := (⟨"java/time/LocalDate", "<init>", "(III)V"⟩ : MethodName)) rfl (hw _ (List.mem_of_getElem? (i := 74) rfl)) (hw _ (List.mem_of_getElem? (i := 75) rfl)) (hw _ (List.mem_of_getElem? (i := 26) rfl)) (hw _ (List.mem_of_getElem? (i := 77) rfl)) (by decide) (ctLD l Z a0 hw b58 y mo da h57 z60 a62 f64 f65 f66) (fun _ q => nomatch q) [(.int y), (.int mo), (.int da)] rfl (rest := [(.ref b58)]) rfl pd__III_V rfl rfl (by decide) (by exact Nat.le_of_ble_eq_true rfl) (by decide) (by decide) (fun v67 T q68 => ?_)
  obtain ⟨h71, S69, ⟨rfl, K1, r1, r2, r3, r4⟩, X70⟩ := q68
  have X := X70 [] all0
  show W.Go _ _ _ _ _ _ _ _ _ _ _ (mkF m 189 #[.val (.int y), .val (.int mo), .val (.int da), .unset] [(.ref b58)])
  exact W.o_areturn X d_jdk_2323_method_12_189 rfl rfl rfl (by decide) (by decide) fun P hP => ⟨_, rfl, (((Keep.refl h0 []).ext e61).trans K1 (allS (Or.inr (Nat.le_trans (Nat.le_refl _) (Nat.le_of_eq g59.symm))) all0)), (Nat.le_trans (Nat.le_refl _) (Nat.le_of_eq g59.symm)), r1, r2, r3, r4⟩
set_option maxRecDepth 65536 in
set_option maxHeartbeats 40000000 in
theorem ctOf (l : Launch) (Z : State) (a0 : Array Value) (hw : ∀ d ∈ tables_1, d.before a0 Z = true) (y mo da : Int32) (f1 r1 : Addr) (f2 r2 : Addr) (f3 r3 : Addr) (h0 : Heap) (hd : ¬ 28 < da) (hr1 : ¬ y.toInt64 < (-999999999) ∧ ¬ 999999999 < y.toInt64) (hr2 : ¬ mo.toInt64 < 1 ∧ ¬ 12 < mo.toInt64) (hr3 : ¬ da.toInt64 < 1 ∧ ¬ 31 < da.toInt64) (S1 : Sta Z Z.heap "java/time/temporal/ChronoField" "YEAR" "Ljava/time/temporal/ChronoField;" (.ref f1)) (EF1 : Exa Z Z.heap f1 "java/time/temporal/ChronoField") (FF1 : Fld Z Z.heap f1 "java/time/temporal/ChronoField" "range" "Ljava/time/temporal/ValueRange;" (.ref r1)) (ER1 : Exa Z Z.heap r1 "java/time/temporal/ValueRange") (FL1 : Fld Z Z.heap r1 "java/time/temporal/ValueRange" "minSmallest" "J" (.long (-999999999))) (FH1 : Fld Z Z.heap r1 "java/time/temporal/ValueRange" "maxLargest" "J" (.long 999999999)) (S2 : Sta Z Z.heap "java/time/temporal/ChronoField" "MONTH_OF_YEAR" "Ljava/time/temporal/ChronoField;" (.ref f2)) (EF2 : Exa Z Z.heap f2 "java/time/temporal/ChronoField") (FF2 : Fld Z Z.heap f2 "java/time/temporal/ChronoField" "range" "Ljava/time/temporal/ValueRange;" (.ref r2)) (ER2 : Exa Z Z.heap r2 "java/time/temporal/ValueRange") (FL2 : Fld Z Z.heap r2 "java/time/temporal/ValueRange" "minSmallest" "J" (.long 1)) (FH2 : Fld Z Z.heap r2 "java/time/temporal/ValueRange" "maxLargest" "J" (.long 12)) (S3 : Sta Z Z.heap "java/time/temporal/ChronoField" "DAY_OF_MONTH" "Ljava/time/temporal/ChronoField;" (.ref f3)) (EF3 : Exa Z Z.heap f3 "java/time/temporal/ChronoField") (FF3 : Fld Z Z.heap f3 "java/time/temporal/ChronoField" "range" "Ljava/time/temporal/ValueRange;" (.ref r3)) (ER3 : Exa Z Z.heap r3 "java/time/temporal/ValueRange") (FL3 : Fld Z Z.heap r3 "java/time/temporal/ValueRange" "minSmallest" "J" (.long 1)) (FH3 : Fld Z Z.heap r3 "java/time/temporal/ValueRange" "maxLargest" "J" (.long 31)) :
    W.Ct wd Z a0 el l (⟨"java/time/LocalDate", "of", "(III)Ljava/time/LocalDate;"⟩ : MethodName) jdk_2323_method_5_code 3 (some (.object "java/time/LocalDate")) ({ frames := 4, cells := 1, slots := 3, locals := 57 } : Room) #[(.int y), (.int mo), (.int da)] h0 [] (fun v h S => ∃ b, v = some (.ref b) ∧ Keep h0 h [] ∧ h0.size ≤ b ∧ Exa Z h b "java/time/LocalDate" ∧ Fld Z h b "java/time/LocalDate" "year" "I" (.int y) ∧ Fld Z h b "java/time/LocalDate" "month" "S" (.int mo.toInt16.toInt32) ∧ Fld Z h b "java/time/LocalDate" "day" "S" (.int da.toInt16.toInt32)) := by
  refine W.Ct.walk hwe (plainFor_of_name pn_java_time_LocalDate) ?_
  intro p e s m below meth c T hE0 X
  refine W.castG (show entryFrame m #[(.int y), (.int mo), (.int da)] 3 = mkF m 0 #[.val (.int y), .val (.int mo), .val (.int da)] [] from by first | (simp [entryFrame, mkF, argsToLocals, Value.category]; done) | rfl) ?_
  refine W.o_getstatic X (pc' := 3) d_jdk_2323_method_5_0 rfl (hw _ (List.mem_of_getElem? (i := 28) rfl)) Via.refl S1 (fun T X => ?_)
  refine W.o_iloadN X (pc' := 4) d_jdk_2323_method_5_3 rfl rfl ?_
  refine W.o_i2l X (pc' := 5) d_jdk_2323_method_5_4 rfl ?_
  refine W.o_virtual X (pc' := 8) d_jdk_2323_method_5_5 rfl (u := (⟨"java/time/temporal/ChronoField", "checkValidValue", "(J)J"⟩ : MethodName)) (z := (⟨"java/time/temporal/ChronoField", "checkValidValue", "(J)J"⟩ : MethodName)) (hw _ (List.mem_of_getElem? (i := 30) rfl)) (hw _ (List.mem_of_getElem? (i := 31) rfl)) (fun s' hZ => notFace_of_selects (args := #[]) (mvT hZ (hw _ (List.mem_of_getElem? (i := 33) rfl)))) (hw _ (List.mem_of_getElem? (i := 33) rfl)) (hw _ (List.mem_of_getElem? (i := 32) rfl)) (hw _ (List.mem_of_getElem? (i := 29) rfl)) (hw _ (List.mem_of_getElem? (i := 34) rfl)) (by decide) (EF1.ext hE0) (ctFld l Z a0 hw f1 r1 (-999999999) 999999999 (y.toInt64) h0 (EF1.ext hE0) (FF1.ext hE0) (ER1.ext hE0) (FL1.ext hE0) (FH1.ext hE0) hr1) (fun _ q => nomatch q) [(.long (y.toInt64))] rfl (rest := []) rfl pd__J_J rfl rfl (by decide) (by exact Nat.le_of_ble_eq_true rfl) (by decide) (by decide) (fun v72 T q73 => ?_)
  obtain ⟨h76, S74, ⟨rfl, eh⟩, X75⟩ := q73
  have eh := eh.symm
  subst eh
  have X := X75 [] all0
  show W.Go _ _ _ _ _ _ _ _ _ _ _ (mkF m 8 #[.val (.int y), .val (.int mo), .val (.int da)] [(.long (y.toInt64))])
  refine W.o_pop2L X (pc' := 9) d_jdk_2323_method_5_8 rfl ?_
  refine W.o_getstatic X (pc' := 12) d_jdk_2323_method_5_9 rfl (hw _ (List.mem_of_getElem? (i := 67) rfl)) Via.refl S2 (fun T X => ?_)
  refine W.o_iloadN X (pc' := 13) d_jdk_2323_method_5_12 rfl rfl ?_
  refine W.o_i2l X (pc' := 14) d_jdk_2323_method_5_13 rfl ?_
  refine W.o_virtual X (pc' := 17) d_jdk_2323_method_5_14 rfl (u := (⟨"java/time/temporal/ChronoField", "checkValidValue", "(J)J"⟩ : MethodName)) (z := (⟨"java/time/temporal/ChronoField", "checkValidValue", "(J)J"⟩ : MethodName)) (hw _ (List.mem_of_getElem? (i := 30) rfl)) (hw _ (List.mem_of_getElem? (i := 31) rfl)) (fun s' hZ => notFace_of_selects (args := #[]) (mvT hZ (hw _ (List.mem_of_getElem? (i := 33) rfl)))) (hw _ (List.mem_of_getElem? (i := 33) rfl)) (hw _ (List.mem_of_getElem? (i := 32) rfl)) (hw _ (List.mem_of_getElem? (i := 29) rfl)) (hw _ (List.mem_of_getElem? (i := 34) rfl)) (by decide) (EF2.ext hE0) (ctFld l Z a0 hw f2 r2 1 12 (mo.toInt64) h0 (EF2.ext hE0) (FF2.ext hE0) (ER2.ext hE0) (FL2.ext hE0) (FH2.ext hE0) hr2) (fun _ q => nomatch q) [(.long (mo.toInt64))] rfl (rest := []) rfl pd__J_J rfl rfl (by decide) (by exact Nat.le_of_ble_eq_true rfl) (by decide) (by decide) (fun v77 T q78 => ?_)
  obtain ⟨h81, S79, ⟨rfl, eh⟩, X80⟩ := q78
  have eh := eh.symm
  subst eh
  have X := X80 [] all0
  show W.Go _ _ _ _ _ _ _ _ _ _ _ (mkF m 17 #[.val (.int y), .val (.int mo), .val (.int da)] [(.long (mo.toInt64))])
  refine W.o_pop2L X (pc' := 18) d_jdk_2323_method_5_17 rfl ?_
  refine W.o_getstatic X (pc' := 21) d_jdk_2323_method_5_18 rfl (hw _ (List.mem_of_getElem? (i := 68) rfl)) Via.refl S3 (fun T X => ?_)
  refine W.o_iloadN X (pc' := 22) d_jdk_2323_method_5_21 rfl rfl ?_
  refine W.o_i2l X (pc' := 23) d_jdk_2323_method_5_22 rfl ?_
  refine W.o_virtual X (pc' := 26) d_jdk_2323_method_5_23 rfl (u := (⟨"java/time/temporal/ChronoField", "checkValidValue", "(J)J"⟩ : MethodName)) (z := (⟨"java/time/temporal/ChronoField", "checkValidValue", "(J)J"⟩ : MethodName)) (hw _ (List.mem_of_getElem? (i := 30) rfl)) (hw _ (List.mem_of_getElem? (i := 31) rfl)) (fun s' hZ => notFace_of_selects (args := #[]) (mvT hZ (hw _ (List.mem_of_getElem? (i := 33) rfl)))) (hw _ (List.mem_of_getElem? (i := 33) rfl)) (hw _ (List.mem_of_getElem? (i := 32) rfl)) (hw _ (List.mem_of_getElem? (i := 29) rfl)) (hw _ (List.mem_of_getElem? (i := 34) rfl)) (by decide) (EF3.ext hE0) (ctFld l Z a0 hw f3 r3 1 31 (da.toInt64) h0 (EF3.ext hE0) (FF3.ext hE0) (ER3.ext hE0) (FL3.ext hE0) (FH3.ext hE0) hr3) (fun _ q => nomatch q) [(.long (da.toInt64))] rfl (rest := []) rfl pd__J_J rfl rfl (by decide) (by exact Nat.le_of_ble_eq_true rfl) (by decide) (by decide) (fun v82 T q83 => ?_)
  obtain ⟨h86, S84, ⟨rfl, eh⟩, X85⟩ := q83
  have eh := eh.symm
  subst eh
  have X := X85 [] all0
  show W.Go _ _ _ _ _ _ _ _ _ _ _ (mkF m 26 #[.val (.int y), .val (.int mo), .val (.int da)] [(.long (da.toInt64))])
  refine W.o_pop2L X (pc' := 27) d_jdk_2323_method_5_26 rfl ?_
  refine W.o_iloadN X (pc' := 28) d_jdk_2323_method_5_27 rfl rfl ?_
  refine W.o_iloadN X (pc' := 29) d_jdk_2323_method_5_28 rfl rfl ?_
  refine W.o_iloadN X (pc' := 30) d_jdk_2323_method_5_29 rfl rfl ?_
  refine W.o_static X (pc' := 33) d_jdk_2323_method_5_30 rfl (z := (⟨"java/time/LocalDate", "create", "(III)Ljava/time/LocalDate;"⟩ : MethodName)) (hw _ (List.mem_of_getElem? (i := 69) rfl)) (hw _ (List.mem_of_getElem? (i := 70) rfl)) (hw _ (List.mem_of_getElem? (i := 26) rfl)) (hw _ (List.mem_of_getElem? (i := 71) rfl)) (by decide) (ctCre l Z a0 hw y mo da h0 hd) (fun _ q => nomatch q) [(.int y), (.int mo), (.int da)] rfl (rest := []) rfl pd__III_Ljava_time_LocalDate_ rfl rfl (by decide) (by exact Nat.le_of_ble_eq_true rfl) (by decide) (by decide) (fun v87 T q88 => ?_)
  obtain ⟨h91, S89, ⟨b, rfl, qq⟩, X90⟩ := q88
  have X := X90 [] all0
  show W.Go _ _ _ _ _ _ _ _ _ _ _ (mkF m 33 #[.val (.int y), .val (.int mo), .val (.int da)] [(.ref b)])
  exact W.o_areturn X d_jdk_2323_method_5_33 rfl rfl rfl (by decide) (by decide) fun P hP => ⟨b, rfl, qq⟩
set_option maxRecDepth 65536 in
set_option maxHeartbeats 40000000 in
theorem ctFD (l : Launch) (Z : State) (a0 : Array Value) (hw : ∀ d ∈ tables_1, d.before a0 Z = true) (a : Addr) (y q : Int32) (f1 r1 : Addr) (f2 r2 : Addr) (f3 r3 : Addr) (h0 : Heap) (hq : qOk q) (hr : ¬ y.toInt64 < (-999999999) ∧ ¬ 999999999 < y.toInt64) (F0 : Fld Z h0 a "com/example/noteform/noteform/util/Quarter" "year" "I" (.int y)) (F1 : Fld Z h0 a "com/example/noteform/noteform/util/Quarter" "number" "I" (.int q)) (S1 : Sta Z Z.heap "java/time/temporal/ChronoField" "YEAR" "Ljava/time/temporal/ChronoField;" (.ref f1)) (EF1 : Exa Z Z.heap f1 "java/time/temporal/ChronoField") (FF1 : Fld Z Z.heap f1 "java/time/temporal/ChronoField" "range" "Ljava/time/temporal/ValueRange;" (.ref r1)) (ER1 : Exa Z Z.heap r1 "java/time/temporal/ValueRange") (FL1 : Fld Z Z.heap r1 "java/time/temporal/ValueRange" "minSmallest" "J" (.long (-999999999))) (FH1 : Fld Z Z.heap r1 "java/time/temporal/ValueRange" "maxLargest" "J" (.long 999999999)) (S2 : Sta Z Z.heap "java/time/temporal/ChronoField" "MONTH_OF_YEAR" "Ljava/time/temporal/ChronoField;" (.ref f2)) (EF2 : Exa Z Z.heap f2 "java/time/temporal/ChronoField") (FF2 : Fld Z Z.heap f2 "java/time/temporal/ChronoField" "range" "Ljava/time/temporal/ValueRange;" (.ref r2)) (ER2 : Exa Z Z.heap r2 "java/time/temporal/ValueRange") (FL2 : Fld Z Z.heap r2 "java/time/temporal/ValueRange" "minSmallest" "J" (.long 1)) (FH2 : Fld Z Z.heap r2 "java/time/temporal/ValueRange" "maxLargest" "J" (.long 12)) (S3 : Sta Z Z.heap "java/time/temporal/ChronoField" "DAY_OF_MONTH" "Ljava/time/temporal/ChronoField;" (.ref f3)) (EF3 : Exa Z Z.heap f3 "java/time/temporal/ChronoField") (FF3 : Fld Z Z.heap f3 "java/time/temporal/ChronoField" "range" "Ljava/time/temporal/ValueRange;" (.ref r3)) (ER3 : Exa Z Z.heap r3 "java/time/temporal/ValueRange") (FL3 : Fld Z Z.heap r3 "java/time/temporal/ValueRange" "minSmallest" "J" (.long 1)) (FH3 : Fld Z Z.heap r3 "java/time/temporal/ValueRange" "maxLargest" "J" (.long 31)) :
    W.Ct wd Z a0 el l (⟨"com/example/noteform/noteform/util/Quarter", "firstDay", "()Ljava/time/LocalDate;"⟩ : MethodName) prog_97_method_3_code 1 (some (.object "java/time/LocalDate")) ({ frames := 5, cells := 1, slots := 3, locals := 71 } : Room) #[(.ref a)] h0 [] (fun v h S => ∃ b, v = some (.ref b) ∧ Keep h0 h [] ∧ h0.size ≤ b ∧ Exa Z h b "java/time/LocalDate" ∧ Fld Z h b "java/time/LocalDate" "year" "I" (.int y) ∧ Fld Z h b "java/time/LocalDate" "month" "S" (.int (fm q)) ∧ Fld Z h b "java/time/LocalDate" "day" "S" (.int 1)) := by
  refine W.Ct.walk hwe (plainFor_of_name pn_com_example_noteform_noteform_util_Quarter) ?_
  intro p e s m below meth c T hE0 X
  refine W.castG (show entryFrame m #[(.ref a)] 1 = mkF m 0 #[.val (.ref a)] [] from by first | (simp [entryFrame, mkF, argsToLocals, Value.category]; done) | rfl) ?_
  refine W.o_aloadN X (pc' := 1) d_prog_97_method_3_0 rfl rfl rfl ?_
  refine W.o_getfield X (pc' := 4) d_prog_97_method_3_1 rfl (hw _ (List.mem_of_getElem? (i := 15) rfl)) Via.refl F0 (fun T X => ?_)
  refine W.o_aloadN X (pc' := 5) d_prog_97_method_3_4 rfl rfl rfl ?_
  refine W.o_getfield X (pc' := 8) d_prog_97_method_3_5 rfl (hw _ (List.mem_of_getElem? (i := 17) rfl)) Via.refl F1 (fun T X => ?_)
  refine W.o_iconst X (1 : Int32) (pc' := 9) d_prog_97_method_3_8 rfl rfl ?_
  refine W.o_isub X (pc' := 10) d_prog_97_method_3_9 rfl ?_
  refine W.o_iconst X (3 : Int32) (pc' := 11) d_prog_97_method_3_10 rfl rfl ?_
  refine W.o_imul X (pc' := 12) d_prog_97_method_3_11 rfl ?_
  refine W.o_iconst X (1 : Int32) (pc' := 13) d_prog_97_method_3_12 rfl rfl ?_
  refine W.o_iadd X (pc' := 14) d_prog_97_method_3_13 rfl ?_
  refine W.o_iconst X (1 : Int32) (pc' := 15) d_prog_97_method_3_14 rfl rfl ?_
  refine W.o_static X (pc' := 18) d_prog_97_method_3_15 rfl (z := (⟨"java/time/LocalDate", "of", "(III)Ljava/time/LocalDate;"⟩ : MethodName)) (hw _ (List.mem_of_getElem? (i := 24) rfl)) (hw _ (List.mem_of_getElem? (i := 25) rfl)) (hw _ (List.mem_of_getElem? (i := 26) rfl)) (hw _ (List.mem_of_getElem? (i := 27) rfl)) (by decide) (ctOf l Z a0 hw y (((q - (1 : Int32)) * (3 : Int32)) + (1 : Int32)) 1 f1 r1 f2 r2 f3 r3 h0 (by decide) hr (q_rng hq) (by decide) S1 EF1 FF1 ER1 FL1 FH1 S2 EF2 FF2 ER2 FL2 FH2 S3 EF3 FF3 ER3 FL3 FH3) (fun _ q => nomatch q) [(.int y), (.int (((q - (1 : Int32)) * (3 : Int32)) + (1 : Int32))), (.int (1 : Int32))] rfl (rest := []) rfl pd__III_Ljava_time_LocalDate_ rfl rfl (by decide) (by exact Nat.le_of_ble_eq_true rfl) (by decide) (by decide) (fun v92 T q93 => ?_)
  obtain ⟨h96, S94, ⟨b, rfl, q1, q2, q3, q4, q5, q6⟩, X95⟩ := q93
  have X := X95 [] all0
  show W.Go _ _ _ _ _ _ _ _ _ _ _ (mkF m 18 #[.val (.ref a)] [(.ref b)])
  exact W.o_areturn X d_prog_97_method_3_18 rfl rfl rfl (by decide) (by decide) fun P hP => ⟨b, rfl, q1, q2, q3, q4, q_mon hq ▸ q5, q6⟩
set_option maxRecDepth 65536 in
set_option maxHeartbeats 40000000 in
theorem ctFm (l : Launch) (Z : State) (a0 : Array Value) (hw : ∀ d ∈ tables_1, d.before a0 Z = true) (q : Int32) (h0 : Heap)  :
    W.Ct wd Z a0 el l (⟨"com/example/noteform/noteform/util/QuarterFirstDayPinLaw", "firstMonth", "(I)I"⟩ : MethodName) method_2_code 1 (some .int) ({ frames := 0, cells := 0, slots := 0, locals := 0 } : Room) #[(.int q)] h0 [] (fun v h S => v = some (.int (fm q)) ∧ h = h0) := by
  refine W.Ct.walk hwe (plainFor_of_name pn_com_example_noteform_noteform_util_QuarterFirstDayPinLaw) ?_
  intro p e s m below meth c T hE0 X
  refine W.castG (show entryFrame m #[(.int q)] 1 = mkF m 0 #[.val (.int q)] [] from by first | (simp [entryFrame, mkF, argsToLocals, Value.category]; done) | rfl) ?_
  refine W.o_iloadN X (pc' := 1) d_method_2_0 rfl rfl ?_
  refine W.o_iconst X (1 : Int32) (pc' := 2) d_method_2_1 rfl rfl ?_
  refine W.o_if_icmpne X (pt := 7) (pf := 5) d_method_2_2 ⟨by decide, by decide⟩ rfl (fun hc0 => ?_) (fun hc0 => ?_)
  · refine W.o_iloadN X (pc' := 8) d_method_2_7 rfl rfl ?_
    refine W.o_iconst X (2 : Int32) (pc' := 9) d_method_2_8 rfl rfl ?_
    refine W.o_if_icmpne X (pt := 14) (pf := 12) d_method_2_9 ⟨by decide, by decide⟩ rfl (fun hc1 => ?_) (fun hc1 => ?_)
    · refine W.o_iloadN X (pc' := 15) d_method_2_14 rfl rfl ?_
      refine W.o_iconst X (3 : Int32) (pc' := 16) d_method_2_15 rfl rfl ?_
      refine W.o_if_icmpne X (pt := 22) (pf := 19) d_method_2_16 ⟨by decide, by decide⟩ rfl (fun hc2 => ?_) (fun hc2 => ?_)
      · refine W.o_bipush X (10 : Int32) (pc' := 24) d_method_2_22 rfl rfl ?_
        exact W.o_ireturnI X d_method_2_24 rfl (by decide) (by decide) fun P hP => ⟨by simp [fm, hc0, hc1, hc2], rfl⟩
      · refine W.o_bipush X (7 : Int32) (pc' := 21) d_method_2_19 rfl rfl ?_
        exact W.o_ireturnI X d_method_2_21 rfl (by decide) (by decide) fun P hP => ⟨by simp [fm, hc0, hc1, hc2], rfl⟩
    · refine W.o_iconst X (4 : Int32) (pc' := 13) d_method_2_12 rfl rfl ?_
      exact W.o_ireturnI X d_method_2_13 rfl (by decide) (by decide) fun P hP => ⟨by simp [fm, hc0, hc1], rfl⟩
  · refine W.o_iconst X (1 : Int32) (pc' := 6) d_method_2_5 rfl rfl ?_
    exact W.o_ireturnI X d_method_2_6 rfl (by decide) (by decide) fun P hP => ⟨by simp [fm, hc0], rfl⟩
set_option maxRecDepth 65536 in
set_option maxHeartbeats 40000000 in
theorem ctLaw (l : Launch) (Z : State) (a0 : Array Value) (hw : ∀ d ∈ tables_1, d.before a0 Z = true) (p0 p1 : Int32) (f1 r1 : Addr) (f2 r2 : Addr) (f3 r3 : Addr) (h0 : Heap)  (S1 : Sta Z Z.heap "java/time/temporal/ChronoField" "YEAR" "Ljava/time/temporal/ChronoField;" (.ref f1)) (EF1 : Exa Z Z.heap f1 "java/time/temporal/ChronoField") (FF1 : Fld Z Z.heap f1 "java/time/temporal/ChronoField" "range" "Ljava/time/temporal/ValueRange;" (.ref r1)) (ER1 : Exa Z Z.heap r1 "java/time/temporal/ValueRange") (FL1 : Fld Z Z.heap r1 "java/time/temporal/ValueRange" "minSmallest" "J" (.long (-999999999))) (FH1 : Fld Z Z.heap r1 "java/time/temporal/ValueRange" "maxLargest" "J" (.long 999999999)) (S2 : Sta Z Z.heap "java/time/temporal/ChronoField" "MONTH_OF_YEAR" "Ljava/time/temporal/ChronoField;" (.ref f2)) (EF2 : Exa Z Z.heap f2 "java/time/temporal/ChronoField") (FF2 : Fld Z Z.heap f2 "java/time/temporal/ChronoField" "range" "Ljava/time/temporal/ValueRange;" (.ref r2)) (ER2 : Exa Z Z.heap r2 "java/time/temporal/ValueRange") (FL2 : Fld Z Z.heap r2 "java/time/temporal/ValueRange" "minSmallest" "J" (.long 1)) (FH2 : Fld Z Z.heap r2 "java/time/temporal/ValueRange" "maxLargest" "J" (.long 12)) (S3 : Sta Z Z.heap "java/time/temporal/ChronoField" "DAY_OF_MONTH" "Ljava/time/temporal/ChronoField;" (.ref f3)) (EF3 : Exa Z Z.heap f3 "java/time/temporal/ChronoField") (FF3 : Fld Z Z.heap f3 "java/time/temporal/ChronoField" "range" "Ljava/time/temporal/ValueRange;" (.ref r3)) (ER3 : Exa Z Z.heap r3 "java/time/temporal/ValueRange") (FL3 : Fld Z Z.heap r3 "java/time/temporal/ValueRange" "minSmallest" "J" (.long 1)) (FH3 : Fld Z Z.heap r3 "java/time/temporal/ValueRange" "maxLargest" "J" (.long 31)) :
    W.Ct wd Z a0 el l x code maxLocals ret room_1 #[(.int p0), (.int p1)] h0 [] (fun v h S => v = some (.int 1)) := by
  refine W.Ct.walk hwe (plainFor_of_name pn_com_example_noteform_noteform_util_QuarterFirstDayPinLaw) ?_
  intro p e s m below meth c T hE0 X
  refine W.castG (show entryFrame m #[(.int p0), (.int p1)] maxLocals = mkF m 0 #[.val (.int p0), .val (.int p1), .unset, .unset, .unset, .unset] [] from by first | (simp [entryFrame, mkF, argsToLocals, Value.category, maxLocals]; done) | rfl) ?_
  refine W.o_iloadN X (pc' := 1) at_0 rfl rfl ?_
  refine W.o_ldcI X (v := (1000000000 : Int32)) (pc' := 3) at_1 rfl (hw _ (List.mem_of_getElem? (i := 0) rfl)) ?_
  refine W.o_irem X (pc' := 4) at_3 rfl (by decide) ?_
  generalize hy : (p0 % (1000000000 : Int32)) = y
  have hy : ¬ y.toInt64 < (-999999999) ∧ ¬ 999999999 < y.toInt64 := hy ▸ y_rng p0
  refine W.o_istoreN X (pc' := 5) at_4 rfl (L' := #[.val (.int p0), .val (.int p1), .val (.int y), .unset, .unset, .unset]) rfl ?_
  refine W.o_iconst X (1 : Int32) (pc' := 6) at_5 rfl rfl ?_
  refine W.o_iloadN X (pc' := 7) at_6 rfl rfl ?_
  refine W.o_iconst X (3 : Int32) (pc' := 8) at_7 rfl rfl ?_
  refine W.o_iand X (pc' := 9) at_8 rfl ?_
  refine W.o_iadd X (pc' := 10) at_9 rfl ?_
  generalize hq : ((1 : Int32) + (p1 &&& (3 : Int32))) = q
  have hq : qOk q := hq ▸ qOk_and p1
  refine W.o_istoreN X (pc' := 11) at_10 rfl (L' := #[.val (.int p0), .val (.int p1), .val (.int y), .val (.int q), .unset, .unset]) rfl ?_
  refine W.o_new X (pc' := 14) at_11 rfl (hw _ (List.mem_of_getElem? (i := 1) rfl)) (hw _ (List.mem_of_getElem? (i := 2) rfl)) (hw _ (List.mem_of_getElem? (i := 3) rfl)) (by decide) (by decide) (fun T h97 b98 g99 z100 e101 a102 D103 X => ?_)
  have f104 : Fld Z h97 b98 "com/example/noteform/noteform/util/Quarter" "year" "I" (.int (0 : Int32)) := D103 (Or.inr (hw _ (List.mem_of_getElem? (i := 16) rfl))) (ty := .int) (by decide)
  have f105 : Fld Z h97 b98 "com/example/noteform/noteform/util/Quarter" "number" "I" (.int (0 : Int32)) := D103 (Or.inr (hw _ (List.mem_of_getElem? (i := 18) rfl))) (ty := .int) (by decide)
  refine W.o_dup X (pc' := 15) at_14 rfl rfl ?_
  refine W.o_iloadN X (pc' := 16) at_15 rfl rfl ?_
  refine W.o_iloadN X (pc' := 17) at_16 rfl rfl ?_
  refine W.o_special X (pc' := 20) at_17 rfl (z := (⟨"com/example/noteform/noteform/util/Quarter", "<init>", "(II)V"⟩ : MethodName)) rfl (hw _ (List.mem_of_getElem? (i := 4) rfl)) (hw _ (List.mem_of_getElem? (i := 5) rfl)) (hw _ (List.mem_of_getElem? (i := 3) rfl)) (hw _ (List.mem_of_getElem? (i := 6) rfl)) (by decide) (ctQua l Z a0 hw b98 y q h97 (q_lo hq) z100 a102 f104 f105) (fun _ q => nomatch q) [(.int y), (.int q)] rfl (rest := [(.ref b98)]) rfl pd__II_V rfl rfl (by decide) (by exact Nat.le_of_ble_eq_true rfl) (by decide) (by decide) (fun v106 T q107 => ?_)
  obtain ⟨h110, S108, ⟨rfl, KQ, EQ, FQ1, FQ2⟩, X109⟩ := q107
  have X := X109 [] all0
  show W.Go _ _ _ _ _ _ _ _ _ _ _ (mkF m 20 #[.val (.int p0), .val (.int p1), .val (.int y), .val (.int q), .unset, .unset] [(.ref b98)])
  refine W.o_astore X (pc' := 22) at_20 rfl (L' := #[.val (.int p0), .val (.int p1), .val (.int y), .val (.int q), .val (.ref b98), .unset]) rfl rfl ?_
  refine W.o_aload X (pc' := 24) at_22 rfl rfl rfl ?_
  refine W.o_virtual X (pc' := 27) at_24 rfl (u := (⟨"com/example/noteform/noteform/util/Quarter", "firstDay", "()Ljava/time/LocalDate;"⟩ : MethodName)) (z := (⟨"com/example/noteform/noteform/util/Quarter", "firstDay", "()Ljava/time/LocalDate;"⟩ : MethodName)) (hw _ (List.mem_of_getElem? (i := 19) rfl)) (hw _ (List.mem_of_getElem? (i := 20) rfl)) (fun s' hZ => notFace_of_selects (args := #[]) (mvT hZ (hw _ (List.mem_of_getElem? (i := 22) rfl)))) (hw _ (List.mem_of_getElem? (i := 22) rfl)) (hw _ (List.mem_of_getElem? (i := 21) rfl)) (hw _ (List.mem_of_getElem? (i := 3) rfl)) (hw _ (List.mem_of_getElem? (i := 23) rfl)) (by decide) EQ (ctFD l Z a0 hw b98 y q f1 r1 f2 r2 f3 r3 h110 hq hy FQ1 FQ2 S1 EF1 FF1 ER1 FL1 FH1 S2 EF2 FF2 ER2 FL2 FH2 S3 EF3 FF3 ER3 FL3 FH3) (fun _ q => nomatch q) [] rfl (rest := []) rfl pd___Ljava_time_LocalDate_ rfl rfl (by decide) (by exact Nat.le_of_ble_eq_true rfl) (by decide) (by decide) (fun v111 T q112 => ?_)
  obtain ⟨h115, S113, ⟨b, rfl, KB, gb, EB, FB1, FB2, FB3⟩, X114⟩ := q112
  have X := X114 [] all0
  show W.Go _ _ _ _ _ _ _ _ _ _ _ (mkF m 27 #[.val (.int p0), .val (.int p1), .val (.int y), .val (.int q), .val (.ref b98), .unset] [(.ref b)])
  refine W.o_astore X (pc' := 29) at_27 rfl (L' := #[.val (.int p0), .val (.int p1), .val (.int y), .val (.int q), .val (.ref b98), .val (.ref b)]) rfl rfl ?_
  refine W.o_aload X (pc' := 31) at_29 rfl rfl rfl ?_
  refine W.o_virtual X (pc' := 34) at_31 rfl (u := (⟨"java/time/LocalDate", "getYear", "()I"⟩ : MethodName)) (z := (⟨"java/time/LocalDate", "getYear", "()I"⟩ : MethodName)) (hw _ (List.mem_of_getElem? (i := 85) rfl)) (hw _ (List.mem_of_getElem? (i := 86) rfl)) (fun s' hZ => notFace_of_selects (args := #[]) (mvT hZ (hw _ (List.mem_of_getElem? (i := 88) rfl)))) (hw _ (List.mem_of_getElem? (i := 88) rfl)) (hw _ (List.mem_of_getElem? (i := 87) rfl)) (hw _ (List.mem_of_getElem? (i := 26) rfl)) (hw _ (List.mem_of_getElem? (i := 89) rfl)) (by decide) EB (ctGY l Z a0 hw b y h115 FB1) (fun _ q => nomatch q) [] rfl (rest := []) rfl pd___I rfl rfl (by decide) (by exact Nat.le_of_ble_eq_true rfl) (by decide) (by decide) (fun v116 T q117 => ?_)
  obtain ⟨h120, S118, ⟨rfl, eh⟩, X119⟩ := q117
  have eh := eh.symm
  subst eh
  have X := X119 [] all0
  show W.Go _ _ _ _ _ _ _ _ _ _ _ (mkF m 34 #[.val (.int p0), .val (.int p1), .val (.int y), .val (.int q), .val (.ref b98), .val (.ref b)] [(.int y)])
  refine W.o_iloadN X (pc' := 35) at_34 rfl rfl ?_
  refine W.o_if_icmpne X (pt := 63) (pf := 38) at_35 ⟨by decide, by decide⟩ rfl (fun hc => absurd rfl hc) (fun _ => ?_)
  refine W.o_aload X (pc' := 40) at_38 rfl rfl rfl ?_
  refine W.o_virtual X (pc' := 43) at_40 rfl (u := (⟨"java/time/LocalDate", "getMonthValue", "()I"⟩ : MethodName)) (z := (⟨"java/time/LocalDate", "getMonthValue", "()I"⟩ : MethodName)) (hw _ (List.mem_of_getElem? (i := 90) rfl)) (hw _ (List.mem_of_getElem? (i := 91) rfl)) (fun s' hZ => notFace_of_selects (args := #[]) (mvT hZ (hw _ (List.mem_of_getElem? (i := 93) rfl)))) (hw _ (List.mem_of_getElem? (i := 93) rfl)) (hw _ (List.mem_of_getElem? (i := 92) rfl)) (hw _ (List.mem_of_getElem? (i := 26) rfl)) (hw _ (List.mem_of_getElem? (i := 94) rfl)) (by decide) EB (ctGM l Z a0 hw b (fm q) h115 FB2) (fun _ q => nomatch q) [] rfl (rest := []) rfl pd___I rfl rfl (by decide) (by exact Nat.le_of_ble_eq_true rfl) (by decide) (by decide) (fun v121 T q122 => ?_)
  obtain ⟨h125, S123, ⟨rfl, eh⟩, X124⟩ := q122
  have eh := eh.symm
  subst eh
  have X := X124 [] all0
  show W.Go _ _ _ _ _ _ _ _ _ _ _ (mkF m 43 #[.val (.int p0), .val (.int p1), .val (.int y), .val (.int q), .val (.ref b98), .val (.ref b)] [(.int (fm q))])
  refine W.o_iloadN X (pc' := 44) at_43 rfl rfl ?_
  refine W.o_static X (pc' := 47) at_44 rfl (z := (⟨"com/example/noteform/noteform/util/QuarterFirstDayPinLaw", "firstMonth", "(I)I"⟩ : MethodName)) (hw _ (List.mem_of_getElem? (i := 95) rfl)) (hw _ (List.mem_of_getElem? (i := 96) rfl)) (hw _ (List.mem_of_getElem? (i := 97) rfl)) (hw _ (List.mem_of_getElem? (i := 98) rfl)) (by decide) (ctFm l Z a0 hw q h115) (fun _ q => nomatch q) [(.int q)] rfl (rest := [(.int (fm q))]) rfl pd__I_I rfl rfl (by decide) (by exact Nat.le_of_ble_eq_true rfl) (by decide) (by decide) (fun v126 T q127 => ?_)
  obtain ⟨h130, S128, ⟨rfl, eh⟩, X129⟩ := q127
  have eh := eh.symm
  subst eh
  have X := X129 [] all0
  show W.Go _ _ _ _ _ _ _ _ _ _ _ (mkF m 47 #[.val (.int p0), .val (.int p1), .val (.int y), .val (.int q), .val (.ref b98), .val (.ref b)] [(.int (fm q)), (.int (fm q))])
  refine W.o_if_icmpne X (pt := 63) (pf := 50) at_47 ⟨by decide, by decide⟩ rfl (fun hc => absurd rfl hc) (fun _ => ?_)
  refine W.o_aload X (pc' := 52) at_50 rfl rfl rfl ?_
  refine W.o_virtual X (pc' := 55) at_52 rfl (u := (⟨"java/time/LocalDate", "getDayOfMonth", "()I"⟩ : MethodName)) (z := (⟨"java/time/LocalDate", "getDayOfMonth", "()I"⟩ : MethodName)) (hw _ (List.mem_of_getElem? (i := 99) rfl)) (hw _ (List.mem_of_getElem? (i := 100) rfl)) (fun s' hZ => notFace_of_selects (args := #[]) (mvT hZ (hw _ (List.mem_of_getElem? (i := 102) rfl)))) (hw _ (List.mem_of_getElem? (i := 102) rfl)) (hw _ (List.mem_of_getElem? (i := 101) rfl)) (hw _ (List.mem_of_getElem? (i := 26) rfl)) (hw _ (List.mem_of_getElem? (i := 103) rfl)) (by decide) EB (ctGD l Z a0 hw b (1 : Int32) h115 FB3) (fun _ q => nomatch q) [] rfl (rest := []) rfl pd___I rfl rfl (by decide) (by exact Nat.le_of_ble_eq_true rfl) (by decide) (by decide) (fun v131 T q132 => ?_)
  obtain ⟨h135, S133, ⟨rfl, eh⟩, X134⟩ := q132
  have eh := eh.symm
  subst eh
  have X := X134 [] all0
  show W.Go _ _ _ _ _ _ _ _ _ _ _ (mkF m 55 #[.val (.int p0), .val (.int p1), .val (.int y), .val (.int q), .val (.ref b98), .val (.ref b)] [(.int (1 : Int32))])
  refine W.o_iconst X (1 : Int32) (pc' := 56) at_55 rfl rfl ?_
  refine W.o_if_icmpne X (pt := 63) (pf := 59) at_56 ⟨by decide, by decide⟩ rfl (fun hc => absurd rfl hc) (fun _ => ?_)
  refine W.o_iconst X (1 : Int32) (pc' := 60) at_59 rfl rfl ?_
  refine W.o_goto X (pc' := 64) at_60 ⟨by decide, by decide⟩ ?_
  exact W.o_ireturn X at_64 rfl (Or.inl rfl) (v := 1) rfl (by decide) (by decide) fun P hP => rfl
theorem eqJ_v {args : Array Value} {first s : State} {o : Option Outcome} {idx : List Nat} {t : Term} {n : Int64} (h : (Jvm.Cond.eq t (.long n)).value args first o s idx = some true) : t.eval args first o idx s = some (.long n) := by
  simp only [Cond.value, Term.eval] at h
  cases ht : t.eval args first o idx s with
  | none => simp [ht] at h
  | some x => cases x <;> simp [ht] at h ⊢; exact h
set_option maxRecDepth 65536 in
set_option maxHeartbeats 40000000 in
theorem comes_1 {Post : Tables → Env → Array Value → State → Outcome → State → Prop} (hpost : ∀ tb e args s v u, (limb_1_1.after args s (.returned v) u = true ∧ limb_1_2.after args s (.returned v) u = true ∧ True) → FrameEnd s (.returned v) u (Jvm.fieldLocs frame_1_writes args s ++ Jvm.arrayLocs frame_1_arrays args s ++ Jvm.staticLocs frame_1_statics s) 16 128 → Post tb e args s (.returned v) u) :
    ArmFor flags0 classFile x code maxLocals ret World_1 tables_1 room_1 Calls_1 rest_1 Pre_1 Post := by
  intro l hfl _ _ p e ha hc hk s m args below hf hA hF happ hP
  obtain ⟨hcalls, hrest, hpre⟩ := hP
  obtain ⟨-, -, -, hnamed, -, -, -, hat⟩ := (Spec.applies_iff hf).mp happ
  obtain ⟨hg, hn⟩ := and_e (Cond.before_iff.mp (show (Jvm.Cond.and given_1 narrow_1).before args s = true from hpre))
  obtain ⟨g0, r0⟩ := and_e hg
  obtain ⟨g1, r1⟩ := and_e r0
  obtain ⟨w0, w1, rfl⟩ : ∃ w0 w1 : Value, args = #[w0, w1] := by
    have hs : args.size = 2 := by simpa [Cond.value, given_1] using g0
    obtain ⟨L⟩ := args
    match L, hs with
    | [w0, w1], _ => exact ⟨w0, w1, rfl⟩
  have hw := fun d (hd : d ∈ tables_1) => atoms_spec (ws := Jvm.Cond.code x code maxLocals ret :: tables_1) hat d (List.mem_cons_of_mem _ hd)
  obtain ⟨hsets, hown0⟩ := atoms_of _ (rest_1_c_eq ▸ (show rest_1_c.before _ s = true from hrest))
  obtain ⟨i0, ei0⟩ := is_v g1
  obtain rfl : w0 = (.int i0) := Option.some.inj ei0
  obtain ⟨i1, ei1⟩ := is_v r1
  obtain rfl : w1 = (.int i1) := Option.some.inj ei1
  obtain ⟨f1, ef1⟩ := exa_v (Cond.before_iff.mp (hsets _ (List.mem_of_getElem? (i := 6) rfl)))
  have S1 : Sta s s.heap "java/time/temporal/ChronoField" "YEAR" "Ljava/time/temporal/ChronoField;" (.ref f1) := Sta.start ef1 (Or.inl (hsets _ (List.mem_of_getElem? (i := 1) rfl)))
  have EF1 := Exa.start ef1 (Cond.before_iff.mp (hsets _ (List.mem_of_getElem? (i := 6) rfl)))
  obtain ⟨r1, er1⟩ := exa_v (Cond.before_iff.mp (hsets _ (List.mem_of_getElem? (i := 22) rfl)))
  have FF1 : Fld s s.heap f1 "java/time/temporal/ChronoField" "range" "Ljava/time/temporal/ValueRange;" (.ref r1) := Fld.start ((fld_at ef1).symm.trans er1)
  have ER1 := Exa.start er1 (Cond.before_iff.mp (hsets _ (List.mem_of_getElem? (i := 22) rfl)))
  have FL1 : Fld s s.heap r1 "java/time/temporal/ValueRange" "minSmallest" "J" (.long (-999999999)) := Fld.start ((fld_at er1).symm.trans (eqJ_v (Cond.before_iff.mp (hsets _ (List.mem_of_getElem? (i := 23) rfl)))))
  have FH1 : Fld s s.heap r1 "java/time/temporal/ValueRange" "maxLargest" "J" (.long 999999999) := Fld.start ((fld_at er1).symm.trans (eqJ_v (Cond.before_iff.mp (hsets _ (List.mem_of_getElem? (i := 26) rfl)))))
  obtain ⟨f2, ef2⟩ := exa_v (Cond.before_iff.mp (hsets _ (List.mem_of_getElem? (i := 34) rfl)))
  have S2 : Sta s s.heap "java/time/temporal/ChronoField" "MONTH_OF_YEAR" "Ljava/time/temporal/ChronoField;" (.ref f2) := Sta.start ef2 (Or.inl (hsets _ (List.mem_of_getElem? (i := 29) rfl)))
  have EF2 := Exa.start ef2 (Cond.before_iff.mp (hsets _ (List.mem_of_getElem? (i := 34) rfl)))
  obtain ⟨r2, er2⟩ := exa_v (Cond.before_iff.mp (hsets _ (List.mem_of_getElem? (i := 50) rfl)))
  have FF2 : Fld s s.heap f2 "java/time/temporal/ChronoField" "range" "Ljava/time/temporal/ValueRange;" (.ref r2) := Fld.start ((fld_at ef2).symm.trans er2)
  have ER2 := Exa.start er2 (Cond.before_iff.mp (hsets _ (List.mem_of_getElem? (i := 50) rfl)))
  have FL2 : Fld s s.heap r2 "java/time/temporal/ValueRange" "minSmallest" "J" (.long 1) := Fld.start ((fld_at er2).symm.trans (eqJ_v (Cond.before_iff.mp (hsets _ (List.mem_of_getElem? (i := 51) rfl)))))
  have FH2 : Fld s s.heap r2 "java/time/temporal/ValueRange" "maxLargest" "J" (.long 12) := Fld.start ((fld_at er2).symm.trans (eqJ_v (Cond.before_iff.mp (hsets _ (List.mem_of_getElem? (i := 54) rfl)))))
  obtain ⟨f3, ef3⟩ := exa_v (Cond.before_iff.mp (hsets _ (List.mem_of_getElem? (i := 62) rfl)))
  have S3 : Sta s s.heap "java/time/temporal/ChronoField" "DAY_OF_MONTH" "Ljava/time/temporal/ChronoField;" (.ref f3) := Sta.start ef3 (Or.inl (hsets _ (List.mem_of_getElem? (i := 57) rfl)))
  have EF3 := Exa.start ef3 (Cond.before_iff.mp (hsets _ (List.mem_of_getElem? (i := 62) rfl)))
  obtain ⟨r3, er3⟩ := exa_v (Cond.before_iff.mp (hsets _ (List.mem_of_getElem? (i := 78) rfl)))
  have FF3 : Fld s s.heap f3 "java/time/temporal/ChronoField" "range" "Ljava/time/temporal/ValueRange;" (.ref r3) := Fld.start ((fld_at ef3).symm.trans er3)
  have ER3 := Exa.start er3 (Cond.before_iff.mp (hsets _ (List.mem_of_getElem? (i := 78) rfl)))
  have FL3 : Fld s s.heap r3 "java/time/temporal/ValueRange" "minSmallest" "J" (.long 1) := Fld.start ((fld_at er3).symm.trans (eqJ_v (Cond.before_iff.mp (hsets _ (List.mem_of_getElem? (i := 79) rfl)))))
  have FH3 : Fld s s.heap r3 "java/time/temporal/ValueRange" "maxLargest" "J" (.long 31) := Fld.start ((fld_at er3).symm.trans (eqJ_v (Cond.before_iff.mp (hsets _ (List.mem_of_getElem? (i := 82) rfl)))))
  have hEx : Ext s.heap s.heap := ⟨Nat.le_refl _, fun _ _ q => q⟩
  have hEW : EW s #[(.int i0), (.int i1)] el := EW.nil
  have hCH : CHv s el s.vm s.heap := fun p hp => (nomatch hp)
  obtain ⟨n, o, h1, h2, h3, v, L, rfl, ⟨N, -, -, rfl⟩, hq⟩ := ctLaw l s _ hw i0 i1 f1 r1 f2 r2 f3 r3 s.heap S1 EF1 FF1 ER1 FL1 FH1 S2 EF2 FF2 ER2 FL2 FH2 S3 EF3 FF3 ER3 FL3 FH3 tables_1 hEW hEx p e ha hc hk s m _ below hf ((Spec.applies_iff_loose hf).mp happ).1 ⟨rfl, State.Warmed39.refl s, rfl, hCH, all0⟩ trivial
  have hq : FrameEnd s _ _ L room_1.cells room_1.slots := hq
  exact ⟨n, _, h1, h2, h3, hpost _ _ _ _ _ _ ⟨Cond.after_iff.mpr rfl, Cond.after_iff.mpr (eq_i res_at (Term.int_eval (1)) rfl), trivial⟩ ⟨hq.1, hq.2.1, (hq.2.2.sift fun y hy => Or.inr (N y hy)).mono (by decide) (by decide)⟩⟩
theorem main_1_1 : Claimed_1_1 := comes_1 fun _ _ _ _ _ _ h hF => ⟨h.1, hF⟩
theorem main_1_2 : Claimed_1_2 := comes_1 fun _ _ _ _ _ _ h hF => ⟨h.2.1, hF⟩
end Jvm.Pilot.@@N@@
namespace Jvm.Pilot.@@N@@
open Jvm Jvm.ClassFile Sem Op Lib Jvm.Free Jvm.Stand Jvm.Pilot.@@N@@.Jvm.D
/-! MADE BY PROGRAM (witnessworld.py) out of the Statement's table words and the real class files: 23 classes; the members and pool entries that the words name. The judged class is class 1, her method 2. -/
namespace start1
open Jvm.ClassFile
def u (s : String) : CpInfo := .utf8 (stringToUtf16 s)
/-- a pool by its gaps: so many unusable entries, then the entry; so many at the end -/
def gap : Nat → List CpInfo → List CpInfo
  | 0, r => r
  | n + 1, r => .unusable :: gap n r
def poolList (es : List (Nat × CpInfo)) (last : Nat) : List CpInfo := es.foldr (fun e r => gap e.1 (e.2 :: r)) (gap last [])
def pool (es : List (Nat × CpInfo)) (last : Nat) : Array CpInfo := ⟨poolList es last⟩
def fileOf (pool : Array CpInfo) (this : Nat) (attrs : Array Attribute := #[]) (ms : Array MethodInfo := #[]) (fl : Nat := 33) (sup : Nat := 0) (ifs : Array Nat := #[]) (fds : Array FieldInfo := #[]) : ClassFile where
  minorVersion := 0
  majorVersion := 65
  constantPool := pool
  accessFlags := fl
  thisClass := this
  superClass := sup
  interfaces := ifs
  fields := fds
  methods := ms
  attributes := attrs
def plain (name : String) (sup : Option ClassId) : Class where
  name := name
  kind := .ordinary
  loader := none
  accessFlags := 33
  super := sup
  interfaces := #[]
  cf := none
  fields := #[]
  methods := #[]
  instanceTypes := #[]
  staticTypes := #[]
  resolved := #[]
  callSites := []
  init := .initialized
  statics := none
  mirror := none

def pool0 : Array CpInfo := pool [(5, u "<init>"), (0, u "()V"), (1, .class_ 10), (1, u "java/lang/Object")] 113

def k0c0 : Code := { maxStack := 0, maxLocals := 1, code := object_method_1_code, exceptionTable := #[], attributes := #[] }
def k0m0 : Method := { name := "<init>", desc := "()V", sig := { parameters := [], returnType := none }, accessFlags := 1, code := some k0c0 }
/-- java/lang/Object -/
def k0 : Class := { plain "java/lang/Object" none with
  accessFlags := 33
  interfaces := #[]
  cf := some (fileOf pool0 8 #[] #[{ accessFlags := 1, nameIndex := 5, descriptorIndex := 6, attributes := #[] }] 33 0 #[] #[])
  fields := #[]
  methods := #[k0m0]
  instanceTypes := #[]
  staticTypes := #[]
  resolved := Array.replicate 124 none
  statics := none }

def pool1 : Array CpInfo := pool [(2, .class_ 4), (1, u "java/lang/Object"), (0, u "<init>"), (0, u "()V"), (0, .integer 1000000000), (0, .class_ 9), (0, u "com/example/noteform/noteform/util/Quarter"), (0, .methodref 8 11), (0, .nameAndType 5 12), (0, u "(II)V"), (0, .methodref 8 14), (0, .nameAndType 15 16), (0, u "firstDay"), (0, u "()Ljava/time/LocalDate;"), (0, .methodref 18 19), (0, .class_ 20), (0, .nameAndType 21 22), (0, u "java/time/LocalDate"), (0, u "getYear"), (0, u "()I"), (0, .methodref 18 24), (0, .nameAndType 25 22), (0, u "getMonthValue"), (0, .methodref 27 28), (0, .class_ 29), (0, .nameAndType 30 31), (0, u "com/example/noteform/noteform/util/QuarterFirstDayPinLaw"), (0, u "firstMonth"), (0, u "(I)I"), (0, .methodref 18 33), (0, .nameAndType 34 22), (0, u "getDayOfMonth"), (3, u "law"), (0, u "(II)Z")] 2

def k1m0 : Method := { name := "<init>", desc := "()V", sig := { parameters := [], returnType := none }, accessFlags := 1, code := none }
def k1c1 : Code := { maxStack := 2, maxLocals := 1, code := method_2_code, exceptionTable := #[], attributes := #[] }
def k1m1 : Method := { name := "firstMonth", desc := "(I)I", sig := { parameters := [.int], returnType := some .int }, accessFlags := 10, code := some k1c1 }
def k1c2 : Code := { maxStack := 4, maxLocals := 6, code := code, exceptionTable := #[], attributes := #[] }
def k1m2 : Method := { name := "law", desc := "(II)Z", sig := { parameters := [.int, .int], returnType := some .boolean }, accessFlags := 9, code := some k1c2 }
/-- com/example/noteform/noteform/util/QuarterFirstDayPinLaw -/
def k1 : Class := { plain "com/example/noteform/noteform/util/QuarterFirstDayPinLaw" (some 0) with
  accessFlags := 49
  interfaces := #[]
  cf := some (fileOf pool1 27 #[] #[{ accessFlags := 1, nameIndex := 5, descriptorIndex := 6, attributes := #[] }, { accessFlags := 10, nameIndex := 30, descriptorIndex := 31, attributes := #[] }, { accessFlags := 9, nameIndex := 38, descriptorIndex := 39, attributes := #[] }] 49 2 #[] #[])
  fields := #[]
  methods := #[k1m0, k1m1, k1m2]
  instanceTypes := #[]
  staticTypes := #[]
  resolved := Array.replicate 42 none
  statics := none }

def pool2 : Array CpInfo := pool [(1, .methodref 2 3), (0, .class_ 4), (0, .nameAndType 5 6), (0, u "java/lang/Object"), (0, u "<init>"), (0, u "()V"), (0, .class_ 8), (0, u "java/lang/Record")] 13

def k2c0 : Code := { maxStack := 1, maxLocals := 1, code := jdk_30_method_1_code, exceptionTable := #[], attributes := #[] }
def k2m0 : Method := { name := "<init>", desc := "()V", sig := { parameters := [], returnType := none }, accessFlags := 4, code := some k2c0 }
/-- java/lang/Record -/
def k2 : Class := { plain "java/lang/Record" (some 0) with
  accessFlags := 1057
  interfaces := #[]
  cf := some (fileOf pool2 7 #[] #[{ accessFlags := 4, nameIndex := 5, descriptorIndex := 6, attributes := #[] }] 1057 2 #[] #[])
  fields := #[]
  methods := #[k2m0]
  instanceTypes := #[]
  staticTypes := #[]
  resolved := Array.replicate 22 none
  statics := none }

def pool3 : Array CpInfo := pool [(1, .methodref 2 3), (0, .class_ 4), (0, .nameAndType 5 6), (0, u "java/lang/Record"), (0, u "<init>"), (0, u "()V"), (0, .class_ 8), (0, u "com/example/noteform/noteform/util/Quarter"), (9, .fieldref 7 19), (0, .nameAndType 20 21), (0, u "year"), (0, u "I"), (0, .fieldref 7 23), (0, .nameAndType 24 21), (0, u "number"), (1, .class_ 28), (1, u "java/time/LocalDate"), (14, u "(II)V"), (0, .methodref 26 45), (0, .nameAndType 46 47), (0, u "of"), (0, u "(III)Ljava/time/LocalDate;"), (2, u "firstDay"), (0, u "()Ljava/time/LocalDate;"), (20, u "QUARTERS"), (2, u "MONTHS")] 43

def k3c0 : Code := { maxStack := 3, maxLocals := 3, code := prog_97_method_1_code, exceptionTable := #[], attributes := #[] }
def k3m0 : Method := { name := "<init>", desc := "(II)V", sig := { parameters := [.int, .int], returnType := none }, accessFlags := 1, code := some k3c0 }
def k3c1 : Code := { maxStack := 3, maxLocals := 1, code := prog_97_method_3_code, exceptionTable := #[], attributes := #[] }
def k3m1 : Method := { name := "firstDay", desc := "()Ljava/time/LocalDate;", sig := { parameters := [], returnType := some (.object "java/time/LocalDate") }, accessFlags := 1, code := some k3c1 }
/-- com/example/noteform/noteform/util/Quarter -/
def k3 : Class := { plain "com/example/noteform/noteform/util/Quarter" (some 2) with
  accessFlags := 49
  interfaces := #[]
  cf := some (fileOf pool3 7 #[] #[{ accessFlags := 1, nameIndex := 5, descriptorIndex := 43, attributes := #[] }, { accessFlags := 1, nameIndex := 50, descriptorIndex := 51, attributes := #[] }] 49 2 #[] #[{ accessFlags := 18, nameIndex := 20, descriptorIndex := 21, attributes := #[] }, { accessFlags := 18, nameIndex := 24, descriptorIndex := 21, attributes := #[] }, { accessFlags := 26, nameIndex := 72, descriptorIndex := 21, attributes := #[] }, { accessFlags := 26, nameIndex := 75, descriptorIndex := 21, attributes := #[] }])
  fields := #[{ name := "year", type := .int, accessFlags := 18, slot := 0, constantValue := 0 }, { name := "number", type := .int, accessFlags := 18, slot := 1, constantValue := 0 }, { name := "QUARTERS", type := .int, accessFlags := 26, slot := 0, constantValue := 0 }, { name := "MONTHS", type := .int, accessFlags := 26, slot := 1, constantValue := 0 }]
  methods := #[k3m0, k3m1]
  instanceTypes := #[.int, .int]
  staticTypes := #[.int, .int]
  resolved := Array.replicate 119 none
  statics := none }

def pool4 : Array CpInfo := pool [(4, .class_ 6), (1, u "java/time/temporal/TemporalAccessor"), (95, .class_ 103), (0, u "java/lang/Object")] 21

/-- java/time/temporal/TemporalAccessor -/
def k4 : Class := { plain "java/time/temporal/TemporalAccessor" (some 0) with
  accessFlags := 1537
  interfaces := #[]
  cf := some (fileOf pool4 4 #[] #[] 1537 102 #[] #[])
  fields := #[]
  methods := #[]
  instanceTypes := #[]
  staticTypes := #[]
  resolved := Array.replicate 125 none
  statics := none }

def pool5 : Array CpInfo := pool [(22, .class_ 24), (1, u "java/time/temporal/Temporal"), (2, .class_ 28), (0, u "java/lang/Object"), (0, .class_ 30), (0, u "java/time/temporal/TemporalAccessor")] 25

/-- java/time/temporal/Temporal -/
def k5 : Class := { plain "java/time/temporal/Temporal" (some 0) with
  accessFlags := 1537
  interfaces := #[4]
  cf := some (fileOf pool5 22 #[] #[] 1537 27 #[29] #[])
  fields := #[]
  methods := #[]
  instanceTypes := #[]
  staticTypes := #[]
  resolved := Array.replicate 56 none
  statics := none }

def pool6 : Array CpInfo := pool [(1, .class_ 2), (0, u "java/time/temporal/TemporalAdjuster"), (0, .class_ 4), (0, u "java/lang/Object")] 6

/-- java/time/temporal/TemporalAdjuster -/
def k6 : Class := { plain "java/time/temporal/TemporalAdjuster" (some 0) with
  accessFlags := 1537
  interfaces := #[]
  cf := some (fileOf pool6 1 #[] #[] 1537 3 #[] #[])
  fields := #[]
  methods := #[]
  instanceTypes := #[]
  staticTypes := #[]
  resolved := Array.replicate 11 none
  statics := none }

def pool7 : Array CpInfo := pool [(1, .class_ 2), (0, u "java/lang/Comparable"), (0, .class_ 4), (0, u "java/lang/Object")] 7

/-- java/lang/Comparable -/
def k7 : Class := { plain "java/lang/Comparable" (some 0) with
  accessFlags := 1537
  interfaces := #[]
  cf := some (fileOf pool7 1 #[] #[] 1537 3 #[] #[])
  fields := #[]
  methods := #[]
  instanceTypes := #[]
  staticTypes := #[]
  resolved := Array.replicate 12 none
  statics := none }

def pool8 : Array CpInfo := pool [(9, .class_ 10), (0, u "java/time/chrono/ChronoLocalDate"), (104, .class_ 117), (1, u "java/time/temporal/Temporal"), (134, .class_ 253), (0, u "java/lang/Object"), (23, .class_ 278), (0, u "java/time/temporal/TemporalAdjuster"), (0, .class_ 280), (0, u "java/lang/Comparable")] 86

/-- java/time/chrono/ChronoLocalDate -/
def k8 : Class := { plain "java/time/chrono/ChronoLocalDate" (some 0) with
  accessFlags := 1537
  interfaces := #[5, 6, 7]
  cf := some (fileOf pool8 9 #[] #[] 1537 252 #[115, 277, 279] #[])
  fields := #[]
  methods := #[]
  instanceTypes := #[]
  staticTypes := #[]
  resolved := Array.replicate 367 none
  statics := none }

def pool9 : Array CpInfo := pool [(1, .class_ 2), (0, u "java/io/Serializable"), (0, .class_ 4), (0, u "java/lang/Object")] 2

/-- java/io/Serializable -/
def k9 : Class := { plain "java/io/Serializable" (some 0) with
  accessFlags := 1537
  interfaces := #[]
  cf := some (fileOf pool9 1 #[] #[] 1537 3 #[] #[])
  fields := #[]
  methods := #[]
  instanceTypes := #[]
  staticTypes := #[]
  resolved := Array.replicate 7 none
  statics := none }

def pool10 : Array CpInfo := pool [(1, .class_ 2), (0, u "java/time/LocalDate"), (36, .fieldref 40 41), (0, .class_ 42), (0, .nameAndType 43 44), (0, u "java/time/temporal/ChronoField"), (0, u "YEAR"), (0, u "Ljava/time/temporal/ChronoField;"), (0, .methodref 40 46), (0, .nameAndType 47 48), (0, u "checkValidValue"), (0, u "(J)J"), (1, u "month"), (0, .fieldref 40 52), (0, .nameAndType 53 44), (0, u "DAY_OF_MONTH"), (5, u "()I"), (0, .methodref 1 61), (0, .nameAndType 62 63), (0, u "create"), (0, u "(III)Ljava/time/LocalDate;"), (0, .fieldref 40 65), (0, .nameAndType 66 44), (0, u "MONTH_OF_YEAR"), (18, .nameAndType 86 87), (0, u "<init>"), (0, u "()V"), (20, u "of"), (12, .methodref 1 122), (0, .nameAndType 86 123), (0, u "(III)V"), (119, .methodref 244 85), (0, .class_ 245), (0, u "java/lang/Object"), (0, .fieldref 1 247), (0, .nameAndType 248 249), (0, u "year"), (0, u "I"), (0, .fieldref 1 251), (0, .nameAndType 50 252), (0, u "S"), (0, .fieldref 1 254), (0, .nameAndType 255 252), (0, u "day"), (1, .class_ 259), (1, u "java/time/chrono/ChronoLocalDate"), (10, .class_ 272), (1, u "java/time/LocalDate$1"), (30, u "getYear"), (76, .class_ 382), (1, u "java/time/temporal/TemporalAdjuster"), (153, u "getDayOfMonth"), (51, u "MAX"), (0, u "Ljava/time/LocalDate;"), (2, u "MIN"), (176, u "EPOCH"), (0, .class_ 771), (0, u "java/time/temporal/Temporal"), (0, .class_ 773), (0, u "java/io/Serializable"), (0, u "serialVersionUID"), (0, u "J"), (3, u "DAYS_PER_CYCLE"), (1, u "DAYS_0000_TO_1970"), (42, u "getMonthValue")] 163

def k10c0 : Code := { maxStack := 3, maxLocals := 3, code := jdk_2323_method_5_code, exceptionTable := #[], attributes := #[] }
def k10m0 : Method := { name := "of", desc := "(III)Ljava/time/LocalDate;", sig := { parameters := [.int, .int, .int], returnType := some (.object "java/time/LocalDate") }, accessFlags := 9, code := some k10c0 }
def k10c1 : Code := { maxStack := 5, maxLocals := 4, code := jdk_2323_method_12_code, exceptionTable := #[], attributes := #[] }
def k10m1 : Method := { name := "create", desc := "(III)Ljava/time/LocalDate;", sig := { parameters := [.int, .int, .int], returnType := some (.object "java/time/LocalDate") }, accessFlags := 10, code := some k10c1 }
def k10c2 : Code := { maxStack := 2, maxLocals := 4, code := jdk_2323_method_14_code, exceptionTable := #[], attributes := #[] }
def k10m2 : Method := { name := "<init>", desc := "(III)V", sig := { parameters := [.int, .int, .int], returnType := none }, accessFlags := 2, code := some k10c2 }
def k10c3 : Code := { maxStack := 1, maxLocals := 1, code := jdk_2323_method_24_code, exceptionTable := #[], attributes := #[] }
def k10m3 : Method := { name := "getYear", desc := "()I", sig := { parameters := [], returnType := some .int }, accessFlags := 1, code := some k10c3 }
def k10c4 : Code := { maxStack := 1, maxLocals := 1, code := jdk_2323_method_25_code, exceptionTable := #[], attributes := #[] }
def k10m4 : Method := { name := "getMonthValue", desc := "()I", sig := { parameters := [], returnType := some .int }, accessFlags := 1, code := some k10c4 }
def k10c5 : Code := { maxStack := 1, maxLocals := 1, code := jdk_2323_method_27_code, exceptionTable := #[], attributes := #[] }
def k10m5 : Method := { name := "getDayOfMonth", desc := "()I", sig := { parameters := [], returnType := some .int }, accessFlags := 1, code := some k10c5 }
/-- java/time/LocalDate -/
def k10 : Class := { plain "java/time/LocalDate" (some 0) with
  accessFlags := 49
  interfaces := #[5, 6, 8, 9]
  cf := some (fileOf pool10 1 #[.nestMembers #[270]] #[{ accessFlags := 9, nameIndex := 108, descriptorIndex := 63, attributes := #[] }, { accessFlags := 10, nameIndex := 62, descriptorIndex := 63, attributes := #[] }, { accessFlags := 2, nameIndex := 86, descriptorIndex := 123, attributes := #[] }, { accessFlags := 1, nameIndex := 303, descriptorIndex := 59, attributes := #[] }, { accessFlags := 1, nameIndex := 824, descriptorIndex := 59, attributes := #[] }, { accessFlags := 1, nameIndex := 536, descriptorIndex := 59, attributes := #[] }] 49 244 #[770, 380, 257, 772] #[{ accessFlags := 25, nameIndex := 592, descriptorIndex := 589, attributes := #[] }, { accessFlags := 25, nameIndex := 588, descriptorIndex := 589, attributes := #[] }, { accessFlags := 25, nameIndex := 769, descriptorIndex := 589, attributes := #[] }, { accessFlags := 26, nameIndex := 774, descriptorIndex := 775, attributes := #[] }, { accessFlags := 26, nameIndex := 779, descriptorIndex := 249, attributes := #[] }, { accessFlags := 24, nameIndex := 781, descriptorIndex := 775, attributes := #[] }, { accessFlags := 18, nameIndex := 248, descriptorIndex := 249, attributes := #[] }, { accessFlags := 18, nameIndex := 50, descriptorIndex := 252, attributes := #[] }, { accessFlags := 18, nameIndex := 255, descriptorIndex := 252, attributes := #[] }])
  fields := #[{ name := "MIN", type := (.object "java/time/LocalDate"), accessFlags := 25, slot := 0, constantValue := 0 }, { name := "MAX", type := (.object "java/time/LocalDate"), accessFlags := 25, slot := 1, constantValue := 0 }, { name := "EPOCH", type := (.object "java/time/LocalDate"), accessFlags := 25, slot := 2, constantValue := 0 }, { name := "serialVersionUID", type := .long, accessFlags := 26, slot := 3, constantValue := 0 }, { name := "DAYS_PER_CYCLE", type := .int, accessFlags := 26, slot := 4, constantValue := 0 }, { name := "DAYS_0000_TO_1970", type := .long, accessFlags := 24, slot := 5, constantValue := 0 }, { name := "year", type := .int, accessFlags := 18, slot := 0, constantValue := 0 }, { name := "month", type := .short, accessFlags := 18, slot := 1, constantValue := 0 }, { name := "day", type := .short, accessFlags := 18, slot := 2, constantValue := 0 }]
  methods := #[k10m0, k10m1, k10m2, k10m3, k10m4, k10m5]
  instanceTypes := #[.int, .short, .short]
  staticTypes := #[(.object "java/time/LocalDate"), (.object "java/time/LocalDate"), (.object "java/time/LocalDate"), .long, .int, .long]
  resolved := Array.replicate 988 none
  statics := none }

def pool11 : Array CpInfo := pool [(1, .class_ 2), (0, u "java/lang/constant/Constable"), (0, .class_ 4), (0, u "java/lang/Object")] 6

/-- java/lang/constant/Constable -/
def k11 : Class := { plain "java/lang/constant/Constable" (some 0) with
  accessFlags := 1537
  interfaces := #[]
  cf := some (fileOf pool11 1 #[] #[] 1537 3 #[] #[])
  fields := #[]
  methods := #[]
  instanceTypes := #[]
  staticTypes := #[]
  resolved := Array.replicate 11 none
  statics := none }

def pool12 : Array CpInfo := pool [(2, .class_ 4), (1, u "java/lang/Enum"), (0, u "name"), (0, u "Ljava/lang/String;"), (2, u "ordinal"), (0, u "I"), (1, .class_ 14), (1, u "java/lang/Object"), (4, u "hash"), (86, .class_ 108), (1, u "java/lang/Enum$EnumDesc"), (2, .class_ 112), (0, u "java/lang/constant/Constable"), (0, .class_ 114), (0, u "java/lang/Comparable"), (0, .class_ 116), (0, u "java/io/Serializable")] 87

/-- java/lang/Enum -/
def k12 : Class := { plain "java/lang/Enum" (some 0) with
  accessFlags := 1057
  interfaces := #[11, 7, 9]
  cf := some (fileOf pool12 2 #[.nestMembers #[106]] #[] 1057 12 #[111, 113, 115] #[{ accessFlags := 18, nameIndex := 5, descriptorIndex := 6, attributes := #[] }, { accessFlags := 18, nameIndex := 9, descriptorIndex := 10, attributes := #[] }, { accessFlags := 2, nameIndex := 19, descriptorIndex := 10, attributes := #[] }])
  fields := #[{ name := "name", type := (.object "java/lang/String"), accessFlags := 18, slot := 0, constantValue := 0 }, { name := "ordinal", type := .int, accessFlags := 18, slot := 1, constantValue := 0 }, { name := "hash", type := .int, accessFlags := 2, slot := 2, constantValue := 0 }]
  methods := #[]
  instanceTypes := #[(.object "java/lang/String"), .int, .int]
  staticTypes := #[]
  resolved := Array.replicate 204 none
  statics := none }

def pool13 : Array CpInfo := pool [(10, .class_ 12), (1, u "java/time/temporal/TemporalField"), (2, .class_ 16), (0, u "java/lang/Object")] 39

/-- java/time/temporal/TemporalField -/
def k13 : Class := { plain "java/time/temporal/TemporalField" (some 0) with
  accessFlags := 1537
  interfaces := #[]
  cf := some (fileOf pool13 10 #[] #[] 1537 15 #[] #[])
  fields := #[]
  methods := #[]
  instanceTypes := #[]
  staticTypes := #[]
  resolved := Array.replicate 56 none
  statics := none }

def pool14 : Array CpInfo := pool [(1, .class_ 2), (0, u "java/time/temporal/ChronoField"), (2, u "NANO_OF_SECOND"), (0, u "Ljava/time/temporal/ChronoField;"), (2, u "NANO_OF_DAY"), (2, u "MICRO_OF_SECOND"), (2, u "MICRO_OF_DAY"), (2, u "MILLI_OF_SECOND"), (2, u "MILLI_OF_DAY"), (2, u "SECOND_OF_MINUTE"), (2, u "SECOND_OF_DAY"), (2, u "MINUTE_OF_HOUR"), (2, u "MINUTE_OF_DAY"), (2, u "HOUR_OF_AMPM"), (2, u "CLOCK_HOUR_OF_AMPM"), (2, u "HOUR_OF_DAY"), (2, u "CLOCK_HOUR_OF_DAY"), (2, u "AMPM_OF_DAY"), (2, u "DAY_OF_WEEK"), (2, u "ALIGNED_DAY_OF_WEEK_IN_MONTH"), (2, u "ALIGNED_DAY_OF_WEEK_IN_YEAR"), (2, u "DAY_OF_MONTH"), (2, u "DAY_OF_YEAR"), (2, u "EPOCH_DAY"), (2, u "ALIGNED_WEEK_OF_MONTH"), (2, u "ALIGNED_WEEK_OF_YEAR"), (2, u "MONTH_OF_YEAR"), (2, u "PROLEPTIC_MONTH"), (2, u "YEAR_OF_ERA"), (2, u "YEAR"), (2, u "ERA"), (2, u "INSTANT_SECONDS"), (2, u "OFFSET_SECONDS"), (2, u "$VALUES"), (0, u "[Ljava/time/temporal/ChronoField;"), (6, .class_ 106), (1, u "java/lang/Enum"), (8, u "name"), (0, u "Ljava/lang/String;"), (2, u "baseUnit"), (0, u "Ljava/time/temporal/TemporalUnit;"), (2, u "rangeUnit"), (0, .fieldref 1 125), (0, .nameAndType 126 127), (0, u "range"), (0, u "Ljava/time/temporal/ValueRange;"), (2, u "displayNameKey"), (59, .methodref 1 191), (0, .nameAndType 126 192), (0, u "()Ljava/time/temporal/ValueRange;"), (0, .methodref 194 195), (0, .class_ 196), (0, .nameAndType 197 198), (0, u "java/time/temporal/ValueRange"), (0, u "checkValidValue"), (0, u "(JLjava/time/temporal/TemporalField;)J"), (256, .class_ 456), (0, u "java/time/temporal/TemporalField"), (27, u "(J)J")] 22

def k14c0 : Code := { maxStack := 1, maxLocals := 1, code := jdk_2395_method_8_code, exceptionTable := #[], attributes := #[] }
def k14m0 : Method := { name := "range", desc := "()Ljava/time/temporal/ValueRange;", sig := { parameters := [], returnType := some (.object "java/time/temporal/ValueRange") }, accessFlags := 1, code := some k14c0 }
def k14c1 : Code := { maxStack := 4, maxLocals := 3, code := jdk_2395_method_11_code, exceptionTable := #[], attributes := #[] }
def k14m1 : Method := { name := "checkValidValue", desc := "(J)J", sig := { parameters := [.long], returnType := some .long }, accessFlags := 1, code := some k14c1 }
/-- java/time/temporal/ChronoField -/
def k14 : Class := { plain "java/time/temporal/ChronoField" (some 12) with
  accessFlags := 16433
  interfaces := #[13]
  cf := some (fileOf pool14 1 #[] #[{ accessFlags := 1, nameIndex := 126, descriptorIndex := 192, attributes := #[] }, { accessFlags := 1, nameIndex := 197, descriptorIndex := 484, attributes := #[] }] 16433 104 #[455] #[{ accessFlags := 16409, nameIndex := 5, descriptorIndex := 6, attributes := #[] }, { accessFlags := 16409, nameIndex := 9, descriptorIndex := 6, attributes := #[] }, { accessFlags := 16409, nameIndex := 12, descriptorIndex := 6, attributes := #[] }, { accessFlags := 16409, nameIndex := 15, descriptorIndex := 6, attributes := #[] }, { accessFlags := 16409, nameIndex := 18, descriptorIndex := 6, attributes := #[] }, { accessFlags := 16409, nameIndex := 21, descriptorIndex := 6, attributes := #[] }, { accessFlags := 16409, nameIndex := 24, descriptorIndex := 6, attributes := #[] }, { accessFlags := 16409, nameIndex := 27, descriptorIndex := 6, attributes := #[] }, { accessFlags := 16409, nameIndex := 30, descriptorIndex := 6, attributes := #[] }, { accessFlags := 16409, nameIndex := 33, descriptorIndex := 6, attributes := #[] }, { accessFlags := 16409, nameIndex := 36, descriptorIndex := 6, attributes := #[] }, { accessFlags := 16409, nameIndex := 39, descriptorIndex := 6, attributes := #[] }, { accessFlags := 16409, nameIndex := 42, descriptorIndex := 6, attributes := #[] }, { accessFlags := 16409, nameIndex := 45, descriptorIndex := 6, attributes := #[] }, { accessFlags := 16409, nameIndex := 48, descriptorIndex := 6, attributes := #[] }, { accessFlags := 16409, nameIndex := 51, descriptorIndex := 6, attributes := #[] }, { accessFlags := 16409, nameIndex := 54, descriptorIndex := 6, attributes := #[] }, { accessFlags := 16409, nameIndex := 57, descriptorIndex := 6, attributes := #[] }, { accessFlags := 16409, nameIndex := 60, descriptorIndex := 6, attributes := #[] }, { accessFlags := 16409, nameIndex := 63, descriptorIndex := 6, attributes := #[] }, { accessFlags := 16409, nameIndex := 66, descriptorIndex := 6, attributes := #[] }, { accessFlags := 16409, nameIndex := 69, descriptorIndex := 6, attributes := #[] }, { accessFlags := 16409, nameIndex := 72, descriptorIndex := 6, attributes := #[] }, { accessFlags := 16409, nameIndex := 75, descriptorIndex := 6, attributes := #[] }, { accessFlags := 16409, nameIndex := 78, descriptorIndex := 6, attributes := #[] }, { accessFlags := 16409, nameIndex := 81, descriptorIndex := 6, attributes := #[] }, { accessFlags := 16409, nameIndex := 84, descriptorIndex := 6, attributes := #[] }, { accessFlags := 16409, nameIndex := 87, descriptorIndex := 6, attributes := #[] }, { accessFlags := 16409, nameIndex := 90, descriptorIndex := 6, attributes := #[] }, { accessFlags := 16409, nameIndex := 93, descriptorIndex := 6, attributes := #[] }, { accessFlags := 18, nameIndex := 115, descriptorIndex := 116, attributes := #[] }, { accessFlags := 18, nameIndex := 119, descriptorIndex := 120, attributes := #[] }, { accessFlags := 18, nameIndex := 123, descriptorIndex := 120, attributes := #[] }, { accessFlags := 18, nameIndex := 126, descriptorIndex := 127, attributes := #[] }, { accessFlags := 18, nameIndex := 130, descriptorIndex := 116, attributes := #[] }, { accessFlags := 4122, nameIndex := 96, descriptorIndex := 97, attributes := #[] }])
  fields := #[{ name := "NANO_OF_SECOND", type := (.object "java/time/temporal/ChronoField"), accessFlags := 16409, slot := 0, constantValue := 0 }, { name := "NANO_OF_DAY", type := (.object "java/time/temporal/ChronoField"), accessFlags := 16409, slot := 1, constantValue := 0 }, { name := "MICRO_OF_SECOND", type := (.object "java/time/temporal/ChronoField"), accessFlags := 16409, slot := 2, constantValue := 0 }, { name := "MICRO_OF_DAY", type := (.object "java/time/temporal/ChronoField"), accessFlags := 16409, slot := 3, constantValue := 0 }, { name := "MILLI_OF_SECOND", type := (.object "java/time/temporal/ChronoField"), accessFlags := 16409, slot := 4, constantValue := 0 }, { name := "MILLI_OF_DAY", type := (.object "java/time/temporal/ChronoField"), accessFlags := 16409, slot := 5, constantValue := 0 }, { name := "SECOND_OF_MINUTE", type := (.object "java/time/temporal/ChronoField"), accessFlags := 16409, slot := 6, constantValue := 0 }, { name := "SECOND_OF_DAY", type := (.object "java/time/temporal/ChronoField"), accessFlags := 16409, slot := 7, constantValue := 0 }, { name := "MINUTE_OF_HOUR", type := (.object "java/time/temporal/ChronoField"), accessFlags := 16409, slot := 8, constantValue := 0 }, { name := "MINUTE_OF_DAY", type := (.object "java/time/temporal/ChronoField"), accessFlags := 16409, slot := 9, constantValue := 0 }, { name := "HOUR_OF_AMPM", type := (.object "java/time/temporal/ChronoField"), accessFlags := 16409, slot := 10, constantValue := 0 }, { name := "CLOCK_HOUR_OF_AMPM", type := (.object "java/time/temporal/ChronoField"), accessFlags := 16409, slot := 11, constantValue := 0 }, { name := "HOUR_OF_DAY", type := (.object "java/time/temporal/ChronoField"), accessFlags := 16409, slot := 12, constantValue := 0 }, { name := "CLOCK_HOUR_OF_DAY", type := (.object "java/time/temporal/ChronoField"), accessFlags := 16409, slot := 13, constantValue := 0 }, { name := "AMPM_OF_DAY", type := (.object "java/time/temporal/ChronoField"), accessFlags := 16409, slot := 14, constantValue := 0 }, { name := "DAY_OF_WEEK", type := (.object "java/time/temporal/ChronoField"), accessFlags := 16409, slot := 15, constantValue := 0 }, { name := "ALIGNED_DAY_OF_WEEK_IN_MONTH", type := (.object "java/time/temporal/ChronoField"), accessFlags := 16409, slot := 16, constantValue := 0 }, { name := "ALIGNED_DAY_OF_WEEK_IN_YEAR", type := (.object "java/time/temporal/ChronoField"), accessFlags := 16409, slot := 17, constantValue := 0 }, { name := "DAY_OF_MONTH", type := (.object "java/time/temporal/ChronoField"), accessFlags := 16409, slot := 18, constantValue := 0 }, { name := "DAY_OF_YEAR", type := (.object "java/time/temporal/ChronoField"), accessFlags := 16409, slot := 19, constantValue := 0 }, { name := "EPOCH_DAY", type := (.object "java/time/temporal/ChronoField"), accessFlags := 16409, slot := 20, constantValue := 0 }, { name := "ALIGNED_WEEK_OF_MONTH", type := (.object "java/time/temporal/ChronoField"), accessFlags := 16409, slot := 21, constantValue := 0 }, { name := "ALIGNED_WEEK_OF_YEAR", type := (.object "java/time/temporal/ChronoField"), accessFlags := 16409, slot := 22, constantValue := 0 }, { name := "MONTH_OF_YEAR", type := (.object "java/time/temporal/ChronoField"), accessFlags := 16409, slot := 23, constantValue := 0 }, { name := "PROLEPTIC_MONTH", type := (.object "java/time/temporal/ChronoField"), accessFlags := 16409, slot := 24, constantValue := 0 }, { name := "YEAR_OF_ERA", type := (.object "java/time/temporal/ChronoField"), accessFlags := 16409, slot := 25, constantValue := 0 }, { name := "YEAR", type := (.object "java/time/temporal/ChronoField"), accessFlags := 16409, slot := 26, constantValue := 0 }, { name := "ERA", type := (.object "java/time/temporal/ChronoField"), accessFlags := 16409, slot := 27, constantValue := 0 }, { name := "INSTANT_SECONDS", type := (.object "java/time/temporal/ChronoField"), accessFlags := 16409, slot := 28, constantValue := 0 }, { name := "OFFSET_SECONDS", type := (.object "java/time/temporal/ChronoField"), accessFlags := 16409, slot := 29, constantValue := 0 }, { name := "name", type := (.object "java/lang/String"), accessFlags := 18, slot := 3, constantValue := 0 }, { name := "baseUnit", type := (.object "java/time/temporal/TemporalUnit"), accessFlags := 18, slot := 4, constantValue := 0 }, { name := "rangeUnit", type := (.object "java/time/temporal/TemporalUnit"), accessFlags := 18, slot := 5, constantValue := 0 }, { name := "range", type := (.object "java/time/temporal/ValueRange"), accessFlags := 18, slot := 6, constantValue := 0 }, { name := "displayNameKey", type := (.object "java/lang/String"), accessFlags := 18, slot := 7, constantValue := 0 }, { name := "$VALUES", type := (.array (.object "java/time/temporal/ChronoField")), accessFlags := 4122, slot := 30, constantValue := 0 }]
  methods := #[k14m0, k14m1]
  instanceTypes := #[(.object "java/lang/String"), .int, .int, (.object "java/lang/String"), (.object "java/time/temporal/TemporalUnit"), (.object "java/time/temporal/TemporalUnit"), (.object "java/time/temporal/ValueRange"), (.object "java/lang/String")]
  staticTypes := #[(.object "java/time/temporal/ChronoField"), (.object "java/time/temporal/ChronoField"), (.object "java/time/temporal/ChronoField"), (.object "java/time/temporal/ChronoField"), (.object "java/time/temporal/ChronoField"), (.object "java/time/temporal/ChronoField"), (.object "java/time/temporal/ChronoField"), (.object "java/time/temporal/ChronoField"), (.object "java/time/temporal/ChronoField"), (.object "java/time/temporal/ChronoField"), (.object "java/time/temporal/ChronoField"), (.object "java/time/temporal/ChronoField"), (.object "java/time/temporal/ChronoField"), (.object "java/time/temporal/ChronoField"), (.object "java/time/temporal/ChronoField"), (.object "java/time/temporal/ChronoField"), (.object "java/time/temporal/ChronoField"), (.object "java/time/temporal/ChronoField"), (.object "java/time/temporal/ChronoField"), (.object "java/time/temporal/ChronoField"), (.object "java/time/temporal/ChronoField"), (.object "java/time/temporal/ChronoField"), (.object "java/time/temporal/ChronoField"), (.object "java/time/temporal/ChronoField"), (.object "java/time/temporal/ChronoField"), (.object "java/time/temporal/ChronoField"), (.object "java/time/temporal/ChronoField"), (.object "java/time/temporal/ChronoField"), (.object "java/time/temporal/ChronoField"), (.object "java/time/temporal/ChronoField"), (.array (.object "java/time/temporal/ChronoField"))]
  resolved := Array.replicate 507 none
  statics := some 0 }

def pool15 : Array CpInfo := pool [(9, .class_ 10), (0, u "java/time/temporal/ValueRange"), (18, .class_ 31), (1, u "java/lang/Object"), (1, .fieldref 9 34), (0, .nameAndType 35 36), (0, u "minSmallest"), (0, u "J"), (2, u "minLargest"), (2, u "maxSmallest"), (0, .fieldref 9 44), (0, .nameAndType 45 36), (0, u "maxLargest"), (0, .methodref 9 47), (0, .nameAndType 48 49), (0, u "getMinimum"), (0, u "()J"), (4, .methodref 9 55), (0, .nameAndType 56 49), (0, u "getMaximum"), (6, .methodref 9 64), (0, .nameAndType 65 66), (0, u "isValidValue"), (0, u "(J)Z"), (54, .class_ 122), (0, u "java/io/Serializable"), (0, u "serialVersionUID"), (17, u "checkValidValue"), (0, u "(JLjava/time/temporal/TemporalField;)J")] 24

def k15c0 : Code := { maxStack := 2, maxLocals := 1, code := jdk_2423_method_6_code, exceptionTable := #[], attributes := #[] }
def k15m0 : Method := { name := "getMinimum", desc := "()J", sig := { parameters := [], returnType := some .long }, accessFlags := 1, code := some k15c0 }
def k15c1 : Code := { maxStack := 2, maxLocals := 1, code := jdk_2423_method_9_code, exceptionTable := #[], attributes := #[] }
def k15m1 : Method := { name := "getMaximum", desc := "()J", sig := { parameters := [], returnType := some .long }, accessFlags := 1, code := some k15c1 }
def k15c2 : Code := { maxStack := 4, maxLocals := 3, code := jdk_2423_method_11_code, exceptionTable := #[], attributes := #[] }
def k15m2 : Method := { name := "isValidValue", desc := "(J)Z", sig := { parameters := [.long], returnType := some .boolean }, accessFlags := 1, code := some k15c2 }
def k15c3 : Code := { maxStack := 6, maxLocals := 4, code := jdk_2423_method_13_code, exceptionTable := #[], attributes := #[] }
def k15m3 : Method := { name := "checkValidValue", desc := "(JLjava/time/temporal/TemporalField;)J", sig := { parameters := [.long, (.object "java/time/temporal/TemporalField")], returnType := some .long }, accessFlags := 1, code := some k15c3 }
/-- java/time/temporal/ValueRange -/
def k15 : Class := { plain "java/time/temporal/ValueRange" (some 0) with
  accessFlags := 49
  interfaces := #[9]
  cf := some (fileOf pool15 9 #[] #[{ accessFlags := 1, nameIndex := 48, descriptorIndex := 49, attributes := #[] }, { accessFlags := 1, nameIndex := 56, descriptorIndex := 49, attributes := #[] }, { accessFlags := 1, nameIndex := 65, descriptorIndex := 66, attributes := #[] }, { accessFlags := 1, nameIndex := 141, descriptorIndex := 142, attributes := #[] }] 49 29 #[121] #[{ accessFlags := 26, nameIndex := 123, descriptorIndex := 36, attributes := #[] }, { accessFlags := 18, nameIndex := 35, descriptorIndex := 36, attributes := #[] }, { accessFlags := 18, nameIndex := 39, descriptorIndex := 36, attributes := #[] }, { accessFlags := 18, nameIndex := 42, descriptorIndex := 36, attributes := #[] }, { accessFlags := 18, nameIndex := 45, descriptorIndex := 36, attributes := #[] }])
  fields := #[{ name := "serialVersionUID", type := .long, accessFlags := 26, slot := 0, constantValue := 0 }, { name := "minSmallest", type := .long, accessFlags := 18, slot := 0, constantValue := 0 }, { name := "minLargest", type := .long, accessFlags := 18, slot := 1, constantValue := 0 }, { name := "maxSmallest", type := .long, accessFlags := 18, slot := 2, constantValue := 0 }, { name := "maxLargest", type := .long, accessFlags := 18, slot := 3, constantValue := 0 }]
  methods := #[k15m0, k15m1, k15m2, k15m3]
  instanceTypes := #[.long, .long, .long, .long]
  staticTypes := #[.long]
  resolved := Array.replicate 167 none
  statics := none }

def pool16 : Array CpInfo := pool [(4, .class_ 6), (1, u "java/time/temporal/TemporalUnit"), (23, .class_ 31), (0, u "java/lang/Object")] 27

/-- java/time/temporal/TemporalUnit -/
def k16 : Class := { plain "java/time/temporal/TemporalUnit" (some 0) with
  accessFlags := 1537
  interfaces := #[]
  cf := some (fileOf pool16 4 #[] #[] 1537 30 #[] #[])
  fields := #[]
  methods := #[]
  instanceTypes := #[]
  staticTypes := #[]
  resolved := Array.replicate 59 none
  statics := none }

def pool17 : Array CpInfo := pool [(1, .class_ 2), (0, u "java/time/temporal/ChronoUnit"), (2, u "NANOS"), (0, u "Ljava/time/temporal/ChronoUnit;"), (2, u "MICROS"), (2, u "MILLIS"), (2, u "SECONDS"), (2, u "MINUTES"), (2, u "HOURS"), (2, u "HALF_DAYS"), (2, u "DAYS"), (2, u "WEEKS"), (2, u "MONTHS"), (2, u "YEARS"), (2, u "DECADES"), (2, u "CENTURIES"), (2, u "MILLENNIA"), (2, u "ERAS"), (2, u "FOREVER"), (2, u "$VALUES"), (0, u "[Ljava/time/temporal/ChronoUnit;"), (6, .class_ 64), (1, u "java/lang/Enum"), (8, u "name"), (0, u "Ljava/lang/String;"), (2, u "duration"), (0, u "Ljava/time/Duration;"), (117, .class_ 197), (0, u "java/time/temporal/TemporalUnit")] 39

/-- java/time/temporal/ChronoUnit -/
def k17 : Class := { plain "java/time/temporal/ChronoUnit" (some 12) with
  accessFlags := 16433
  interfaces := #[16]
  cf := some (fileOf pool17 1 #[] #[] 16433 62 #[196] #[{ accessFlags := 16409, nameIndex := 5, descriptorIndex := 6, attributes := #[] }, { accessFlags := 16409, nameIndex := 9, descriptorIndex := 6, attributes := #[] }, { accessFlags := 16409, nameIndex := 12, descriptorIndex := 6, attributes := #[] }, { accessFlags := 16409, nameIndex := 15, descriptorIndex := 6, attributes := #[] }, { accessFlags := 16409, nameIndex := 18, descriptorIndex := 6, attributes := #[] }, { accessFlags := 16409, nameIndex := 21, descriptorIndex := 6, attributes := #[] }, { accessFlags := 16409, nameIndex := 24, descriptorIndex := 6, attributes := #[] }, { accessFlags := 16409, nameIndex := 27, descriptorIndex := 6, attributes := #[] }, { accessFlags := 16409, nameIndex := 30, descriptorIndex := 6, attributes := #[] }, { accessFlags := 16409, nameIndex := 33, descriptorIndex := 6, attributes := #[] }, { accessFlags := 16409, nameIndex := 36, descriptorIndex := 6, attributes := #[] }, { accessFlags := 16409, nameIndex := 39, descriptorIndex := 6, attributes := #[] }, { accessFlags := 16409, nameIndex := 42, descriptorIndex := 6, attributes := #[] }, { accessFlags := 16409, nameIndex := 45, descriptorIndex := 6, attributes := #[] }, { accessFlags := 16409, nameIndex := 48, descriptorIndex := 6, attributes := #[] }, { accessFlags := 16409, nameIndex := 51, descriptorIndex := 6, attributes := #[] }, { accessFlags := 18, nameIndex := 73, descriptorIndex := 74, attributes := #[] }, { accessFlags := 18, nameIndex := 77, descriptorIndex := 78, attributes := #[] }, { accessFlags := 4122, nameIndex := 54, descriptorIndex := 55, attributes := #[] }])
  fields := #[{ name := "NANOS", type := (.object "java/time/temporal/ChronoUnit"), accessFlags := 16409, slot := 0, constantValue := 0 }, { name := "MICROS", type := (.object "java/time/temporal/ChronoUnit"), accessFlags := 16409, slot := 1, constantValue := 0 }, { name := "MILLIS", type := (.object "java/time/temporal/ChronoUnit"), accessFlags := 16409, slot := 2, constantValue := 0 }, { name := "SECONDS", type := (.object "java/time/temporal/ChronoUnit"), accessFlags := 16409, slot := 3, constantValue := 0 }, { name := "MINUTES", type := (.object "java/time/temporal/ChronoUnit"), accessFlags := 16409, slot := 4, constantValue := 0 }, { name := "HOURS", type := (.object "java/time/temporal/ChronoUnit"), accessFlags := 16409, slot := 5, constantValue := 0 }, { name := "HALF_DAYS", type := (.object "java/time/temporal/ChronoUnit"), accessFlags := 16409, slot := 6, constantValue := 0 }, { name := "DAYS", type := (.object "java/time/temporal/ChronoUnit"), accessFlags := 16409, slot := 7, constantValue := 0 }, { name := "WEEKS", type := (.object "java/time/temporal/ChronoUnit"), accessFlags := 16409, slot := 8, constantValue := 0 }, { name := "MONTHS", type := (.object "java/time/temporal/ChronoUnit"), accessFlags := 16409, slot := 9, constantValue := 0 }, { name := "YEARS", type := (.object "java/time/temporal/ChronoUnit"), accessFlags := 16409, slot := 10, constantValue := 0 }, { name := "DECADES", type := (.object "java/time/temporal/ChronoUnit"), accessFlags := 16409, slot := 11, constantValue := 0 }, { name := "CENTURIES", type := (.object "java/time/temporal/ChronoUnit"), accessFlags := 16409, slot := 12, constantValue := 0 }, { name := "MILLENNIA", type := (.object "java/time/temporal/ChronoUnit"), accessFlags := 16409, slot := 13, constantValue := 0 }, { name := "ERAS", type := (.object "java/time/temporal/ChronoUnit"), accessFlags := 16409, slot := 14, constantValue := 0 }, { name := "FOREVER", type := (.object "java/time/temporal/ChronoUnit"), accessFlags := 16409, slot := 15, constantValue := 0 }, { name := "name", type := (.object "java/lang/String"), accessFlags := 18, slot := 3, constantValue := 0 }, { name := "duration", type := (.object "java/time/Duration"), accessFlags := 18, slot := 4, constantValue := 0 }, { name := "$VALUES", type := (.array (.object "java/time/temporal/ChronoUnit")), accessFlags := 4122, slot := 16, constantValue := 0 }]
  methods := #[]
  instanceTypes := #[(.object "java/lang/String"), .int, .int, (.object "java/lang/String"), (.object "java/time/Duration")]
  staticTypes := #[(.object "java/time/temporal/ChronoUnit"), (.object "java/time/temporal/ChronoUnit"), (.object "java/time/temporal/ChronoUnit"), (.object "java/time/temporal/ChronoUnit"), (.object "java/time/temporal/ChronoUnit"), (.object "java/time/temporal/ChronoUnit"), (.object "java/time/temporal/ChronoUnit"), (.object "java/time/temporal/ChronoUnit"), (.object "java/time/temporal/ChronoUnit"), (.object "java/time/temporal/ChronoUnit"), (.object "java/time/temporal/ChronoUnit"), (.object "java/time/temporal/ChronoUnit"), (.object "java/time/temporal/ChronoUnit"), (.object "java/time/temporal/ChronoUnit"), (.object "java/time/temporal/ChronoUnit"), (.object "java/time/temporal/ChronoUnit"), (.array (.object "java/time/temporal/ChronoUnit"))]
  resolved := Array.replicate 237 none
  statics := some 1 }

def pool18 : Array CpInfo := pool [(1, u "java/lang/Cloneable"), (0, .class_ 1), (0, u "java/lang/Object"), (0, .class_ 3)] 3

/-- java/lang/Cloneable -/
def k18 : Class := { plain "java/lang/Cloneable" (some 0) with
  accessFlags := 1537
  interfaces := #[]
  cf := some (fileOf pool18 2 #[] #[] 1537 4 #[] #[])
  fields := #[]
  methods := #[]
  instanceTypes := #[]
  staticTypes := #[]
  resolved := Array.replicate 8 none
  statics := none }

/-- the primitive byte -/
def k19 : Class := { plain "byte" none with kind := .primitive 'B', accessFlags := 0x411 }
/-- [B -/
def k20 : Class := { plain "[B" (some 0) with kind := .array 19 .byte, interfaces := #[18, 9], accessFlags := 1041 }

/-- the primitive int -/
def k21 : Class := { plain "int" none with kind := .primitive 'I', accessFlags := 0x411 }
/-- [I -/
def k22 : Class := { plain "[I" (some 0) with kind := .array 21 .int, interfaces := #[18, 9], accessFlags := 1041 }

/-- java/lang/String, java/time/Duration: their names alone are asked -/
def k23 : Class := plain "java/lang/String" (some 0)
def k24 : Class := plain "java/time/Duration" (some 0)
def heap : Heap := #[{ cls := 14, slots := #[.null, .null, .null, .null, .null, .null, .null, .null, .null, .null, .null, .null, .null, .null, .null, .null, .null, .null, .ref 4, .null, .null, .null, .null, .ref 3, .null, .null, .ref 2, .null, .null, .null, .null], vm := .statics 14 },
  { cls := 17, slots := #[.null, .null, .null, .null, .null, .null, .null, .ref 7, .null, .ref 8, .ref 9, .null, .null, .null, .null, .ref 10, .null], vm := .statics 17 },
  { cls := 14, slots := #[.ref 5, .int 26, .int 0, .ref 5, .ref 9, .ref 10, .ref 11, .ref 5], vm := .none },
  { cls := 14, slots := #[.ref 5, .int 23, .int 0, .ref 5, .ref 8, .ref 9, .ref 12, .ref 5], vm := .none },
  { cls := 14, slots := #[.ref 5, .int 18, .int 0, .ref 5, .ref 7, .ref 8, .ref 13, .ref 5], vm := .none },
  { cls := 23, slots := #[], vm := .none },
  { cls := 24, slots := #[], vm := .none },
  { cls := 17, slots := #[.ref 5, .int 7, .int 0, .ref 5, .ref 6], vm := .none },
  { cls := 17, slots := #[.ref 5, .int 9, .int 0, .ref 5, .ref 6], vm := .none },
  { cls := 17, slots := #[.ref 5, .int 10, .int 0, .ref 5, .ref 6], vm := .none },
  { cls := 17, slots := #[.ref 5, .int 15, .int 0, .ref 5, .ref 6], vm := .none },
  { cls := 15, slots := #[.long (-999999999), .long (-999999999), .long (999999999), .long (999999999)], vm := .none },
  { cls := 15, slots := #[.long (1), .long (1), .long (12), .long (12)], vm := .none },
  { cls := 15, slots := #[.long (1), .long (1), .long (28), .long (31)], vm := .none }]
def classes : Array Class := #[k0, k1, k2, k3, k4, k5, k6, k7, k8, k9, k10, k11, k12, k13, k14, k15, k16, k17, k18, k19, k20, k21, k22, k23, k24]
def interned : List (Array UInt16 × Addr) := []
def slotsUsed : Nat := 104
def theMethod : MethodId := ⟨1, 2⟩
def args0 : Array Value := #[.int 5, .int 5]
def aboutOver (below : List Frame) : State where
  vm := { classes := classes, interned := interned.toArray }
  heap := heap
  slotsUsed := slotsUsed
  threads := #[{ frames := .invoking theMethod args0 :: below }]
def below0 : List Frame := [.native { method := ⟨0, 0⟩, args := #[] }]
def about1 : State := aboutOver below0
def p0 : Program := .bare "" "" ""
def e0 : Env := launch0.env 0 0 0
theorem w_frames : about1.frames = Frame.invoking theMethod args0 :: below0 := rfl
set_option maxRecDepth 65536 in
theorem w_args : argsFit about1.vm theMethod args0 = true := by decide +kernel
set_option maxRecDepth 65536 in
theorem w_heap : heapFits about1 = true := by decide +kernel
set_option maxRecDepth 65536 in
theorem w_runnable : about1.curStatus? = some .runnable := by decide +kernel
set_option maxRecDepth 65536 in
theorem w_alone : about1.alone = true := by decide +kernel
set_option maxRecDepth 65536 in
theorem w_named : about1.methodNamed? x = some theMethod := by decide +kernel
set_option maxRecDepth 65536 in
theorem w_hears : about1.hears theMethod below0 = true := by decide +kernel
set_option maxRecDepth 65536 in
theorem w_ripe : about1.ripe theMethod args0 below0 = true := by decide +kernel
theorem w_running : about1.status = .running := rfl
set_option maxRecDepth 65536 in
theorem w_room : about1.hasRoom e0.platform room_1 = true :=
  launch0.hasRoom_least _ room_1 (by decide +kernel) (by decide +kernel) (by decide +kernel) (by decide +kernel) (by decide +kernel) (by decide +kernel)
theorem allAtoms_all (ts : List Jvm.Cond) (a : Array Jvm.Value) (st : Jvm.State) : (allAtoms ts).before a st = ts.all (fun c => c.before a st) := by
  induction ts with
  | nil => rfl
  | cons c t ih =>
    show (Jvm.Cond.and c (allAtoms t)).before a st = _
    rw [Jvm.Cond.before_and, ih, List.all_cons]
def words1 : List Jvm.Cond := Jvm.Cond.code x code maxLocals ret :: tables_1
/-- a 'code' word, met by the world's own term for the bytes: nothing is compared byte by byte -/
theorem code_word {y : MethodName} {bytes : ByteArray} {mx : Nat} {rt : Option FieldType} {a : Array Value} {s : State} {m : MethodId} {meth : Method} {c : Code} (h1 : s.methodNamed? y = some m) (h2 : s.vm.method? m = some meth) (h3 : meth.code = some c) (h4 : c.code = bytes)
    (h5 : (c.maxLocals == mx && c.exceptionTable.isEmpty && decide (c.maxStack ≤ mostOperands) && decide (meth.sig.returnType = rt) && !meth.locks && decide (parseMethodDescriptor y.desc = some meth.sig)) = true) : (Jvm.Cond.code y bytes mx rt).before a s = true := by
  simp only [Bool.and_eq_true, beq_iff_eq, Bool.not_eq_true', decide_eq_true_eq] at h5
  obtain ⟨⟨⟨⟨⟨g1, g2⟩, g3⟩, g4⟩, g5⟩, g6⟩ := h5
  simp [Cond.before, Cond.holds, Cond.value, h1, h2, h3, h4, g1, g2, g3, g4, g5, g6]
def isCode : Jvm.Cond → Bool
  | .code _ _ _ _ => true
  | _ => false
theorem all_split {L : List Jvm.Cond} {P : Jvm.Cond → Bool} (h1 : L.all (fun c => isCode c || P c) = true) (h2 : ∀ c ∈ L.filter isCode, P c = true) : L.all P = true := by
  refine List.all_eq_true.mpr fun c hc => ?_
  have h := List.all_eq_true.mp h1 c hc
  rcases Bool.eq_false_or_eq_true (isCode c) with hi | hi
  · exact h2 c (List.mem_filter.mpr ⟨hc, hi⟩)
  · simpa [hi] using h
set_option maxRecDepth 65536 in
theorem w_c0 : (Jvm.Cond.code x code maxLocals ret).before args0 about1 = true := code_word (m := ⟨1, 2⟩) (meth := k1m2) (c := k1c2) (by decide +kernel) rfl rfl rfl (by decide +kernel)
set_option maxRecDepth 65536 in
theorem w_c1 : (Jvm.Cond.code ({ cls := "com/example/noteform/noteform/util/Quarter", name := "<init>", desc := "(II)V" } : Jvm.MethodName) prog_97_method_1_code (3 : Nat) (Option.none : Option Jvm.ClassFile.FieldType)).before args0 about1 = true := code_word (m := ⟨3, 0⟩) (meth := k3m0) (c := k3c0) (by decide +kernel) rfl rfl rfl (by decide +kernel)
set_option maxRecDepth 65536 in
theorem w_c2 : (Jvm.Cond.code ({ cls := "java/lang/Record", name := "<init>", desc := "()V" } : Jvm.MethodName) jdk_30_method_1_code (1 : Nat) (Option.none : Option Jvm.ClassFile.FieldType)).before args0 about1 = true := code_word (m := ⟨2, 0⟩) (meth := k2m0) (c := k2c0) (by decide +kernel) rfl rfl rfl (by decide +kernel)
set_option maxRecDepth 65536 in
theorem w_c3 : (Jvm.Cond.code ({ cls := "java/lang/Object", name := "<init>", desc := "()V" } : Jvm.MethodName) object_method_1_code (1 : Nat) (Option.none : Option Jvm.ClassFile.FieldType)).before args0 about1 = true := code_word (m := ⟨0, 0⟩) (meth := k0m0) (c := k0c0) (by decide +kernel) rfl rfl rfl (by decide +kernel)
set_option maxRecDepth 65536 in
theorem w_c4 : (Jvm.Cond.code ({ cls := "com/example/noteform/noteform/util/Quarter", name := "firstDay", desc := "()Ljava/time/LocalDate;" } : Jvm.MethodName) prog_97_method_3_code (1 : Nat) (Option.some (Jvm.ClassFile.FieldType.object "java/time/LocalDate"))).before args0 about1 = true := code_word (m := ⟨3, 1⟩) (meth := k3m1) (c := k3c1) (by decide +kernel) rfl rfl rfl (by decide +kernel)
set_option maxRecDepth 65536 in
theorem w_c5 : (Jvm.Cond.code ({ cls := "java/time/LocalDate", name := "of", desc := "(III)Ljava/time/LocalDate;" } : Jvm.MethodName) jdk_2323_method_5_code (3 : Nat) (Option.some (Jvm.ClassFile.FieldType.object "java/time/LocalDate"))).before args0 about1 = true := code_word (m := ⟨10, 0⟩) (meth := k10m0) (c := k10c0) (by decide +kernel) rfl rfl rfl (by decide +kernel)
set_option maxRecDepth 65536 in
theorem w_c6 : (Jvm.Cond.code ({ cls := "java/time/temporal/ChronoField", name := "checkValidValue", desc := "(J)J" } : Jvm.MethodName) jdk_2395_method_11_code (3 : Nat) (Option.some Jvm.ClassFile.FieldType.long)).before args0 about1 = true := code_word (m := ⟨14, 1⟩) (meth := k14m1) (c := k14c1) (by decide +kernel) rfl rfl rfl (by decide +kernel)
set_option maxRecDepth 65536 in
theorem w_c7 : (Jvm.Cond.code ({ cls := "java/time/temporal/ChronoField", name := "range", desc := "()Ljava/time/temporal/ValueRange;" } : Jvm.MethodName) jdk_2395_method_8_code (1 : Nat) (Option.some (Jvm.ClassFile.FieldType.object "java/time/temporal/ValueRange"))).before args0 about1 = true := code_word (m := ⟨14, 0⟩) (meth := k14m0) (c := k14c0) (by decide +kernel) rfl rfl rfl (by decide +kernel)
set_option maxRecDepth 65536 in
theorem w_c8 : (Jvm.Cond.code ({ cls := "java/time/temporal/ValueRange", name := "checkValidValue", desc := "(JLjava/time/temporal/TemporalField;)J" } : Jvm.MethodName) jdk_2423_method_13_code (4 : Nat) (Option.some Jvm.ClassFile.FieldType.long)).before args0 about1 = true := code_word (m := ⟨15, 3⟩) (meth := k15m3) (c := k15c3) (by decide +kernel) rfl rfl rfl (by decide +kernel)
set_option maxRecDepth 65536 in
theorem w_c9 : (Jvm.Cond.code ({ cls := "java/time/temporal/ValueRange", name := "isValidValue", desc := "(J)Z" } : Jvm.MethodName) jdk_2423_method_11_code (3 : Nat) (Option.some Jvm.ClassFile.FieldType.boolean)).before args0 about1 = true := code_word (m := ⟨15, 2⟩) (meth := k15m2) (c := k15c2) (by decide +kernel) rfl rfl rfl (by decide +kernel)
set_option maxRecDepth 65536 in
theorem w_c10 : (Jvm.Cond.code ({ cls := "java/time/temporal/ValueRange", name := "getMinimum", desc := "()J" } : Jvm.MethodName) jdk_2423_method_6_code (1 : Nat) (Option.some Jvm.ClassFile.FieldType.long)).before args0 about1 = true := code_word (m := ⟨15, 0⟩) (meth := k15m0) (c := k15c0) (by decide +kernel) rfl rfl rfl (by decide +kernel)
set_option maxRecDepth 65536 in
theorem w_c11 : (Jvm.Cond.code ({ cls := "java/time/temporal/ValueRange", name := "getMaximum", desc := "()J" } : Jvm.MethodName) jdk_2423_method_9_code (1 : Nat) (Option.some Jvm.ClassFile.FieldType.long)).before args0 about1 = true := code_word (m := ⟨15, 1⟩) (meth := k15m1) (c := k15c1) (by decide +kernel) rfl rfl rfl (by decide +kernel)
set_option maxRecDepth 65536 in
theorem w_c12 : (Jvm.Cond.code ({ cls := "java/time/LocalDate", name := "create", desc := "(III)Ljava/time/LocalDate;" } : Jvm.MethodName) jdk_2323_method_12_code (4 : Nat) (Option.some (Jvm.ClassFile.FieldType.object "java/time/LocalDate"))).before args0 about1 = true := code_word (m := ⟨10, 1⟩) (meth := k10m1) (c := k10c1) (by decide +kernel) rfl rfl rfl (by decide +kernel)
set_option maxRecDepth 65536 in
theorem w_c13 : (Jvm.Cond.code ({ cls := "java/time/LocalDate", name := "<init>", desc := "(III)V" } : Jvm.MethodName) jdk_2323_method_14_code (4 : Nat) (Option.none : Option Jvm.ClassFile.FieldType)).before args0 about1 = true := code_word (m := ⟨10, 2⟩) (meth := k10m2) (c := k10c2) (by decide +kernel) rfl rfl rfl (by decide +kernel)
set_option maxRecDepth 65536 in
theorem w_c14 : (Jvm.Cond.code ({ cls := "java/time/LocalDate", name := "getYear", desc := "()I" } : Jvm.MethodName) jdk_2323_method_24_code (1 : Nat) (Option.some Jvm.ClassFile.FieldType.int)).before args0 about1 = true := code_word (m := ⟨10, 3⟩) (meth := k10m3) (c := k10c3) (by decide +kernel) rfl rfl rfl (by decide +kernel)
set_option maxRecDepth 65536 in
theorem w_c15 : (Jvm.Cond.code ({ cls := "java/time/LocalDate", name := "getMonthValue", desc := "()I" } : Jvm.MethodName) jdk_2323_method_25_code (1 : Nat) (Option.some Jvm.ClassFile.FieldType.int)).before args0 about1 = true := code_word (m := ⟨10, 4⟩) (meth := k10m4) (c := k10c4) (by decide +kernel) rfl rfl rfl (by decide +kernel)
set_option maxRecDepth 65536 in
theorem w_c16 : (Jvm.Cond.code ({ cls := "com/example/noteform/noteform/util/QuarterFirstDayPinLaw", name := "firstMonth", desc := "(I)I" } : Jvm.MethodName) method_2_code (1 : Nat) (Option.some Jvm.ClassFile.FieldType.int)).before args0 about1 = true := code_word (m := ⟨1, 1⟩) (meth := k1m1) (c := k1c1) (by decide +kernel) rfl rfl rfl (by decide +kernel)
set_option maxRecDepth 65536 in
theorem w_c17 : (Jvm.Cond.code ({ cls := "java/time/LocalDate", name := "getDayOfMonth", desc := "()I" } : Jvm.MethodName) jdk_2323_method_27_code (1 : Nat) (Option.some Jvm.ClassFile.FieldType.int)).before args0 about1 = true := code_word (m := ⟨10, 5⟩) (meth := k10m5) (c := k10c5) (by decide +kernel) rfl rfl rfl (by decide +kernel)
def codes1 : List Jvm.Cond := [Jvm.Cond.code x code maxLocals ret, Jvm.Cond.code ({ cls := "com/example/noteform/noteform/util/Quarter", name := "<init>", desc := "(II)V" } : Jvm.MethodName) prog_97_method_1_code (3 : Nat) (Option.none : Option Jvm.ClassFile.FieldType), Jvm.Cond.code ({ cls := "java/lang/Record", name := "<init>", desc := "()V" } : Jvm.MethodName) jdk_30_method_1_code (1 : Nat) (Option.none : Option Jvm.ClassFile.FieldType), Jvm.Cond.code ({ cls := "java/lang/Object", name := "<init>", desc := "()V" } : Jvm.MethodName) object_method_1_code (1 : Nat) (Option.none : Option Jvm.ClassFile.FieldType), Jvm.Cond.code ({ cls := "com/example/noteform/noteform/util/Quarter", name := "firstDay", desc := "()Ljava/time/LocalDate;" } : Jvm.MethodName) prog_97_method_3_code (1 : Nat) (Option.some (Jvm.ClassFile.FieldType.object "java/time/LocalDate")), Jvm.Cond.code ({ cls := "java/time/LocalDate", name := "of", desc := "(III)Ljava/time/LocalDate;" } : Jvm.MethodName) jdk_2323_method_5_code (3 : Nat) (Option.some (Jvm.ClassFile.FieldType.object "java/time/LocalDate")), Jvm.Cond.code ({ cls := "java/time/temporal/ChronoField", name := "checkValidValue", desc := "(J)J" } : Jvm.MethodName) jdk_2395_method_11_code (3 : Nat) (Option.some Jvm.ClassFile.FieldType.long), Jvm.Cond.code ({ cls := "java/time/temporal/ChronoField", name := "range", desc := "()Ljava/time/temporal/ValueRange;" } : Jvm.MethodName) jdk_2395_method_8_code (1 : Nat) (Option.some (Jvm.ClassFile.FieldType.object "java/time/temporal/ValueRange")), Jvm.Cond.code ({ cls := "java/time/temporal/ValueRange", name := "checkValidValue", desc := "(JLjava/time/temporal/TemporalField;)J" } : Jvm.MethodName) jdk_2423_method_13_code (4 : Nat) (Option.some Jvm.ClassFile.FieldType.long), Jvm.Cond.code ({ cls := "java/time/temporal/ValueRange", name := "isValidValue", desc := "(J)Z" } : Jvm.MethodName) jdk_2423_method_11_code (3 : Nat) (Option.some Jvm.ClassFile.FieldType.boolean), Jvm.Cond.code ({ cls := "java/time/temporal/ValueRange", name := "getMinimum", desc := "()J" } : Jvm.MethodName) jdk_2423_method_6_code (1 : Nat) (Option.some Jvm.ClassFile.FieldType.long), Jvm.Cond.code ({ cls := "java/time/temporal/ValueRange", name := "getMaximum", desc := "()J" } : Jvm.MethodName) jdk_2423_method_9_code (1 : Nat) (Option.some Jvm.ClassFile.FieldType.long), Jvm.Cond.code ({ cls := "java/time/LocalDate", name := "create", desc := "(III)Ljava/time/LocalDate;" } : Jvm.MethodName) jdk_2323_method_12_code (4 : Nat) (Option.some (Jvm.ClassFile.FieldType.object "java/time/LocalDate")), Jvm.Cond.code ({ cls := "java/time/LocalDate", name := "<init>", desc := "(III)V" } : Jvm.MethodName) jdk_2323_method_14_code (4 : Nat) (Option.none : Option Jvm.ClassFile.FieldType), Jvm.Cond.code ({ cls := "java/time/LocalDate", name := "getYear", desc := "()I" } : Jvm.MethodName) jdk_2323_method_24_code (1 : Nat) (Option.some Jvm.ClassFile.FieldType.int), Jvm.Cond.code ({ cls := "java/time/LocalDate", name := "getMonthValue", desc := "()I" } : Jvm.MethodName) jdk_2323_method_25_code (1 : Nat) (Option.some Jvm.ClassFile.FieldType.int), Jvm.Cond.code ({ cls := "com/example/noteform/noteform/util/QuarterFirstDayPinLaw", name := "firstMonth", desc := "(I)I" } : Jvm.MethodName) method_2_code (1 : Nat) (Option.some Jvm.ClassFile.FieldType.int), Jvm.Cond.code ({ cls := "java/time/LocalDate", name := "getDayOfMonth", desc := "()I" } : Jvm.MethodName) jdk_2323_method_27_code (1 : Nat) (Option.some Jvm.ClassFile.FieldType.int)]
set_option maxRecDepth 65536 in
theorem codes_eq : words1.filter isCode = codes1 := rfl
theorem w_codes : ∀ c ∈ words1.filter isCode, c.before args0 about1 = true := by
  rw [codes_eq]
  intro c hc
  simp only [codes1, List.mem_cons, List.not_mem_nil, or_false] at hc
  rcases hc with rfl | rfl | rfl | rfl | rfl | rfl | rfl | rfl | rfl | rfl | rfl | rfl | rfl | rfl | rfl | rfl | rfl | rfl
  · exact w_c0
  · exact w_c1
  · exact w_c2
  · exact w_c3
  · exact w_c4
  · exact w_c5
  · exact w_c6
  · exact w_c7
  · exact w_c8
  · exact w_c9
  · exact w_c10
  · exact w_c11
  · exact w_c12
  · exact w_c13
  · exact w_c14
  · exact w_c15
  · exact w_c16
  · exact w_c17
set_option maxRecDepth 65536 in
theorem w_t1 : (words1.take 24).all (fun c => isCode c || c.before args0 about1) = true := by decide +kernel
set_option maxRecDepth 65536 in
theorem w_t2 : ((words1.drop 24).take 24).all (fun c => isCode c || c.before args0 about1) = true := by decide +kernel
set_option maxRecDepth 65536 in
theorem w_t3 : (((words1.drop 24).drop 24).take 24).all (fun c => isCode c || c.before args0 about1) = true := by decide +kernel
set_option maxRecDepth 65536 in
theorem w_t4 : ((((words1.drop 24).drop 24).drop 24).take 24).all (fun c => isCode c || c.before args0 about1) = true := by decide +kernel
set_option maxRecDepth 65536 in
theorem w_t5 : ((((words1.drop 24).drop 24).drop 24).drop 24).all (fun c => isCode c || c.before args0 about1) = true := by decide +kernel
theorem w_tables : (allAtoms (Jvm.Cond.code x code maxLocals ret :: tables_1)).before args0 about1 = true := by
  rw [allAtoms_all]
  show words1.all (fun c => c.before args0 about1) = true
  refine all_split ?_ w_codes
  rw [← List.take_append_drop 24 words1, List.all_append, w_t1, ← List.take_append_drop 24 (words1.drop 24), List.all_append, w_t2, ← List.take_append_drop 24 ((words1.drop 24).drop 24), List.all_append, w_t3, ← List.take_append_drop 24 (((words1.drop 24).drop 24).drop 24), List.all_append, w_t4, w_t5]
  rfl
set_option maxRecDepth 65536 in
theorem w_rest : rest_1_c.before args0 about1 = true := by decide +kernel
set_option maxRecDepth 65536 in
theorem w_case : (Jvm.Cond.and given_1 narrow_1).before args0 about1 = true := by decide +kernel
theorem w_applies : (headSpec (Jvm.Cond.code x code maxLocals ret :: tables_1) room_1).applies x e0.platform about1 = true :=
  (Spec.applies_iff w_frames).mpr ⟨w_running, w_runnable, w_alone, w_named, w_hears, w_ripe, w_room, w_tables⟩
theorem atStart : AtStart classFile x code maxLocals ret World_1 tables_1 room_1 Calls_1 rest_1 Pre_1 launch0 p0 e0 about1 theMethod args0 below0 :=
  ⟨lists_1, trivial, launch0.admits_env _ _ _, launch0.least_env, fairChoices_fair.cas, fairChoices_fair.clock, w_frames, w_args, w_heap, w_applies, trivial, w_rest, w_case⟩
end start1
theorem witness_1 : WitnessClaimed_1 := ⟨start1.p0, start1.e0, start1.about1, start1.theMethod, start1.args0, start1.below0, start1.atStart⟩
end Jvm.Pilot.@@N@@
