import JvmDerived
import JvmDerived.Pilot.@@N@@Statement
import JvmDerived.Pilot.@@N@@Code
set_option linter.unusedVariables false
set_option linter.unusedSimpArgs false
namespace Jvm.Pilot.@@N@@
namespace W
open Jvm Jvm.ClassFile Sem Op Lib Jvm.Free Jvm.Stand Jvm.LawKit Jvm.RoadKit Bundle

/-- how a method's end is booked: wide (it may have interned) or plain -/
def EndAt (w : Bool) (s : State) (o : Outcome) (t : State) (L : List Loc) (k n : Nat) : Prop := if w = true then ReturnedEndW s o t L k n else FrameEnd s o t L k n
/-- the address may be written: it is no held literal's cell -/
def Ok (Z : State) (EL : List (String × Nat)) (h : Heap) (sf : List Addr) (x : Addr) : Prop :=
  EL = [] ∨ x ∈ sf ∨ (∃ C, Exa Z h x C ∧ C ≠ "java/lang/String" ∧ C ≠ "[B") ∨ ∃ (cl : Cell) (ty : FieldType), Arr Z h x cl ty ∧ ty ≠ .byte
theorem Ok.safe {Z : State} {EL : List (String × Nat)} {h : Heap} {sf : List Addr} {x : Addr} {vm : Vm} (K : Ok Z EL h sf x) (hal : Z.vm.Alike vm) (S : ∀ y ∈ sf, y < h.size ∧ Safe Z EL vm h y) : Safe Z EL vm h x := by
  rcases K with rfl | q | ⟨C, E, h1, h2⟩ | ⟨cl, ty, A, h1⟩
  · rintro ⟨p, hp, -⟩; cases hp
  · exact (S x q).2
  · exact Safe.exa hal E h1 h2
  · exact Safe.arr hal A h1
/-- the walk stands at T, over the heap h; k cells and n slots are made; sf may be written -/
def St (w : Bool) (Z : State) (a0 : Array Value) (EL : List (String × Nat)) (y : MethodName) (bytes : ByteArray) (maxL : Nat) (ret : Option FieldType) (p : Program) (l : Launch) (e : Env) (R : Room) (s : State) (m : MethodId) (args : Array Value) (below : List Frame) (meth : Method) (c : Code) (T : State) (h : Heap) (sf : List Addr) (k n : Nat) : Prop :=
  (p.tables.exec = Jvm.exec ∧ c.code = bytes ∧ c.maxLocals = maxL ∧ meth.sig.returnType = ret ∧ meth.locks = false ∧ meth.name = y.name ∧ EW Z a0 EL) ∧
  ∃ (vm0 : Vm) (k0 : Nat) (locs : List Loc), Stand p l e R (s.setVm vm0) m args below meth c T locs k n ∧ T.heap = h ∧ s.Since vm0 k0 ∧ k0 ≤ h.size ∧ Z.Warmed39 vm0 ∧ vm0.findClass y.cls = some m.cls ∧ Fr Z.heap.size locs ∧ Ext Z.heap h ∧ (w = false → vm0 = s.vm ∧ EL = []) ∧ CHr Z EL s.vm s.heap vm0 h ∧ ∀ x ∈ sf, x < h.size ∧ Safe Z EL vm0 h x
/-- from here the method comes to its end as Q wants it -/
def Go (w : Bool) (Z : State) (EL : List (String × Nat)) (C N : Nat) (Q : Option Value → Heap → (Addr → Prop) → Prop) (p : Program) (e : Env) (s : State) (below : List Frame) (T : State) (g : JFrame) : Prop :=
  ∃ (s₂ : State) (o : Outcome), Steps p.tables e below (T.setTop g) s₂ ∧ s₂.status = .running ∧ Ended s₂ below o ∧ ∃ v L, o = .returned v ∧ (Fr Z.heap.size L ∧ Ext Z.heap s₂.heap ∧ CHr Z EL s.vm s.heap s₂.vm s₂.heap ∧ Q v s₂.heap (Safe Z EL s₂.vm s₂.heap)) ∧ EndAt w s o s₂ L C N
/-- a method's contract, at arguments and a heap that are known -/
def Ct (w : Bool) (Z : State) (a0 : Array Value) (EL : List (String × Nat)) (l : Launch) (y : MethodName) (bytes : ByteArray) (maxL : Nat) (ret : Option FieldType) (rm : Room) (as : Array Value) (h0 : Heap) (sf0 : List Addr) (Q : Option Value → Heap → (Addr → Prop) → Prop) : Prop :=
  ∀ ws : List Jvm.Cond, EW Z a0 EL → Ext Z.heap h0 → MetFree l y (head1 (Cond.code y bytes maxL ret :: ws) rm) (fun a U => a = as ∧ Z.Warmed39 U.vm ∧ U.heap = h0 ∧ CHv Z EL U.vm h0 ∧ ∀ x ∈ sf0, x < h0.size ∧ Safe Z EL U.vm h0 x) (fun _ _ _ _ _ => True)
    (fun _ U o U' => ∃ v L, o = .returned v ∧ (Fr Z.heap.size L ∧ Ext Z.heap U'.heap ∧ CHr Z EL U.vm U.heap U'.vm U'.heap ∧ Q v U'.heap (Safe Z EL U'.vm U'.heap)) ∧ EndAt w U o U' L rm.cells rm.slots)

section
variable {w : Bool} {Z : State} {a0 : Array Value} {EL : List (String × Nat)} {y : MethodName} {bytes : ByteArray} {maxL : Nat} {ret : Option FieldType} {p : Program} {l : Launch} {e : Env} {R : Room} {s : State} {m : MethodId} {args : Array Value} {below : List Frame} {meth : Method} {c : Code} {T : State} {h : Heap} {sf : List Addr} {k n C N : Nat} {Q : Option Value → Heap → (Addr → Prop) → Prop} {rm : Room} {as : Array Value} {h0 : Heap} {sf0 : List Addr}

theorem Ct.walk (hwe : w = false → EL = []) (hpl : plainFor y = true) (body : ∀ (p : Program) (e : Env) (s : State) (m : MethodId) (below : List Frame) (meth : Method) (c : Code) (T : State), Ext Z.heap h0 → St w Z a0 EL y bytes maxL ret p l e rm s m as below meth c T h0 sf0 0 0 → Go w Z EL rm.cells rm.slots Q p e s below T (entryFrame m as maxL)) :
    Ct w Z a0 EL l y bytes maxL ret rm as h0 sf0 Q := by
  intro ws hEW hext
  refine MetFree.of_bodySF hpl hisR ?_
  intro p e s m args below meth c s₁ Bd hml hP hK
  obtain ⟨rfl, hZ, hh, hcv, hsf⟩ := hP
  have X0 : Stand p l e rm s m args below meth c s₁ [] 0 0 := Stand.of_body Bd
  have e0 : s₁.heap = h0 := by rw [← hh, Bd.state]; rfl
  refine body p e s m below meth c s₁ hext ⟨⟨Bd.exec, Bd.bytes, hml, Bd.returns, Bd.notSynchronized, (name_of_methodNamed Bd.named Bd.method).1, hEW⟩, s.vm, 0, [], X0, e0, ?_, Nat.zero_le _, hZ, findClass_of_methodNamed Bd.named, Fr.nil _, hext, fun q => ⟨rfl, hwe q⟩, ?_, hsf⟩
  · exact (State.WarmedH.refl s).since 0
  · rw [hh]; exact CHr.refl hcv

/-- a step that leaves the state as it is but for the top frame -/
theorem ps (X : St w Z a0 EL y bytes maxL ret p l e R s m args below meth c T h sf k n) {g g' : JFrame} (f : At T m c below → p.tables.exec = Jvm.exec → c.code = bytes → ∀ target, Steps p.tables e below (T.setTop g') target → Steps p.tables e below (T.setTop g) target) (kk : Go w Z EL C N Q p e s below T g') : Go w Z EL C N Q p e s below T g := by
  obtain ⟨⟨hx, hby, -⟩, vm0, k0, locs, X0, -⟩ := X
  obtain ⟨s₂, o, hs, r⟩ := kk
  exact ⟨s₂, o, f X0.here hx hby _ hs, r⟩
theorem castG {g g' : JFrame} (q : g = g') (kk : Go w Z EL C N Q p e s below T g') : Go w Z EL C N Q p e s below T g := q ▸ kk
theorem o_aloadN (X : St w Z a0 EL y bytes maxL ret p l e R s m args below meth c T h sf k n) {pc pc' : Nat} {L : Array Slot} {S : List Value} {i : Fin 4} {v : Value} (hd : decode bytes pc = .ok (.aload_n i, 1)) (hp : pc + 1 = pc') (hl : L[i.val]? = some (.val v)) (hv : v.isRef = true) (kk : Go w Z EL C N Q p e s below T (mkF m pc' L (v :: S))) : Go w Z EL C N Q p e s below T (mkF m pc L S) := by
  subst hp
  exact ps X (fun H hx hby _ q => XS.aloadN H hx rfl (hb hby hd) hl hv q) kk
theorem o_aload (X : St w Z a0 EL y bytes maxL ret p l e R s m args below meth c T h sf k n) {pc pc' : Nat} {L : Array Slot} {S : List Value} {i : Nat} {v : Value} (hd : decode bytes pc = .ok (.aload i, 2)) (hp : pc + 2 = pc') (hl : L[i]? = some (.val v)) (hv : v.isRef = true) (kk : Go w Z EL C N Q p e s below T (mkF m pc' L (v :: S))) : Go w Z EL C N Q p e s below T (mkF m pc L S) := by
  subst hp
  exact ps X (fun H hx hby _ q => XS.aload H hx rfl (hb hby hd) hl hv q) kk
theorem o_iloadN (X : St w Z a0 EL y bytes maxL ret p l e R s m args below meth c T h sf k n) {pc pc' : Nat} {L : Array Slot} {S : List Value} {i : Fin 4} {v : Int32} (hd : decode bytes pc = .ok (.iload_n i, 1)) (hp : pc + 1 = pc') (hl : L[i.val]? = some (.val (.int v))) (kk : Go w Z EL C N Q p e s below T (mkF m pc' L (.int v :: S))) : Go w Z EL C N Q p e s below T (mkF m pc L S) := by
  subst hp
  exact ps X (fun H hx hby _ q => XS.iloadN H hx rfl (hb hby hd) hl q) kk
theorem o_iload (X : St w Z a0 EL y bytes maxL ret p l e R s m args below meth c T h sf k n) {pc pc' : Nat} {L : Array Slot} {S : List Value} {i : Nat} {v : Int32} (hd : decode bytes pc = .ok (.iload i, 2)) (hp : pc + 2 = pc') (hl : L[i]? = some (.val (.int v))) (kk : Go w Z EL C N Q p e s below T (mkF m pc' L (.int v :: S))) : Go w Z EL C N Q p e s below T (mkF m pc L S) := by
  subst hp
  exact ps X (fun H hx hby _ q => XS.iload H hx rfl (hb hby hd) hl q) kk
theorem o_lloadN (X : St w Z a0 EL y bytes maxL ret p l e R s m args below meth c T h sf k n) {pc pc' : Nat} {L : Array Slot} {S : List Value} {i : Fin 4} {v : Int64} (hd : decode bytes pc = .ok (.lload_n i, 1)) (hp : pc + 1 = pc') (hl : L[i.val]? = some (.val (.long v))) (kk : Go w Z EL C N Q p e s below T (mkF m pc' L (.long v :: S))) : Go w Z EL C N Q p e s below T (mkF m pc L S) := by
  subst hp
  exact ps X (fun H hx hby _ q => XS.lloadN H hx rfl (hb hby hd) hl q) kk
theorem o_lload (X : St w Z a0 EL y bytes maxL ret p l e R s m args below meth c T h sf k n) {pc pc' : Nat} {L : Array Slot} {S : List Value} {i : Nat} {v : Int64} (hd : decode bytes pc = .ok (.lload i, 2)) (hp : pc + 2 = pc') (hl : L[i]? = some (.val (.long v))) (kk : Go w Z EL C N Q p e s below T (mkF m pc' L (.long v :: S))) : Go w Z EL C N Q p e s below T (mkF m pc L S) := by
  subst hp
  exact ps X (fun H hx hby _ q => XS.lload H hx rfl (hb hby hd) hl q) kk
theorem o_istoreN (X : St w Z a0 EL y bytes maxL ret p l e R s m args below meth c T h sf k n) {pc pc' : Nat} {L : Array Slot} {S : List Value} {i : Fin 4} {v : Int32} {L' : Array Slot} (hd : decode bytes pc = .ok (.istore_n i, 1)) (hp : pc + 1 = pc') (hl : storeLocals L i.val (.int v) = some L') (kk : Go w Z EL C N Q p e s below T (mkF m pc' L' S)) : Go w Z EL C N Q p e s below T (mkF m pc L (.int v :: S)) := by
  subst hp
  exact ps X (fun H hx hby _ q => XS.istoreN H hx rfl (hb hby hd) rfl hl q) kk
theorem o_istore (X : St w Z a0 EL y bytes maxL ret p l e R s m args below meth c T h sf k n) {pc pc' : Nat} {L : Array Slot} {S : List Value} {i : Nat} {v : Int32} {L' : Array Slot} (hd : decode bytes pc = .ok (.istore i, 2)) (hp : pc + 2 = pc') (hl : storeLocals L i (.int v) = some L') (kk : Go w Z EL C N Q p e s below T (mkF m pc' L' S)) : Go w Z EL C N Q p e s below T (mkF m pc L (.int v :: S)) := by
  subst hp
  exact ps X (fun H hx hby _ q => XS.istore H hx rfl (hb hby hd) rfl hl q) kk
theorem o_lstoreN (X : St w Z a0 EL y bytes maxL ret p l e R s m args below meth c T h sf k n) {pc pc' : Nat} {L : Array Slot} {S : List Value} {i : Fin 4} {v : Int64} {L' : Array Slot} (hd : decode bytes pc = .ok (.lstore_n i, 1)) (hp : pc + 1 = pc') (hl : storeLocals L i.val (.long v) = some L') (kk : Go w Z EL C N Q p e s below T (mkF m pc' L' S)) : Go w Z EL C N Q p e s below T (mkF m pc L (.long v :: S)) := by
  subst hp
  exact ps X (fun H hx hby _ q => XS.lstoreN H hx rfl (hb hby hd) rfl hl q) kk
theorem o_lstore (X : St w Z a0 EL y bytes maxL ret p l e R s m args below meth c T h sf k n) {pc pc' : Nat} {L : Array Slot} {S : List Value} {i : Nat} {v : Int64} {L' : Array Slot} (hd : decode bytes pc = .ok (.lstore i, 2)) (hp : pc + 2 = pc') (hl : storeLocals L i (.long v) = some L') (kk : Go w Z EL C N Q p e s below T (mkF m pc' L' S)) : Go w Z EL C N Q p e s below T (mkF m pc L (.long v :: S)) := by
  subst hp
  exact ps X (fun H hx hby _ q => XS.lstore H hx rfl (hb hby hd) rfl hl q) kk
theorem o_astoreN (X : St w Z a0 EL y bytes maxL ret p l e R s m args below meth c T h sf k n) {pc pc' : Nat} {L : Array Slot} {S : List Value} {i : Fin 4} {v : Value} {L' : Array Slot} (hd : decode bytes pc = .ok (.astore_n i, 1)) (hp : pc + 1 = pc') (hl : storeLocals L i.val v = some L') (hv : v.isRef = true) (kk : Go w Z EL C N Q p e s below T (mkF m pc' L' S)) : Go w Z EL C N Q p e s below T (mkF m pc L (v :: S)) := by
  subst hp
  exact ps X (fun H hx hby _ q => XS.astoreN H hx rfl (hb hby hd) rfl hv hl q) kk
theorem o_astore (X : St w Z a0 EL y bytes maxL ret p l e R s m args below meth c T h sf k n) {pc pc' : Nat} {L : Array Slot} {S : List Value} {i : Nat} {v : Value} {L' : Array Slot} (hd : decode bytes pc = .ok (.astore i, 2)) (hp : pc + 2 = pc') (hl : storeLocals L i v = some L') (hv : v.isRef = true) (kk : Go w Z EL C N Q p e s below T (mkF m pc' L' S)) : Go w Z EL C N Q p e s below T (mkF m pc L (v :: S)) := by
  subst hp
  exact ps X (fun H hx hby _ q => XS.astore H hx rfl (hb hby hd) rfl hv hl q) kk
theorem o_iconst (X : St w Z a0 EL y bytes maxL ret p l e R s m args below meth c T h sf k n) {pc pc' : Nat} {L : Array Slot} {S : List Value} {i : Int} (v : Int32) (hd : decode bytes pc = .ok (.iconst i, 1)) (hp : pc + 1 = pc') (hv : Int32.ofInt i = v) (kk : Go w Z EL C N Q p e s below T (mkF m pc' L (.int v :: S))) : Go w Z EL C N Q p e s below T (mkF m pc L S) := by
  subst hp
  exact ps X (fun H hx hby _ q => XT.iconstV H hx rfl v (hb hby hd) hv q) kk
theorem o_bipush (X : St w Z a0 EL y bytes maxL ret p l e R s m args below meth c T h sf k n) {pc pc' : Nat} {L : Array Slot} {S : List Value} {i : Int} (v : Int32) (hd : decode bytes pc = .ok (.bipush i, 2)) (hp : pc + 2 = pc') (hv : (Int8.ofInt i).toInt32 = v) (kk : Go w Z EL C N Q p e s below T (mkF m pc' L (.int v :: S))) : Go w Z EL C N Q p e s below T (mkF m pc L S) := by
  subst hp
  exact ps X (fun H hx hby _ q => XT.bipushV H hx rfl v (hb hby hd) hv q) kk
theorem o_sipush (X : St w Z a0 EL y bytes maxL ret p l e R s m args below meth c T h sf k n) {pc pc' : Nat} {L : Array Slot} {S : List Value} {i : Int} (v : Int32) (hd : decode bytes pc = .ok (.sipush i, 3)) (hp : pc + 3 = pc') (hv : (Int16.ofInt i).toInt32 = v) (kk : Go w Z EL C N Q p e s below T (mkF m pc' L (.int v :: S))) : Go w Z EL C N Q p e s below T (mkF m pc L S) := by
  subst hp
  exact ps X (fun H hx hby _ q => XT.sipushV H hx rfl v (hb hby hd) hv q) kk
theorem o_lconst (X : St w Z a0 EL y bytes maxL ret p l e R s m args below meth c T h sf k n) {pc pc' : Nat} {L : Array Slot} {S : List Value} {i : Fin 2} (v : Int64) (hd : decode bytes pc = .ok (.lconst i, 1)) (hp : pc + 1 = pc') (hv : Int64.ofNat i = v) (kk : Go w Z EL C N Q p e s below T (mkF m pc' L (.long v :: S))) : Go w Z EL C N Q p e s below T (mkF m pc L S) := by
  subst hp
  exact ps X (fun H hx hby _ q => XT.lconstV H hx rfl v (hb hby hd) hv q) kk
theorem o_aconst_null (X : St w Z a0 EL y bytes maxL ret p l e R s m args below meth c T h sf k n) {pc pc' : Nat} {L : Array Slot} {S : List Value}  (hd : decode bytes pc = .ok (.aconst_null, 1)) (hp : pc + 1 = pc')  (kk : Go w Z EL C N Q p e s below T (mkF m pc' L (.null :: S))) : Go w Z EL C N Q p e s below T (mkF m pc L S) := by
  subst hp
  exact ps X (fun H hx hby _ q => XS.aconstNull H hx rfl (hb hby hd)  q) kk
theorem o_iadd (X : St w Z a0 EL y bytes maxL ret p l e R s m args below meth c T h sf k n) {pc pc' : Nat} {L : Array Slot} {S : List Value} {x z : Int32} (hd : decode bytes pc = .ok (.iadd, 1)) (hp : pc + 1 = pc')  (kk : Go w Z EL C N Q p e s below T (mkF m pc' L (.int (x + z) :: S))) : Go w Z EL C N Q p e s below T (mkF m pc L (.int z :: .int x :: S)) := by
  subst hp
  exact ps X (fun H hx hby _ q => XS.iadd H hx rfl (hb hby hd) rfl q) kk
theorem o_ladd (X : St w Z a0 EL y bytes maxL ret p l e R s m args below meth c T h sf k n) {pc pc' : Nat} {L : Array Slot} {S : List Value} {x z : Int64} (hd : decode bytes pc = .ok (.ladd, 1)) (hp : pc + 1 = pc')  (kk : Go w Z EL C N Q p e s below T (mkF m pc' L (.long (x + z) :: S))) : Go w Z EL C N Q p e s below T (mkF m pc L (.long z :: .long x :: S)) := by
  subst hp
  exact ps X (fun H hx hby _ q => XS.ladd H hx rfl (hb hby hd) rfl q) kk
theorem o_isub (X : St w Z a0 EL y bytes maxL ret p l e R s m args below meth c T h sf k n) {pc pc' : Nat} {L : Array Slot} {S : List Value} {x z : Int32} (hd : decode bytes pc = .ok (.isub, 1)) (hp : pc + 1 = pc')  (kk : Go w Z EL C N Q p e s below T (mkF m pc' L (.int (x - z) :: S))) : Go w Z EL C N Q p e s below T (mkF m pc L (.int z :: .int x :: S)) := by
  subst hp
  exact ps X (fun H hx hby _ q => XS.isub H hx rfl (hb hby hd) rfl q) kk
theorem o_lsub (X : St w Z a0 EL y bytes maxL ret p l e R s m args below meth c T h sf k n) {pc pc' : Nat} {L : Array Slot} {S : List Value} {x z : Int64} (hd : decode bytes pc = .ok (.lsub, 1)) (hp : pc + 1 = pc')  (kk : Go w Z EL C N Q p e s below T (mkF m pc' L (.long (x - z) :: S))) : Go w Z EL C N Q p e s below T (mkF m pc L (.long z :: .long x :: S)) := by
  subst hp
  exact ps X (fun H hx hby _ q => XS.lsub H hx rfl (hb hby hd) rfl q) kk
theorem o_imul (X : St w Z a0 EL y bytes maxL ret p l e R s m args below meth c T h sf k n) {pc pc' : Nat} {L : Array Slot} {S : List Value} {x z : Int32} (hd : decode bytes pc = .ok (.imul, 1)) (hp : pc + 1 = pc')  (kk : Go w Z EL C N Q p e s below T (mkF m pc' L (.int (x * z) :: S))) : Go w Z EL C N Q p e s below T (mkF m pc L (.int z :: .int x :: S)) := by
  subst hp
  exact ps X (fun H hx hby _ q => XS.imul H hx rfl (hb hby hd) rfl q) kk
theorem o_lmul (X : St w Z a0 EL y bytes maxL ret p l e R s m args below meth c T h sf k n) {pc pc' : Nat} {L : Array Slot} {S : List Value} {x z : Int64} (hd : decode bytes pc = .ok (.lmul, 1)) (hp : pc + 1 = pc')  (kk : Go w Z EL C N Q p e s below T (mkF m pc' L (.long (x * z) :: S))) : Go w Z EL C N Q p e s below T (mkF m pc L (.long z :: .long x :: S)) := by
  subst hp
  exact ps X (fun H hx hby _ q => XS.lmul H hx rfl (hb hby hd) rfl q) kk
theorem o_iand (X : St w Z a0 EL y bytes maxL ret p l e R s m args below meth c T h sf k n) {pc pc' : Nat} {L : Array Slot} {S : List Value} {x z : Int32} (hd : decode bytes pc = .ok (.iand, 1)) (hp : pc + 1 = pc')  (kk : Go w Z EL C N Q p e s below T (mkF m pc' L (.int (x &&& z) :: S))) : Go w Z EL C N Q p e s below T (mkF m pc L (.int z :: .int x :: S)) := by
  subst hp
  exact ps X (fun H hx hby _ q => XS.iand H hx rfl (hb hby hd) rfl q) kk
theorem o_land (X : St w Z a0 EL y bytes maxL ret p l e R s m args below meth c T h sf k n) {pc pc' : Nat} {L : Array Slot} {S : List Value} {x z : Int64} (hd : decode bytes pc = .ok (.land, 1)) (hp : pc + 1 = pc')  (kk : Go w Z EL C N Q p e s below T (mkF m pc' L (.long (x &&& z) :: S))) : Go w Z EL C N Q p e s below T (mkF m pc L (.long z :: .long x :: S)) := by
  subst hp
  exact ps X (fun H hx hby _ q => XS.land H hx rfl (hb hby hd) rfl q) kk
theorem o_ior (X : St w Z a0 EL y bytes maxL ret p l e R s m args below meth c T h sf k n) {pc pc' : Nat} {L : Array Slot} {S : List Value} {x z : Int32} (hd : decode bytes pc = .ok (.ior, 1)) (hp : pc + 1 = pc')  (kk : Go w Z EL C N Q p e s below T (mkF m pc' L (.int (x ||| z) :: S))) : Go w Z EL C N Q p e s below T (mkF m pc L (.int z :: .int x :: S)) := by
  subst hp
  exact ps X (fun H hx hby _ q => XS.ior H hx rfl (hb hby hd) rfl q) kk
theorem o_lor (X : St w Z a0 EL y bytes maxL ret p l e R s m args below meth c T h sf k n) {pc pc' : Nat} {L : Array Slot} {S : List Value} {x z : Int64} (hd : decode bytes pc = .ok (.lor, 1)) (hp : pc + 1 = pc')  (kk : Go w Z EL C N Q p e s below T (mkF m pc' L (.long (x ||| z) :: S))) : Go w Z EL C N Q p e s below T (mkF m pc L (.long z :: .long x :: S)) := by
  subst hp
  exact ps X (fun H hx hby _ q => XS.lor H hx rfl (hb hby hd) rfl q) kk
theorem o_ixor (X : St w Z a0 EL y bytes maxL ret p l e R s m args below meth c T h sf k n) {pc pc' : Nat} {L : Array Slot} {S : List Value} {x z : Int32} (hd : decode bytes pc = .ok (.ixor, 1)) (hp : pc + 1 = pc')  (kk : Go w Z EL C N Q p e s below T (mkF m pc' L (.int (x ^^^ z) :: S))) : Go w Z EL C N Q p e s below T (mkF m pc L (.int z :: .int x :: S)) := by
  subst hp
  exact ps X (fun H hx hby _ q => XS.ixor H hx rfl (hb hby hd) rfl q) kk
theorem o_lxor (X : St w Z a0 EL y bytes maxL ret p l e R s m args below meth c T h sf k n) {pc pc' : Nat} {L : Array Slot} {S : List Value} {x z : Int64} (hd : decode bytes pc = .ok (.lxor, 1)) (hp : pc + 1 = pc')  (kk : Go w Z EL C N Q p e s below T (mkF m pc' L (.long (x ^^^ z) :: S))) : Go w Z EL C N Q p e s below T (mkF m pc L (.long z :: .long x :: S)) := by
  subst hp
  exact ps X (fun H hx hby _ q => XS.lxor H hx rfl (hb hby hd) rfl q) kk
theorem o_ishl (X : St w Z a0 EL y bytes maxL ret p l e R s m args below meth c T h sf k n) {pc pc' : Nat} {L : Array Slot} {S : List Value} {x z : Int32} (hd : decode bytes pc = .ok (.ishl, 1)) (hp : pc + 1 = pc')  (kk : Go w Z EL C N Q p e s below T (mkF m pc' L (.int (x <<< (z &&& 31)) :: S))) : Go w Z EL C N Q p e s below T (mkF m pc L (.int z :: .int x :: S)) := by
  subst hp
  exact ps X (fun H hx hby _ q => XS.ishl H hx rfl (hb hby hd) rfl q) kk
theorem o_ishr (X : St w Z a0 EL y bytes maxL ret p l e R s m args below meth c T h sf k n) {pc pc' : Nat} {L : Array Slot} {S : List Value} {x z : Int32} (hd : decode bytes pc = .ok (.ishr, 1)) (hp : pc + 1 = pc')  (kk : Go w Z EL C N Q p e s below T (mkF m pc' L (.int (x >>> (z &&& 31)) :: S))) : Go w Z EL C N Q p e s below T (mkF m pc L (.int z :: .int x :: S)) := by
  subst hp
  exact ps X (fun H hx hby _ q => XS.ishr H hx rfl (hb hby hd) rfl q) kk
theorem o_iushr (X : St w Z a0 EL y bytes maxL ret p l e R s m args below meth c T h sf k n) {pc pc' : Nat} {L : Array Slot} {S : List Value} {x z : Int32} (hd : decode bytes pc = .ok (.iushr, 1)) (hp : pc + 1 = pc')  (kk : Go w Z EL C N Q p e s below T (mkF m pc' L (.int ((x.toUInt32 >>> (z &&& 31).toUInt32).toInt32) :: S))) : Go w Z EL C N Q p e s below T (mkF m pc L (.int z :: .int x :: S)) := by
  subst hp
  exact ps X (fun H hx hby _ q => XS.iushr H hx rfl (hb hby hd) rfl q) kk
theorem o_idiv (X : St w Z a0 EL y bytes maxL ret p l e R s m args below meth c T h sf k n) {pc pc' : Nat} {L : Array Slot} {S : List Value} {x z : Int32} (hd : decode bytes pc = .ok (.idiv, 1)) (hp : pc + 1 = pc') (hz : z ≠ 0) (kk : Go w Z EL C N Q p e s below T (mkF m pc' L (.int (x / z) :: S))) : Go w Z EL C N Q p e s below T (mkF m pc L (.int z :: .int x :: S)) := by
  subst hp
  exact ps X (fun H hx hby _ q => XS.idiv H hx rfl (hb hby hd) rfl hz q) kk
theorem o_ineg (X : St w Z a0 EL y bytes maxL ret p l e R s m args below meth c T h sf k n) {pc pc' : Nat} {L : Array Slot} {S : List Value} {x : Int32} (hd : decode bytes pc = .ok (.ineg, 1)) (hp : pc + 1 = pc')  (kk : Go w Z EL C N Q p e s below T (mkF m pc' L (.int (-x) :: S))) : Go w Z EL C N Q p e s below T (mkF m pc L (.int x :: S)) := by
  subst hp
  exact ps X (fun H hx hby _ q => XS.ineg H hx rfl (hb hby hd) rfl q) kk
theorem o_i2c (X : St w Z a0 EL y bytes maxL ret p l e R s m args below meth c T h sf k n) {pc pc' : Nat} {L : Array Slot} {S : List Value} {x : Int32} (hd : decode bytes pc = .ok (.i2c, 1)) (hp : pc + 1 = pc')  (kk : Go w Z EL C N Q p e s below T (mkF m pc' L (.int (x.toUInt32.toUInt16.toUInt32.toInt32) :: S))) : Go w Z EL C N Q p e s below T (mkF m pc L (.int x :: S)) := by
  subst hp
  exact ps X (fun H hx hby _ q => XS.i2c H hx rfl (hb hby hd) rfl q) kk
theorem o_i2b (X : St w Z a0 EL y bytes maxL ret p l e R s m args below meth c T h sf k n) {pc pc' : Nat} {L : Array Slot} {S : List Value} {x : Int32} (hd : decode bytes pc = .ok (.i2b, 1)) (hp : pc + 1 = pc')  (kk : Go w Z EL C N Q p e s below T (mkF m pc' L (.int (x.toInt8.toInt32) :: S))) : Go w Z EL C N Q p e s below T (mkF m pc L (.int x :: S)) := by
  subst hp
  exact ps X (fun H hx hby _ q => XS.i2b H hx rfl (hb hby hd) rfl q) kk
theorem o_i2s (X : St w Z a0 EL y bytes maxL ret p l e R s m args below meth c T h sf k n) {pc pc' : Nat} {L : Array Slot} {S : List Value} {x : Int32} (hd : decode bytes pc = .ok (.i2s, 1)) (hp : pc + 1 = pc')  (kk : Go w Z EL C N Q p e s below T (mkF m pc' L (.int (x.toInt16.toInt32) :: S))) : Go w Z EL C N Q p e s below T (mkF m pc L (.int x :: S)) := by
  subst hp
  exact ps X (fun H hx hby _ q => XS.i2s H hx rfl (hb hby hd) rfl q) kk
theorem o_i2l (X : St w Z a0 EL y bytes maxL ret p l e R s m args below meth c T h sf k n) {pc pc' : Nat} {L : Array Slot} {S : List Value} {x : Int32} (hd : decode bytes pc = .ok (.i2l, 1)) (hp : pc + 1 = pc')  (kk : Go w Z EL C N Q p e s below T (mkF m pc' L (.long (x.toInt64) :: S))) : Go w Z EL C N Q p e s below T (mkF m pc L (.int x :: S)) := by
  subst hp
  exact ps X (fun H hx hby _ q => XS.i2l H hx rfl (hb hby hd) rfl q) kk
theorem o_l2i (X : St w Z a0 EL y bytes maxL ret p l e R s m args below meth c T h sf k n) {pc pc' : Nat} {L : Array Slot} {S : List Value} {x : Int64} (hd : decode bytes pc = .ok (.l2i, 1)) (hp : pc + 1 = pc')  (kk : Go w Z EL C N Q p e s below T (mkF m pc' L (.int (x.toInt32) :: S))) : Go w Z EL C N Q p e s below T (mkF m pc L (.long x :: S)) := by
  subst hp
  exact ps X (fun H hx hby _ q => XS.l2i H hx rfl (hb hby hd) rfl q) kk
theorem o_lcmp (X : St w Z a0 EL y bytes maxL ret p l e R s m args below meth c T h sf k n) {pc pc' : Nat} {L : Array Slot} {S : List Value} {x z : Int64} (hd : decode bytes pc = .ok (.lcmp, 1)) (hp : pc + 1 = pc')  (kk : Go w Z EL C N Q p e s below T (mkF m pc' L (.int (XT.cmpL x z) :: S))) : Go w Z EL C N Q p e s below T (mkF m pc L (.long z :: .long x :: S)) := by
  subst hp
  exact ps X (fun H hx hby _ q => XT.lcmp H hx rfl (hb hby hd) rfl q) kk
theorem o_dup (X : St w Z a0 EL y bytes maxL ret p l e R s m args below meth c T h sf k n) {pc pc' : Nat} {L : Array Slot} {S : List Value} {v : Value} (hd : decode bytes pc = .ok (.dup, 1)) (hp : pc + 1 = pc') (hv : v.category = 1) (kk : Go w Z EL C N Q p e s below T (mkF m pc' L (v :: v :: S))) : Go w Z EL C N Q p e s below T (mkF m pc L (v :: S)) := by
  subst hp
  exact ps X (fun H hx hby _ q => XS.dup H hx rfl (hb hby hd) rfl hv q) kk
theorem o_pop (X : St w Z a0 EL y bytes maxL ret p l e R s m args below meth c T h sf k n) {pc pc' : Nat} {L : Array Slot} {S : List Value} {v : Value} (hd : decode bytes pc = .ok (.pop, 1)) (hp : pc + 1 = pc') (hv : v.category = 1) (kk : Go w Z EL C N Q p e s below T (mkF m pc' L S)) : Go w Z EL C N Q p e s below T (mkF m pc L (v :: S)) := by
  subst hp
  exact ps X (fun H hx hby _ q => XS.pop H hx rfl (hb hby hd) rfl hv q) kk
theorem o_dup_x1 (X : St w Z a0 EL y bytes maxL ret p l e R s m args below meth c T h sf k n) {pc pc' : Nat} {L : Array Slot} {S : List Value} {u v : Value} (hd : decode bytes pc = .ok (.dup_x1, 1)) (hp : pc + 1 = pc') (hu : u.category = 1) (hv : v.category = 1) (kk : Go w Z EL C N Q p e s below T (mkF m pc' L (u :: v :: u :: S))) : Go w Z EL C N Q p e s below T (mkF m pc L (u :: v :: S)) := by
  subst hp
  exact ps X (fun H hx hby _ q => XT.dupX1 H hx rfl (hb hby hd) rfl hu hv q) kk
theorem o_dup2 (X : St w Z a0 EL y bytes maxL ret p l e R s m args below meth c T h sf k n) {pc pc' : Nat} {L : Array Slot} {S : List Value} {u v : Value} (hd : decode bytes pc = .ok (.dup2, 1)) (hp : pc + 1 = pc') (hu : u.category = 1) (hv : v.category = 1) (kk : Go w Z EL C N Q p e s below T (mkF m pc' L (u :: v :: u :: v :: S))) : Go w Z EL C N Q p e s below T (mkF m pc L (u :: v :: S)) := by
  subst hp
  exact ps X (fun H hx hby _ q => XT.dup2 H hx rfl (hb hby hd) rfl hu hv q) kk
theorem o_iinc (X : St w Z a0 EL y bytes maxL ret p l e R s m args below meth c T h sf k n) {pc pc' : Nat} {L : Array Slot} {S : List Value} {i : Nat} {cst : Int} {x : Int32} {L' : Array Slot} (v : Int32) (hd : decode bytes pc = .ok (.iinc i cst, 3)) (hp : pc + 3 = pc') (hv : Int32.ofInt cst = v) (hl : L[i]? = some (.val (.int x))) (hl' : storeLocals L i (.int (x + v)) = some L') (kk : Go w Z EL C N Q p e s below T (mkF m pc' L' S)) : Go w Z EL C N Q p e s below T (mkF m pc L S) := by
  subst hp
  exact ps X (fun H hx hby _ q => XS.iinc H hx rfl (hb hby hd) hl (by rw [hv]; exact hl') q) kk
theorem o_irem (X : St w Z a0 EL y bytes maxL ret p l e R s m args below meth c T h sf k n) {pc pc' : Nat} {L : Array Slot} {S : List Value} {x z : Int32} (hd : decode bytes pc = .ok (.irem, 1)) (hp : pc + 1 = pc') (hz : z ≠ 0) (kk : Go w Z EL C N Q p e s below T (mkF m pc' L (.int (x % z) :: S))) : Go w Z EL C N Q p e s below T (mkF m pc L (.int z :: .int x :: S)) := by
  subst hp
  exact ps X (fun H hx hby _ q => XS.irem H hx rfl (hb hby hd) rfl hz (by rw [irem_eq_mod]; exact q)) kk
theorem o_goto (X : St w Z a0 EL y bytes maxL ret p l e R s m args below meth c T h sf k n) {pc pc' : Nat} {L : Array Slot} {S : List Value} {o : Int} (hd : decode bytes pc = .ok (.goto o, 3)) (hp : 0 ≤ (pc : Int) + o ∧ ((pc : Int) + o).toNat = pc') (kk : Go w Z EL C N Q p e s below T (mkF m pc' L S)) : Go w Z EL C N Q p e s below T (mkF m pc L S) :=
  ps X (fun H hx hby _ q => XS.goto H hx rfl (pc0 := pc) rfl (hb hby hd) hp.1 hp.2 q) kk
theorem o_if_icmpeq (X : St w Z a0 EL y bytes maxL ret p l e R s m args below meth c T h sf k n) {pc pt pf : Nat} {L : Array Slot} {S : List Value} {x z : Int32} {o : Int} (hd : decode bytes pc = .ok (.if_icmp .eq o, 3)) (hp : 0 ≤ (pc : Int) + o ∧ ((pc : Int) + o).toNat = pt) (hf : pc + 3 = pf) (kt : x = z → Go w Z EL C N Q p e s below T (mkF m pt L S)) (kf : ¬ x = z → Go w Z EL C N Q p e s below T (mkF m pf L S)) : Go w Z EL C N Q p e s below T (mkF m pc L (.int z :: .int x :: S)) := by
  subst hf
  by_cases hc : x = z
  · exact ps X (fun H hx hby _ q => XS.icmpYes H hx rfl (pc0 := pc) rfl (hb hby hd) rfl (XT.ii_eq_t hc) hp.1 hp.2 q) (kt hc)
  · exact ps X (fun H hx hby _ q => XS.icmpNo H hx rfl (hb hby hd) rfl (XT.ii_eq_f hc) q) (kf hc)
theorem o_ifeq (X : St w Z a0 EL y bytes maxL ret p l e R s m args below meth c T h sf k n) {pc pt pf : Nat} {L : Array Slot} {S : List Value} {x : Int32} {o : Int} (hd : decode bytes pc = .ok (.ifCond .eq o, 3)) (hp : 0 ≤ (pc : Int) + o ∧ ((pc : Int) + o).toNat = pt) (hf : pc + 3 = pf) (kt : x = 0 → Go w Z EL C N Q p e s below T (mkF m pt L S)) (kf : ¬ x = 0 → Go w Z EL C N Q p e s below T (mkF m pf L S)) : Go w Z EL C N Q p e s below T (mkF m pc L (.int x :: S)) := by
  subst hf
  by_cases hc : x = 0
  · exact ps X (fun H hx hby _ q => XS.ifYes H hx rfl (pc0 := pc) rfl (hb hby hd) rfl (XT.i0_eq_t hc) hp.1 hp.2 q) (kt hc)
  · exact ps X (fun H hx hby _ q => XS.ifNo H hx rfl (hb hby hd) rfl (XT.i0_eq_f hc) q) (kf hc)
theorem o_if_icmpne (X : St w Z a0 EL y bytes maxL ret p l e R s m args below meth c T h sf k n) {pc pt pf : Nat} {L : Array Slot} {S : List Value} {x z : Int32} {o : Int} (hd : decode bytes pc = .ok (.if_icmp .ne o, 3)) (hp : 0 ≤ (pc : Int) + o ∧ ((pc : Int) + o).toNat = pt) (hf : pc + 3 = pf) (kt : ¬ x = z → Go w Z EL C N Q p e s below T (mkF m pt L S)) (kf : x = z → Go w Z EL C N Q p e s below T (mkF m pf L S)) : Go w Z EL C N Q p e s below T (mkF m pc L (.int z :: .int x :: S)) := by
  subst hf
  by_cases hc : x = z
  · exact ps X (fun H hx hby _ q => XS.icmpNo H hx rfl (hb hby hd) rfl (XT.ii_ne_f hc) q) (kf hc)
  · exact ps X (fun H hx hby _ q => XS.icmpYes H hx rfl (pc0 := pc) rfl (hb hby hd) rfl (XT.ii_ne_t hc) hp.1 hp.2 q) (kt hc)
theorem o_ifne (X : St w Z a0 EL y bytes maxL ret p l e R s m args below meth c T h sf k n) {pc pt pf : Nat} {L : Array Slot} {S : List Value} {x : Int32} {o : Int} (hd : decode bytes pc = .ok (.ifCond .ne o, 3)) (hp : 0 ≤ (pc : Int) + o ∧ ((pc : Int) + o).toNat = pt) (hf : pc + 3 = pf) (kt : ¬ x = 0 → Go w Z EL C N Q p e s below T (mkF m pt L S)) (kf : x = 0 → Go w Z EL C N Q p e s below T (mkF m pf L S)) : Go w Z EL C N Q p e s below T (mkF m pc L (.int x :: S)) := by
  subst hf
  by_cases hc : x = 0
  · exact ps X (fun H hx hby _ q => XS.ifNo H hx rfl (hb hby hd) rfl (XT.i0_ne_f hc) q) (kf hc)
  · exact ps X (fun H hx hby _ q => XS.ifYes H hx rfl (pc0 := pc) rfl (hb hby hd) rfl (XT.i0_ne_t hc) hp.1 hp.2 q) (kt hc)
theorem o_if_icmplt (X : St w Z a0 EL y bytes maxL ret p l e R s m args below meth c T h sf k n) {pc pt pf : Nat} {L : Array Slot} {S : List Value} {x z : Int32} {o : Int} (hd : decode bytes pc = .ok (.if_icmp .lt o, 3)) (hp : 0 ≤ (pc : Int) + o ∧ ((pc : Int) + o).toNat = pt) (hf : pc + 3 = pf) (kt : x < z → Go w Z EL C N Q p e s below T (mkF m pt L S)) (kf : ¬ x < z → Go w Z EL C N Q p e s below T (mkF m pf L S)) : Go w Z EL C N Q p e s below T (mkF m pc L (.int z :: .int x :: S)) := by
  subst hf
  by_cases hc : x < z
  · exact ps X (fun H hx hby _ q => XS.icmpYes H hx rfl (pc0 := pc) rfl (hb hby hd) rfl (XT.ii_lt_t hc) hp.1 hp.2 q) (kt hc)
  · exact ps X (fun H hx hby _ q => XS.icmpNo H hx rfl (hb hby hd) rfl (XT.ii_lt_f hc) q) (kf hc)
theorem o_iflt (X : St w Z a0 EL y bytes maxL ret p l e R s m args below meth c T h sf k n) {pc pt pf : Nat} {L : Array Slot} {S : List Value} {x : Int32} {o : Int} (hd : decode bytes pc = .ok (.ifCond .lt o, 3)) (hp : 0 ≤ (pc : Int) + o ∧ ((pc : Int) + o).toNat = pt) (hf : pc + 3 = pf) (kt : x < 0 → Go w Z EL C N Q p e s below T (mkF m pt L S)) (kf : ¬ x < 0 → Go w Z EL C N Q p e s below T (mkF m pf L S)) : Go w Z EL C N Q p e s below T (mkF m pc L (.int x :: S)) := by
  subst hf
  by_cases hc : x < 0
  · exact ps X (fun H hx hby _ q => XS.ifYes H hx rfl (pc0 := pc) rfl (hb hby hd) rfl (XT.i0_lt_t hc) hp.1 hp.2 q) (kt hc)
  · exact ps X (fun H hx hby _ q => XS.ifNo H hx rfl (hb hby hd) rfl (XT.i0_lt_f hc) q) (kf hc)
theorem o_if_icmpge (X : St w Z a0 EL y bytes maxL ret p l e R s m args below meth c T h sf k n) {pc pt pf : Nat} {L : Array Slot} {S : List Value} {x z : Int32} {o : Int} (hd : decode bytes pc = .ok (.if_icmp .ge o, 3)) (hp : 0 ≤ (pc : Int) + o ∧ ((pc : Int) + o).toNat = pt) (hf : pc + 3 = pf) (kt : ¬ x < z → Go w Z EL C N Q p e s below T (mkF m pt L S)) (kf : x < z → Go w Z EL C N Q p e s below T (mkF m pf L S)) : Go w Z EL C N Q p e s below T (mkF m pc L (.int z :: .int x :: S)) := by
  subst hf
  by_cases hc : x < z
  · exact ps X (fun H hx hby _ q => XS.icmpNo H hx rfl (hb hby hd) rfl (XT.ii_ge_f hc) q) (kf hc)
  · exact ps X (fun H hx hby _ q => XS.icmpYes H hx rfl (pc0 := pc) rfl (hb hby hd) rfl (XT.ii_ge_t hc) hp.1 hp.2 q) (kt hc)
theorem o_ifge (X : St w Z a0 EL y bytes maxL ret p l e R s m args below meth c T h sf k n) {pc pt pf : Nat} {L : Array Slot} {S : List Value} {x : Int32} {o : Int} (hd : decode bytes pc = .ok (.ifCond .ge o, 3)) (hp : 0 ≤ (pc : Int) + o ∧ ((pc : Int) + o).toNat = pt) (hf : pc + 3 = pf) (kt : ¬ x < 0 → Go w Z EL C N Q p e s below T (mkF m pt L S)) (kf : x < 0 → Go w Z EL C N Q p e s below T (mkF m pf L S)) : Go w Z EL C N Q p e s below T (mkF m pc L (.int x :: S)) := by
  subst hf
  by_cases hc : x < 0
  · exact ps X (fun H hx hby _ q => XS.ifNo H hx rfl (hb hby hd) rfl (XT.i0_ge_f hc) q) (kf hc)
  · exact ps X (fun H hx hby _ q => XS.ifYes H hx rfl (pc0 := pc) rfl (hb hby hd) rfl (XT.i0_ge_t hc) hp.1 hp.2 q) (kt hc)
theorem o_if_icmpgt (X : St w Z a0 EL y bytes maxL ret p l e R s m args below meth c T h sf k n) {pc pt pf : Nat} {L : Array Slot} {S : List Value} {x z : Int32} {o : Int} (hd : decode bytes pc = .ok (.if_icmp .gt o, 3)) (hp : 0 ≤ (pc : Int) + o ∧ ((pc : Int) + o).toNat = pt) (hf : pc + 3 = pf) (kt : z < x → Go w Z EL C N Q p e s below T (mkF m pt L S)) (kf : ¬ z < x → Go w Z EL C N Q p e s below T (mkF m pf L S)) : Go w Z EL C N Q p e s below T (mkF m pc L (.int z :: .int x :: S)) := by
  subst hf
  by_cases hc : z < x
  · exact ps X (fun H hx hby _ q => XS.icmpYes H hx rfl (pc0 := pc) rfl (hb hby hd) rfl (XT.ii_gt_t hc) hp.1 hp.2 q) (kt hc)
  · exact ps X (fun H hx hby _ q => XS.icmpNo H hx rfl (hb hby hd) rfl (XT.ii_gt_f hc) q) (kf hc)
theorem o_ifgt (X : St w Z a0 EL y bytes maxL ret p l e R s m args below meth c T h sf k n) {pc pt pf : Nat} {L : Array Slot} {S : List Value} {x : Int32} {o : Int} (hd : decode bytes pc = .ok (.ifCond .gt o, 3)) (hp : 0 ≤ (pc : Int) + o ∧ ((pc : Int) + o).toNat = pt) (hf : pc + 3 = pf) (kt : 0 < x → Go w Z EL C N Q p e s below T (mkF m pt L S)) (kf : ¬ 0 < x → Go w Z EL C N Q p e s below T (mkF m pf L S)) : Go w Z EL C N Q p e s below T (mkF m pc L (.int x :: S)) := by
  subst hf
  by_cases hc : 0 < x
  · exact ps X (fun H hx hby _ q => XS.ifYes H hx rfl (pc0 := pc) rfl (hb hby hd) rfl (XT.i0_gt_t hc) hp.1 hp.2 q) (kt hc)
  · exact ps X (fun H hx hby _ q => XS.ifNo H hx rfl (hb hby hd) rfl (XT.i0_gt_f hc) q) (kf hc)
theorem o_if_icmple (X : St w Z a0 EL y bytes maxL ret p l e R s m args below meth c T h sf k n) {pc pt pf : Nat} {L : Array Slot} {S : List Value} {x z : Int32} {o : Int} (hd : decode bytes pc = .ok (.if_icmp .le o, 3)) (hp : 0 ≤ (pc : Int) + o ∧ ((pc : Int) + o).toNat = pt) (hf : pc + 3 = pf) (kt : ¬ z < x → Go w Z EL C N Q p e s below T (mkF m pt L S)) (kf : z < x → Go w Z EL C N Q p e s below T (mkF m pf L S)) : Go w Z EL C N Q p e s below T (mkF m pc L (.int z :: .int x :: S)) := by
  subst hf
  by_cases hc : z < x
  · exact ps X (fun H hx hby _ q => XS.icmpNo H hx rfl (hb hby hd) rfl (XT.ii_le_f hc) q) (kf hc)
  · exact ps X (fun H hx hby _ q => XS.icmpYes H hx rfl (pc0 := pc) rfl (hb hby hd) rfl (XT.ii_le_t hc) hp.1 hp.2 q) (kt hc)
theorem o_ifle (X : St w Z a0 EL y bytes maxL ret p l e R s m args below meth c T h sf k n) {pc pt pf : Nat} {L : Array Slot} {S : List Value} {x : Int32} {o : Int} (hd : decode bytes pc = .ok (.ifCond .le o, 3)) (hp : 0 ≤ (pc : Int) + o ∧ ((pc : Int) + o).toNat = pt) (hf : pc + 3 = pf) (kt : ¬ 0 < x → Go w Z EL C N Q p e s below T (mkF m pt L S)) (kf : 0 < x → Go w Z EL C N Q p e s below T (mkF m pf L S)) : Go w Z EL C N Q p e s below T (mkF m pc L (.int x :: S)) := by
  subst hf
  by_cases hc : 0 < x
  · exact ps X (fun H hx hby _ q => XS.ifNo H hx rfl (hb hby hd) rfl (XT.i0_le_f hc) q) (kf hc)
  · exact ps X (fun H hx hby _ q => XS.ifYes H hx rfl (pc0 := pc) rfl (hb hby hd) rfl (XT.i0_le_t hc) hp.1 hp.2 q) (kt hc)
theorem o_ifnull_y (X : St w Z a0 EL y bytes maxL ret p l e R s m args below meth c T h sf k n) {pc pt : Nat} {L : Array Slot} {S : List Value} {o : Int} (hd : decode bytes pc = .ok (.ifnull o, 3)) (hp : 0 ≤ (pc : Int) + o ∧ ((pc : Int) + o).toNat = pt) (kk : Go w Z EL C N Q p e s below T (mkF m pt L S)) : Go w Z EL C N Q p e s below T (mkF m pc L (.null :: S)) :=
  ps X (fun H hx hby _ q => XS.ifnullYes H hx rfl (pc0 := pc) rfl (hb hby hd) rfl hp.1 hp.2 q) kk
theorem o_ifnull_n (X : St w Z a0 EL y bytes maxL ret p l e R s m args below meth c T h sf k n) {pc pf : Nat} {L : Array Slot} {S : List Value} {o : Int} {b : Addr} (hd : decode bytes pc = .ok (.ifnull o, 3)) (hf : pc + 3 = pf) (kk : Go w Z EL C N Q p e s below T (mkF m pf L S)) : Go w Z EL C N Q p e s below T (mkF m pc L (.ref b :: S)) := by
  subst hf
  exact ps X (fun H hx hby _ q => XS.ifnullNo H hx rfl (hb hby hd) rfl q) kk
theorem o_ifnonnull_y (X : St w Z a0 EL y bytes maxL ret p l e R s m args below meth c T h sf k n) {pc pt : Nat} {L : Array Slot} {S : List Value} {o : Int} {b : Addr} (hd : decode bytes pc = .ok (.ifnonnull o, 3)) (hp : 0 ≤ (pc : Int) + o ∧ ((pc : Int) + o).toNat = pt) (kk : Go w Z EL C N Q p e s below T (mkF m pt L S)) : Go w Z EL C N Q p e s below T (mkF m pc L (.ref b :: S)) :=
  ps X (fun H hx hby _ q => XS.ifnonnullYes H hx rfl (pc0 := pc) rfl (hb hby hd) rfl hp.1 hp.2 q) kk
theorem o_ifnonnull_n (X : St w Z a0 EL y bytes maxL ret p l e R s m args below meth c T h sf k n) {pc pf : Nat} {L : Array Slot} {S : List Value} {o : Int} (hd : decode bytes pc = .ok (.ifnonnull o, 3)) (hf : pc + 3 = pf) (kk : Go w Z EL C N Q p e s below T (mkF m pf L S)) : Go w Z EL C N Q p e s below T (mkF m pc L (.null :: S)) := by
  subst hf
  exact ps X (fun H hx hby _ q => XS.ifnonnullNo H hx rfl (hb hby hd) rfl q) kk
theorem o_if_acmpeq (X : St w Z a0 EL y bytes maxL ret p l e R s m args below meth c T h sf k n) {pc pt pf : Nat} {L : Array Slot} {S : List Value} {u v : Value} {o : Int} (hd : decode bytes pc = .ok (.if_acmp .eq o, 3)) (hu : u.isRef = true) (hv : v.isRef = true) (hp : 0 ≤ (pc : Int) + o ∧ ((pc : Int) + o).toNat = pt) (hf : pc + 3 = pf) (kt : u = v → Go w Z EL C N Q p e s below T (mkF m pt L S)) (kf : ¬ u = v → Go w Z EL C N Q p e s below T (mkF m pf L S)) : Go w Z EL C N Q p e s below T (mkF m pc L (v :: u :: S)) := by
  subst hf
  by_cases hc : u = v
  · exact ps X (fun H hx hby _ q => XT.acmpYes H hx rfl (pc0 := pc) rfl (hb hby hd) rfl hu hv (XT.aa_eq_t hc) hp.1 hp.2 q) (kt hc)
  · exact ps X (fun H hx hby _ q => XT.acmpNo H hx rfl (hb hby hd) rfl hu hv (XT.aa_eq_f hc) q) (kf hc)
theorem o_if_acmpne (X : St w Z a0 EL y bytes maxL ret p l e R s m args below meth c T h sf k n) {pc pt pf : Nat} {L : Array Slot} {S : List Value} {u v : Value} {o : Int} (hd : decode bytes pc = .ok (.if_acmp .ne o, 3)) (hu : u.isRef = true) (hv : v.isRef = true) (hp : 0 ≤ (pc : Int) + o ∧ ((pc : Int) + o).toNat = pt) (hf : pc + 3 = pf) (kt : ¬ u = v → Go w Z EL C N Q p e s below T (mkF m pt L S)) (kf : u = v → Go w Z EL C N Q p e s below T (mkF m pf L S)) : Go w Z EL C N Q p e s below T (mkF m pc L (v :: u :: S)) := by
  subst hf
  by_cases hc : u = v
  · exact ps X (fun H hx hby _ q => XT.acmpNo H hx rfl (hb hby hd) rfl hu hv (XT.aa_ne_f hc) q) (kf hc)
  · exact ps X (fun H hx hby _ q => XT.acmpYes H hx rfl (pc0 := pc) rfl (hb hby hd) rfl hu hv (XT.aa_ne_t hc) hp.1 hp.2 q) (kt hc)
theorem St.ext (X : St w Z a0 EL y bytes maxL ret p l e R s m args below meth c T h sf k n) : Ext Z.heap h := by
  obtain ⟨-, vm0, k0, locs, X0, eT, hS, hk, hZ, hown, N, E, -⟩ := X; exact E
theorem St.drop (X : St w Z a0 EL y bytes maxL ret p l e R s m args below meth c T h sf k n) {sf' : List Addr} (q : ∀ x ∈ sf', x ∈ sf) : St w Z a0 EL y bytes maxL ret p l e R s m args below meth c T h sf' k n := by
  obtain ⟨c0, vm0, k0, locs, X0, eT, hS, hk, hZ, hown, N, E, hw, hC, hsf⟩ := X
  exact ⟨c0, vm0, k0, locs, X0, eT, hS, hk, hZ, hown, N, E, hw, hC, fun x hx => hsf x (q x hx)⟩
theorem o_getfield (X : St w Z a0 EL y bytes maxL ret p l e R s m args below meth c T h sf k n) {pc pc' : Nat} {L : Array Slot} {S : List Value} {idx : Nat} {R0 O nm d : String} {a : Addr} {v : Value} (hd : decode bytes pc = .ok (.getfield idx, 3)) (hp : pc + 3 = pc') (w1 : (Cond.fieldLink y.cls idx R0 nm d).before a0 Z = true) (via : Via Z R0 O nm d) (F : Fld Z h a O nm d v)
    (kk : ∀ T', St w Z a0 EL y bytes maxL ret p l e R s m args below meth c T' h sf k n → Go w Z EL C N Q p e s below T' (mkF m pc' L (v :: S))) : Go w Z EL C N Q p e s below T (mkF m pc L (.ref a :: S)) := by
  subst hp
  obtain ⟨⟨hx, hby, c1⟩, vm0, k0, locs, X0, eT, hS, hk, hZ, hown, N, E, hw, hC, hsf⟩ := X
  obtain ⟨T', X', e', st⟩ := getF (s := s.setVm vm0) X0 hx hZ hown (host := "") (Or.inl w1) via eT F (g := mkF m pc L (.ref a :: S)) rfl rfl (hb hby hd)
  obtain ⟨s₂, o, hs, r⟩ := kk T' ⟨⟨hx, hby, c1⟩, vm0, k0, locs, X', e', hS, hk, hZ, hown, N, E, hw, hC, hsf⟩
  exact ⟨s₂, o, st _ hs, r⟩
theorem o_getfieldNest (X : St w Z a0 EL y bytes maxL ret p l e R s m args below meth c T h sf k n) {pc pc' : Nat} {L : Array Slot} {S : List Value} {idx : Nat} {R0 O nm d host : String} {a : Addr} {v : Value} (hd : decode bytes pc = .ok (.getfield idx, 3)) (hp : pc + 3 = pc') (w1 : (Cond.fieldLinkNest y.cls idx R0 nm d host).before a0 Z = true) (via : Via Z R0 O nm d) (F : Fld Z h a O nm d v)
    (kk : ∀ T', St w Z a0 EL y bytes maxL ret p l e R s m args below meth c T' h sf k n → Go w Z EL C N Q p e s below T' (mkF m pc' L (v :: S))) : Go w Z EL C N Q p e s below T (mkF m pc L (.ref a :: S)) := by
  subst hp
  obtain ⟨⟨hx, hby, c1⟩, vm0, k0, locs, X0, eT, hS, hk, hZ, hown, N, E, hw, hC, hsf⟩ := X
  obtain ⟨T', X', e', st⟩ := getF (s := s.setVm vm0) X0 hx hZ hown (Or.inr w1) via eT F (g := mkF m pc L (.ref a :: S)) rfl rfl (hb hby hd)
  obtain ⟨s₂, o, hs, r⟩ := kk T' ⟨⟨hx, hby, c1⟩, vm0, k0, locs, X', e', hS, hk, hZ, hown, N, E, hw, hC, hsf⟩
  exact ⟨s₂, o, st _ hs, r⟩
theorem o_getstatic (X : St w Z a0 EL y bytes maxL ret p l e R s m args below meth c T h sf k n) {pc pc' : Nat} {L : Array Slot} {S : List Value} {idx : Nat} {R0 O nm d : String} {v : Value} (hd : decode bytes pc = .ok (.getstatic idx, 3)) (hp : pc + 3 = pc') (w1 : (Cond.fieldLink y.cls idx R0 nm d).before a0 Z = true) (via : Via Z R0 O nm d) (F : Sta Z Z.heap O nm d v)
    (kk : ∀ T', St w Z a0 EL y bytes maxL ret p l e R s m args below meth c T' h sf k n → Go w Z EL C N Q p e s below T' (mkF m pc' L (v :: S))) : Go w Z EL C N Q p e s below T (mkF m pc L S) := by
  subst hp
  obtain ⟨⟨hx, hby, c1⟩, vm0, k0, locs, X0, eT, hS, hk, hZ, hown, N, E, hw, hC, hsf⟩ := X
  obtain ⟨T', X', e', st⟩ := getS (s := s.setVm vm0) X0 hx hZ hown (host := "") w1 via eT (F.ext E) (g := mkF m pc L S) rfl (hb hby hd)
  obtain ⟨s₂, o, hs, r⟩ := kk T' ⟨⟨hx, hby, c1⟩, vm0, k0, locs, X', e', hS, hk, hZ, hown, N, E, hw, hC, hsf⟩
  exact ⟨s₂, o, st _ hs, r⟩
/-- behind a write of one slot -/
theorem St.wrote {vm0 : Vm} {k0 : Nat} {locs : List Loc} {T' : State} {h' : Heap} {a : Addr} {sl : Nat} {v : Value} (c1 : p.tables.exec = Jvm.exec ∧ c.code = bytes ∧ c.maxLocals = maxL ∧ meth.sig.returnType = ret ∧ meth.locks = false ∧ meth.name = y.name ∧ EW Z a0 EL)
    (X' : Stand p l e R (s.setVm vm0) m args below meth c T' (locs ++ [⟨a, sl⟩]) k n) (e' : T'.heap = h') (hS : s.Since vm0 k0) (hk : k0 ≤ h.size) (hZ : Z.Warmed39 vm0) (hown : vm0.findClass y.cls = some m.cls) (N : Fr Z.heap.size locs) (E : Ext Z.heap h) (hw : w = false → vm0 = s.vm ∧ EL = []) (hC : CHr Z EL s.vm s.heap vm0 h) (hsf : ∀ x ∈ sf, x < h.size ∧ Safe Z EL vm0 h x)
    (W : Wr h h' a sl v) (ha : Z.heap.size ≤ a) (ok : Ok Z EL h sf a) : St w Z a0 EL y bytes maxL ret p l e R s m args below meth c T' h' sf k n := by
  have S := ok.safe hZ.alike hsf
  refine ⟨c1, vm0, k0, _, X', e', hS, by rw [W.size]; exact hk, hZ, hown, Fr.snoc X' N ha, (Old.wr (Z := Z) (n0 := Z.heap.size) ⟨rfl, E⟩ W ha).2, hw, hC.trans (CHr.wr W S hC.1), fun x hx => ⟨by rw [W.size]; exact (hsf x hx).1, Safe.wr W S hC.1 (hsf x hx).2⟩⟩
theorem o_putfield (X : St w Z a0 EL y bytes maxL ret p l e R s m args below meth c T h sf k n) {pc pc' : Nat} {L : Array Slot} {S : List Value} {idx kk0 : Nat} {R0 O nm d K : String} {ty : FieldType} {a : Addr} {v old : Value} (hd : decode bytes pc = .ok (.putfield idx, 3)) (hp : pc + 3 = pc') (w1 : (Cond.fieldLink y.cls idx R0 nm d).before a0 Z = true) (via : Via Z R0 O nm d) (F : Fld Z h a O nm d old) (E0 : Exa Z h a K)
    (L0 : (Cond.lays K O nm d).before a0 Z = true ∨ ((Cond.laysFinal K O nm d).before a0 Z = true ∧ y.cls = O ∧ y.name = "<init>")) (wi : (Cond.instantiable K kk0).before a0 Z = true) (hty : parseFieldDescriptor d = some ty) (hn : narrow ty v = v) (hf : fits ty v = true) (ha : Z.heap.size ≤ a) (ok : Ok Z EL h sf a)
    (kk : ∀ T' h', Wr h h' a (Jvm.RoadKit.slotOf Z O nm d) v → St w Z a0 EL y bytes maxL ret p l e R s m args below meth c T' h' sf k n → Go w Z EL C N Q p e s below T' (mkF m pc' L S)) : Go w Z EL C N Q p e s below T (mkF m pc L (v :: .ref a :: S)) := by
  subst hp
  obtain ⟨c1, vm0, k0, locs, X0, eT, hS, hk, hZ, hown, N, E, hw, hC, hsf⟩ := X
  obtain ⟨T', h', X', e', W, st⟩ := putF (s := s.setVm vm0) X0 c1.1 hZ hown (host := "") (Or.inl w1) via eT F E0 (L0.imp id fun q => ⟨q.1, q.2.1, c1.2.2.2.2.2.1.trans q.2.2⟩) wi hty hn hf (g := mkF m pc L (v :: .ref a :: S)) rfl rfl (hb c1.2.1 hd)
  obtain ⟨s₂, o, hs, r⟩ := kk T' h' W (St.wrote c1 X' e' hS hk hZ hown N E hw hC hsf W ha ok)
  exact ⟨s₂, o, st _ hs, r⟩
theorem o_putfieldN (X : St w Z a0 EL y bytes maxL ret p l e R s m args below meth c T h sf k n) {pc pc' : Nat} {L : Array Slot} {S : List Value} {idx kk0 : Nat} {R0 O nm d K : String} {ty : FieldType} {a : Addr} {v v' old : Value} (hd : decode bytes pc = .ok (.putfield idx, 3)) (hp : pc + 3 = pc') (w1 : (Cond.fieldLink y.cls idx R0 nm d).before a0 Z = true) (via : Via Z R0 O nm d) (F : Fld Z h a O nm d old) (E0 : Exa Z h a K)
    (L0 : (Cond.lays K O nm d).before a0 Z = true ∨ ((Cond.laysFinal K O nm d).before a0 Z = true ∧ y.cls = O ∧ y.name = "<init>")) (wi : (Cond.instantiable K kk0).before a0 Z = true) (hty : parseFieldDescriptor d = some ty) (hn : narrow ty v = v') (hf : fits ty v' = true) (ha : Z.heap.size ≤ a) (ok : Ok Z EL h sf a)
    (kk : ∀ T' h', Wr h h' a (Jvm.RoadKit.slotOf Z O nm d) v' → St w Z a0 EL y bytes maxL ret p l e R s m args below meth c T' h' sf k n → Go w Z EL C N Q p e s below T' (mkF m pc' L S)) : Go w Z EL C N Q p e s below T (mkF m pc L (v :: .ref a :: S)) := by
  subst hp
  obtain ⟨c1, vm0, k0, locs, X0, eT, hS, hk, hZ, hown, N, E, hw, hC, hsf⟩ := X
  obtain ⟨T', h', X', e', W, st⟩ := putFN (s := s.setVm vm0) X0 c1.1 hZ hown w1 via eT F E0 (L0.imp id fun q => ⟨q.1, q.2.1, c1.2.2.2.2.2.1.trans q.2.2⟩) wi hty hn hf (g := mkF m pc L (v :: .ref a :: S)) rfl rfl (hb c1.2.1 hd)
  obtain ⟨s₂, o, hs, r⟩ := kk T' h' W (St.wrote c1 X' e' hS hk hZ hown N E hw hC hsf W ha ok)
  exact ⟨s₂, o, st _ hs, r⟩
/-- behind an instruction that made one cell -/
theorem St.made {vm0 : Vm} {k0 : Nat} {locs : List Loc} {T' : State} {h' : Heap} {k1 n1 : Nat} (c1 : p.tables.exec = Jvm.exec ∧ c.code = bytes ∧ c.maxLocals = maxL ∧ meth.sig.returnType = ret ∧ meth.locks = false ∧ meth.name = y.name ∧ EW Z a0 EL)
    (X' : Stand p l e R (s.setVm vm0) m args below meth c T' locs k1 n1) (e' : T'.heap = h') (hS : s.Since vm0 k0) (hk : k0 ≤ h.size) (hZ : Z.Warmed39 vm0) (hown : vm0.findClass y.cls = some m.cls) (N : Fr Z.heap.size locs) (E : Ext Z.heap h) (hw : w = false → vm0 = s.vm ∧ EL = []) (hC : CHr Z EL s.vm s.heap vm0 h) (hsf : ∀ x ∈ sf, x < h.size ∧ Safe Z EL vm0 h x)
    (E2 : Ext h h') (hlt : h.size < h'.size) : St w Z a0 EL y bytes maxL ret p l e R s m args below meth c T' h' (h.size :: sf) k1 n1 := by
  refine ⟨c1, vm0, k0, locs, X', e', hS, Nat.le_trans hk E2.1, hZ, hown, N, ⟨Nat.le_trans E.1 E2.1, fun a q r => E2.2 _ _ (E.2 _ _ r)⟩, hw, hC.trans (CHr.ext E2 hC.1), fun x hx => ?_⟩
  rcases List.mem_cons.mp hx with rfl | hx
  · exact ⟨hlt, Safe.ext E2 hC.1 (Safe.new (Nat.le_refl _))⟩
  · exact ⟨Nat.lt_of_lt_of_le (hsf x hx).1 E2.1, Safe.ext E2 hC.1 (hsf x hx).2⟩
theorem o_new (X : St w Z a0 EL y bytes maxL ret p l e R s m args below meth c T h sf k n) {pc pc' : Nat} {L : Array Slot} {S : List Value} {idx nn : Nat} {K : String} (hd : decode bytes pc = .ok (.new idx, 3)) (hp : pc + 3 = pc') (w1 : (Cond.classLink y.cls idx K).before a0 Z = true) (wi : (Cond.instantiable K nn).before a0 Z = true) (wz : (Cond.initialized K).before a0 Z = true) (hc : k + 1 ≤ R.cells) (hl : n + nn ≤ R.slots)
    (kk : ∀ T' h' a, a = h.size → Z.heap.size ≤ a → Ext h h' → Exa Z h' a K → (∀ {O nm d : String} {ty : FieldType}, Laid Z a0 K O nm d → parseFieldDescriptor d = some ty → Fld Z h' a O nm d (defaultValue ty)) → St w Z a0 EL y bytes maxL ret p l e R s m args below meth c T' h' (a :: sf) (k + 1) (n + nn) → Go w Z EL C N Q p e s below T' (mkF m pc' L (.ref a :: S))) : Go w Z EL C N Q p e s below T (mkF m pc L S) := by
  subst hp
  obtain ⟨c1, vm0, k0, locs, X0, eT, hS, hk, hZ, hown, N, E, hw, hC, hsf⟩ := X
  obtain ⟨T', h', X', e', E2, A2, D2, -, st⟩ := newO (s := s.setVm vm0) X0 c1.1 hZ hown w1 wi wz eT (g := mkF m pc L S) rfl (hb c1.2.1 hd) hc hl
  obtain ⟨s₂, o, hs, r⟩ := kk T' h' h.size rfl E.1 E2 A2 D2 (St.made c1 X' e' hS hk hZ hown N E hw hC hsf E2 A2.lt)
  exact ⟨s₂, o, st _ hs, r⟩
theorem o_newarray (X : St w Z a0 EL y bytes maxL ret p l e R s m args below meth c T h sf k n) {pc pc' : Nat} {L : Array Slot} {S : List Value} {aty : ArrayType} {z : Int32} (hd : decode bytes pc = .ok (.newarray aty, 2)) (hp : pc + 2 = pc') (w1 : (Cond.arrayClass (newarray.typeOf aty)).before a0 Z = true) (hz : ¬ z < 0) {cap : Nat} (hcap : z.toNatClampNeg ≤ cap) (hb8 : cap * 8 ≤ 536870912) (hc : k + 1 ≤ R.cells) (hl : n + cap ≤ R.slots)
    (kk : ∀ T' h' a kA, a = h.size → Z.heap.size ≤ a → Ext h h' → Arv Z h' a kA (newarray.typeOf aty) z [] (defaultValue (newarray.typeOf aty)) → St w Z a0 EL y bytes maxL ret p l e R s m args below meth c T' h' (a :: sf) (k + 1) (n + cap) → Go w Z EL C N Q p e s below T' (mkF m pc' L (.ref a :: S))) : Go w Z EL C N Q p e s below T (mkF m pc L (.int z :: S)) := by
  subst hp
  obtain ⟨c1, vm0, k0, locs, X0, eT, hS, hk, hZ, hown, N, E, hw, hC, hsf⟩ := X
  obtain ⟨T', h', kA, X', e', E2, A2, st⟩ := newP (s := s.setVm vm0) X0 c1.1 hZ w1 eT (g := mkF m pc L (.int z :: S)) rfl (hb c1.2.1 hd) rfl hz hcap hb8 hc hl
  obtain ⟨s₂, o, hs, r⟩ := kk T' h' h.size kA rfl E.1 E2 (Arv.new A2 hz) (St.made c1 X' e' hS hk hZ hown N E hw hC hsf E2 A2.lt)
  exact ⟨s₂, o, st _ hs, r⟩
theorem o_newarrayE (X : St w Z a0 EL y bytes maxL ret p l e R s m args below meth c T h sf k n) {pc pc' : Nat} {L : Array Slot} {S : List Value} {aty : ArrayType} {z : Int32} (hd : decode bytes pc = .ok (.newarray aty, 2)) (hp : pc + 2 = pc') (w1 : (Cond.arrayClass (newarray.typeOf aty)).before a0 Z = true) (hz : ¬ z < 0) {cap : Nat} (hcap : z.toNatClampNeg ≤ cap) (hb8 : cap * 8 ≤ 536870912) (hc : k + 1 ≤ R.cells) (hl : n + cap ≤ R.slots) {ad : String} (had : "[" ++ (newarray.typeOf aty).toString = ad)
    (kk : ∀ T' h' a kA, a = h.size → Z.heap.size ≤ a → Ext h h' → Arv Z h' a kA (newarray.typeOf aty) z [] (defaultValue (newarray.typeOf aty)) → Exa Z h' a ad → St w Z a0 EL y bytes maxL ret p l e R s m args below meth c T' h' (a :: sf) (k + 1) (n + cap) → Go w Z EL C N Q p e s below T' (mkF m pc' L (.ref a :: S))) : Go w Z EL C N Q p e s below T (mkF m pc L (.int z :: S)) := by
  subst hp
  obtain ⟨c1, vm0, k0, locs, X0, eT, hS, hk, hZ, hown, N, E, hw, hC, hsf⟩ := X
  obtain ⟨T', h', kA, X', e', E2, A2, D2, st⟩ := newPE (s := s.setVm vm0) X0 c1.1 hZ w1 eT (g := mkF m pc L (.int z :: S)) rfl (hb c1.2.1 hd) rfl hz hcap hb8 hc hl had
  obtain ⟨s₂, o, hs, r⟩ := kk T' h' h.size kA rfl E.1 E2 (Arv.new A2 hz) D2 (St.made c1 X' e' hS hk hZ hown N E hw hC hsf E2 A2.lt)
  exact ⟨s₂, o, st _ hs, r⟩
theorem o_lookHit (X : St w Z a0 EL y bytes maxL ret p l e R s m args below meth c T h sf k n) {pc pc' len : Nat} {L : Array Slot} {S : List Value} {i : Int32} {dflt : Int} {pairs : Array (Int × Int)} (hd : decode bytes pc = .ok (.lookupswitch dflt pairs, len)) (hso : (pairs.toList.zip (pairs.toList.drop 1)).all (fun (a, next) => a.1 < next.1) = true) {u off : Int} (hf : pairs.find? (·.1 == i.toInt) = some (u, off)) (hp : 0 ≤ (pc : Int) + off ∧ ((pc : Int) + off).toNat = pc') (kk : Go w Z EL C N Q p e s below T (mkF m pc' L S)) : Go w Z EL C N Q p e s below T (mkF m pc L (.int i :: S)) := by
  obtain ⟨hp0, rfl⟩ := hp
  obtain ⟨c1, vm0, k0, locs, X0, -⟩ := X
  obtain ⟨s₂, o, hs, r⟩ := kk
  exact ⟨s₂, o, X0.lookupswitchHit c1.1 (g := mkF m pc L (.int i :: S)) rfl rfl (hb c1.2.1 hd) hso hf hp0 _ hs, r⟩
theorem o_lookMiss (X : St w Z a0 EL y bytes maxL ret p l e R s m args below meth c T h sf k n) {pc pc' len : Nat} {L : Array Slot} {S : List Value} {i : Int32} {dflt : Int} {pairs : Array (Int × Int)} (hd : decode bytes pc = .ok (.lookupswitch dflt pairs, len)) (hso : (pairs.toList.zip (pairs.toList.drop 1)).all (fun (a, next) => a.1 < next.1) = true) (hf : pairs.find? (·.1 == i.toInt) = none) (hp : 0 ≤ (pc : Int) + dflt ∧ ((pc : Int) + dflt).toNat = pc') (kk : Go w Z EL C N Q p e s below T (mkF m pc' L S)) : Go w Z EL C N Q p e s below T (mkF m pc L (.int i :: S)) := by
  obtain ⟨hp0, rfl⟩ := hp
  obtain ⟨c1, vm0, k0, locs, X0, -⟩ := X
  obtain ⟨s₂, o, hs, r⟩ := kk
  exact ⟨s₂, o, X0.lookupswitchMiss c1.1 (g := mkF m pc L (.int i :: S)) rfl rfl (hb c1.2.1 hd) hso hf hp0 _ hs, r⟩
theorem o_tswIn (X : St w Z a0 EL y bytes maxL ret p l e R s m args below meth c T h sf k n) {pc pc' len : Nat} {L : Array Slot} {S : List Value} {i : Int32} {dflt low high : Int} {offs : Array Int} (hd : decode bytes pc = .ok (.tableswitch dflt low high offs, len)) (hin : ¬ (i.toInt < low ∨ i.toInt > high)) {off : Int} (hf : offs[(i.toInt - low).toNat]? = some off) (hp : 0 ≤ (pc : Int) + off ∧ ((pc : Int) + off).toNat = pc') (kk : Go w Z EL C N Q p e s below T (mkF m pc' L S)) : Go w Z EL C N Q p e s below T (mkF m pc L (.int i :: S)) := by
  obtain ⟨hp0, rfl⟩ := hp
  obtain ⟨c1, vm0, k0, locs, X0, -⟩ := X
  obtain ⟨s₂, o, hs, r⟩ := kk
  exact ⟨s₂, o, X0.tableswitchIn c1.1 (g := mkF m pc L (.int i :: S)) rfl rfl (hb c1.2.1 hd) hin hf hp0 _ hs, r⟩
theorem o_tswOut (X : St w Z a0 EL y bytes maxL ret p l e R s m args below meth c T h sf k n) {pc pc' len : Nat} {L : Array Slot} {S : List Value} {i : Int32} {dflt low high : Int} {offs : Array Int} (hd : decode bytes pc = .ok (.tableswitch dflt low high offs, len)) (hout : i.toInt < low ∨ i.toInt > high) (hp : 0 ≤ (pc : Int) + dflt ∧ ((pc : Int) + dflt).toNat = pc') (kk : Go w Z EL C N Q p e s below T (mkF m pc' L S)) : Go w Z EL C N Q p e s below T (mkF m pc L (.int i :: S)) := by
  obtain ⟨hp0, rfl⟩ := hp
  obtain ⟨c1, vm0, k0, locs, X0, -⟩ := X
  obtain ⟨s₂, o, hs, r⟩ := kk
  exact ⟨s₂, o, X0.tableswitchOut c1.1 (g := mkF m pc L (.int i :: S)) rfl rfl (hb c1.2.1 hd) hout hp0 _ hs, r⟩
theorem o_anewarray (X : St w Z a0 EL y bytes maxL ret p l e R s m args below meth c T h sf k n) {pc pc' : Nat} {L : Array Slot} {S : List Value} {idx : Nat} {K : String} {z : Int32} (hd : decode bytes pc = .ok (.anewarray idx, 3)) (hp : pc + 3 = pc') (w1 : (Cond.classLink y.cls idx K).before a0 Z = true) (w2 : (Cond.arrayOver (.object K)).before a0 Z = true) (hz : ¬ z < 0) {cap : Nat} (hcap : z.toNatClampNeg ≤ cap) (hb8 : cap * 8 ≤ 536870912) (hc : k + 1 ≤ R.cells) (hl : n + cap ≤ R.slots)
    (kk : ∀ T' h' a kA, a = h.size → Z.heap.size ≤ a → Ext h h' → Arv Z h' a kA (.object K) z [] .null → Ovr Z kA K → St w Z a0 EL y bytes maxL ret p l e R s m args below meth c T' h' (a :: sf) (k + 1) (n + cap) → Go w Z EL C N Q p e s below T' (mkF m pc' L (.ref a :: S))) : Go w Z EL C N Q p e s below T (mkF m pc L (.int z :: S)) := by
  subst hp
  obtain ⟨c1, vm0, k0, locs, X0, eT, hS, hk, hZ, hown, N, E, hw, hC, hsf⟩ := X
  obtain ⟨T', h', kA, X', e', E2, A2, O2, st⟩ := newR (s := s.setVm vm0) X0 c1.1 hZ hown w1 w2 eT (g := mkF m pc L (.int z :: S)) rfl (hb c1.2.1 hd) rfl hz hcap hb8 hc hl
  obtain ⟨s₂, o, hs, r⟩ := kk T' h' h.size kA rfl E.1 E2 (Arv.new A2 hz) O2 (St.made c1 X' e' hS hk hZ hown N E hw hC hsf E2 A2.lt)
  exact ⟨s₂, o, st _ hs, r⟩
theorem o_castore (X : St w Z a0 EL y bytes maxL ret p l e R s m args below meth c T h sf k n) {pc pc' : Nat} {L : Array Slot} {S : List Value} {a : Addr} {kA : ClassId} {z j x : Int32} {vs : List Value} {d : Value} (hd : decode bytes pc = .ok (.castore, 1)) (hp : pc + 1 = pc') (A : Arv Z h a kA .char z vs d) (i : Nat) (hj : j.toNatClampNeg = i) (hjz : ¬ j < 0 ∧ j < z) (hi : i < vs.length) (ha : Z.heap.size ≤ a) (ok : Ok Z EL h sf a)
    (kk : ∀ T' h', Wr h h' a i (.int (nar .char x)) → Arv Z h' a kA .char z (vs.set i (.int (nar .char x))) d → St w Z a0 EL y bytes maxL ret p l e R s m args below meth c T' h' sf k n → Go w Z EL C N Q p e s below T' (mkF m pc' L S)) : Go w Z EL C N Q p e s below T (mkF m pc L (.int x :: .int j :: .ref a :: S)) := by
  subst hp
  obtain ⟨c1, vm0, k0, locs, X0, eT, hS, hk, hZ, hown, N, E, hw, hC, hsf⟩ := X
  obtain ⟨cl, Ar, q1, q2, q3, q4, q5⟩ := A
  have hin := inb_of (j := j) q2 hjz
  obtain ⟨T', h', X', e', W, st⟩ := stC (s := s.setVm vm0) X0 c1.1 hZ eT Ar hin (g := mkF m pc L (.int x :: .int j :: .ref a :: S)) rfl rfl (hb c1.2.1 hd)
  have V := Arv.set Ar q1 q2 q3 q4 q5 (fits_nar_char x) W i hj hi
  obtain ⟨s₂, o, hs, r⟩ := kk T' h' (hj ▸ W) V (St.wrote c1 X' e' hS hk hZ hown N E hw hC hsf W ha ok)
  exact ⟨s₂, o, st _ hs, r⟩
theorem o_bastore (X : St w Z a0 EL y bytes maxL ret p l e R s m args below meth c T h sf k n) {pc pc' : Nat} {L : Array Slot} {S : List Value} {a : Addr} {kA : ClassId} {z j x : Int32} {vs : List Value} {d : Value} (hd : decode bytes pc = .ok (.bastore, 1)) (hp : pc + 1 = pc') (A : Arv Z h a kA .byte z vs d) (i : Nat) (hj : j.toNatClampNeg = i) (hjz : ¬ j < 0 ∧ j < z) (hi : i < vs.length) (ha : Z.heap.size ≤ a) (ok : Ok Z EL h sf a)
    (kk : ∀ T' h', Wr h h' a i (.int (nar .byte x)) → Arv Z h' a kA .byte z (vs.set i (.int (nar .byte x))) d → St w Z a0 EL y bytes maxL ret p l e R s m args below meth c T' h' sf k n → Go w Z EL C N Q p e s below T' (mkF m pc' L S)) : Go w Z EL C N Q p e s below T (mkF m pc L (.int x :: .int j :: .ref a :: S)) := by
  subst hp
  obtain ⟨c1, vm0, k0, locs, X0, eT, hS, hk, hZ, hown, N, E, hw, hC, hsf⟩ := X
  obtain ⟨cl, Ar, q1, q2, q3, q4, q5⟩ := A
  have hin := inb_of (j := j) q2 hjz
  obtain ⟨T', h', X', e', W, st⟩ := stB (s := s.setVm vm0) X0 c1.1 hZ eT Ar hin (g := mkF m pc L (.int x :: .int j :: .ref a :: S)) rfl rfl (hb c1.2.1 hd)
  have V := Arv.set Ar q1 q2 q3 q4 q5 (fits_nar_byte x) W i hj hi
  obtain ⟨s₂, o, hs, r⟩ := kk T' h' (hj ▸ W) V (St.wrote c1 X' e' hS hk hZ hown N E hw hC hsf W ha ok)
  exact ⟨s₂, o, st _ hs, r⟩
theorem o_aastore (X : St w Z a0 EL y bytes maxL ret p l e R s m args below meth c T h sf k n) {pc pc' : Nat} {L : Array Slot} {S : List Value} {a b : Addr} {kA : ClassId} {K : String} {z j : Int32} {vs : List Value} {d : Value} (hd : decode bytes pc = .ok (.aastore, 1)) (hp : pc + 1 = pc') (A : Arv Z h a kA (.object K) z vs d) (O : Ovr Z kA K) (I : Ins Z h b K true) (i : Nat) (hj : j.toNatClampNeg = i) (hjz : ¬ j < 0 ∧ j < z) (hi : i < vs.length) (ha : Z.heap.size ≤ a) (ok : Ok Z EL h sf a)
    (kk : ∀ T' h', Wr h h' a i (.ref b) → Arv Z h' a kA (.object K) z (vs.set i (.ref b)) d → St w Z a0 EL y bytes maxL ret p l e R s m args below meth c T' h' sf k n → Go w Z EL C N Q p e s below T' (mkF m pc' L S)) : Go w Z EL C N Q p e s below T (mkF m pc L (.ref b :: .int j :: .ref a :: S)) := by
  subst hp
  obtain ⟨c1, vm0, k0, locs, X0, eT, hS, hk, hZ, hown, N, E, hw, hC, hsf⟩ := X
  obtain ⟨cl, Ar, q1, q2, q3, q4, q5⟩ := A
  have hin := inb_of (j := j) q2 hjz
  obtain ⟨T', h', X', e', W, st⟩ := stR (s := s.setVm vm0) X0 c1.1 hZ eT Ar hin rfl (Sto.ofV Ar q1 O I) (g := mkF m pc L (.ref b :: .int j :: .ref a :: S)) rfl rfl (hb c1.2.1 hd)
  have V := Arv.set Ar q1 q2 q3 q4 q5 rfl W i hj hi
  obtain ⟨s₂, o, hs, r⟩ := kk T' h' (hj ▸ W) V (St.wrote c1 X' e' hS hk hZ hown N E hw hC hsf W ha ok)
  exact ⟨s₂, o, st _ hs, r⟩
theorem o_caload (X : St w Z a0 EL y bytes maxL ret p l e R s m args below meth c T h sf k n) {pc pc' : Nat} {L : Array Slot} {S : List Value} {a : Addr} {kA : ClassId} {z j : Int32} {vs : List Value} {d v : Value} (hd : decode bytes pc = .ok (.caload, 1)) (hp : pc + 1 = pc') (A : Arv Z h a kA .char z vs d) (hjz : ¬ j < 0 ∧ j < z) (hv : vs.getD j.toNatClampNeg d = v)
    (kk : Go w Z EL C N Q p e s below T (mkF m pc' L (v :: S))) : Go w Z EL C N Q p e s below T (mkF m pc L (.int j :: .ref a :: S)) := by
  subst hp
  obtain ⟨c1, vm0, k0, locs, X0, eT, hS, hk, hZ, hown, N, E, hw, hC, hsf⟩ := X
  obtain ⟨cl, Ar, q1, q2, q3, q4, q5⟩ := A
  have hin := inb_of (j := j) q2 hjz
  obtain ⟨s₂, o, hs, r⟩ := kk
  exact ⟨s₂, o, X0.caload c1.1 (j := j) (v := v) (by rw [eT]; exact Ar.1) (State.isArrayOf_alike hZ.alike Ar.2.1) Ar.2.2 hin (q4.at hin hv) (g := mkF m pc L (.int j :: .ref a :: S)) rfl rfl (hb c1.2.1 hd) _ hs, r⟩
theorem o_baload (X : St w Z a0 EL y bytes maxL ret p l e R s m args below meth c T h sf k n) {pc pc' : Nat} {L : Array Slot} {S : List Value} {a : Addr} {kA : ClassId} {z j : Int32} {vs : List Value} {d v : Value} (hd : decode bytes pc = .ok (.baload, 1)) (hp : pc + 1 = pc') (A : Arv Z h a kA .byte z vs d) (hjz : ¬ j < 0 ∧ j < z) (hv : vs.getD j.toNatClampNeg d = v)
    (kk : Go w Z EL C N Q p e s below T (mkF m pc' L (v :: S))) : Go w Z EL C N Q p e s below T (mkF m pc L (.int j :: .ref a :: S)) := by
  subst hp
  obtain ⟨c1, vm0, k0, locs, X0, eT, hS, hk, hZ, hown, N, E, hw, hC, hsf⟩ := X
  obtain ⟨cl, Ar, q1, q2, q3, q4, q5⟩ := A
  have hin := inb_of (j := j) q2 hjz
  obtain ⟨s₂, o, hs, r⟩ := kk
  exact ⟨s₂, o, X0.baloadBytes c1.1 (j := j) (v := v) (by rw [eT]; exact Ar.1) (State.isArrayOf_alike hZ.alike Ar.2.1) Ar.2.2 hin (q4.at hin hv) (g := mkF m pc L (.int j :: .ref a :: S)) rfl rfl (hb c1.2.1 hd) _ hs, r⟩
theorem o_aaload (X : St w Z a0 EL y bytes maxL ret p l e R s m args below meth c T h sf k n) {pc pc' : Nat} {L : Array Slot} {S : List Value} {a : Addr} {kA : ClassId} {K : String} {z j : Int32} {vs : List Value} {d v : Value} (hd : decode bytes pc = .ok (.aaload, 1)) (hp : pc + 1 = pc') (A : Arv Z h a kA (.object K) z vs d) (hjz : ¬ j < 0 ∧ j < z) (hv : vs.getD j.toNatClampNeg d = v)
    (kk : Go w Z EL C N Q p e s below T (mkF m pc' L (v :: S))) : Go w Z EL C N Q p e s below T (mkF m pc L (.int j :: .ref a :: S)) := by
  subst hp
  obtain ⟨c1, vm0, k0, locs, X0, eT, hS, hk, hZ, hown, N, E, hw, hC, hsf⟩ := X
  obtain ⟨cl, Ar, q1, q2, q3, q4, q5⟩ := A
  have hin := inb_of (j := j) q2 hjz
  obtain ⟨s₂, o, hs, r⟩ := kk
  exact ⟨s₂, o, X0.aaload c1.1 (j := j) (v := v) (by rw [eT]; exact Ar.1) (State.isArrayOf_alike hZ.alike Ar.2.1) rfl Ar.2.2 hin (q4.at hin hv) (g := mkF m pc L (.int j :: .ref a :: S)) rfl rfl (hb c1.2.1 hd) _ hs, r⟩
theorem o_arraylength (X : St w Z a0 EL y bytes maxL ret p l e R s m args below meth c T h sf k n) {pc pc' : Nat} {L : Array Slot} {S : List Value} {a : Addr} {kA : ClassId} {ty : FieldType} {z : Int32} {vs : List Value} {d : Value} (hd : decode bytes pc = .ok (.arraylength, 1)) (hp : pc + 1 = pc') (A : Arv Z h a kA ty z vs d)
    (kk : Go w Z EL C N Q p e s below T (mkF m pc' L (.int z :: S))) : Go w Z EL C N Q p e s below T (mkF m pc L (.ref a :: S)) := by
  subst hp
  obtain ⟨c1, vm0, k0, locs, X0, eT, hS, hk, hZ, hown, N, E, hw, hC, hsf⟩ := X
  obtain ⟨cl, Ar, q1, q2, q3, q4, q5⟩ := A
  obtain ⟨s₂, o, hs, r⟩ := kk
  refine ⟨s₂, o, X0.arraylength c1.1 (by rw [eT]; exact Ar.1) (State.isArrayOf_alike hZ.alike Ar.2.1) (g := mkF m pc L (.ref a :: S)) rfl rfl (hb c1.2.1 hd) _ ?_, r⟩
  rw [len_of q2 q3]; exact hs
theorem o_checkcast (X : St w Z a0 EL y bytes maxL ret p l e R s m args below meth c T h sf k n) {pc pc' : Nat} {L : Array Slot} {S : List Value} {idx : Nat} {K : String} {a : Addr} (hd : decode bytes pc = .ok (.checkcast idx, 3)) (hp : pc + 3 = pc') (w1 : (Cond.classLink y.cls idx K).before a0 Z = true) (F : Ins Z h a K true)
    (kk : ∀ T', St w Z a0 EL y bytes maxL ret p l e R s m args below meth c T' h sf k n → Go w Z EL C N Q p e s below T' (mkF m pc' L (.ref a :: S))) : Go w Z EL C N Q p e s below T (mkF m pc L (.ref a :: S)) := by
  subst hp
  obtain ⟨⟨hx, hby, c1⟩, vm0, k0, locs, X0, eT, hS, hk, hZ, hown, N, E, hw, hC, hsf⟩ := X
  obtain ⟨T', X', e', st⟩ := castY (s := s.setVm vm0) X0 hx hZ hown w1 eT F (g := mkF m pc L (.ref a :: S)) rfl rfl (hb hby hd)
  obtain ⟨s₂, o, hs, r⟩ := kk T' ⟨⟨hx, hby, c1⟩, vm0, k0, locs, X', e', hS, hk, hZ, hown, N, E, hw, hC, hsf⟩
  exact ⟨s₂, o, st _ hs, r⟩
theorem o_instanceof_y (X : St w Z a0 EL y bytes maxL ret p l e R s m args below meth c T h sf k n) {pc pc' : Nat} {L : Array Slot} {S : List Value} {idx : Nat} {K : String} {a : Addr} (hd : decode bytes pc = .ok (.instanceof idx, 3)) (hp : pc + 3 = pc') (w1 : (Cond.classLink y.cls idx K).before a0 Z = true) (F : Ins Z h a K true)
    (kk : ∀ T', St w Z a0 EL y bytes maxL ret p l e R s m args below meth c T' h sf k n → Go w Z EL C N Q p e s below T' (mkF m pc' L (.int 1 :: S))) : Go w Z EL C N Q p e s below T (mkF m pc L (.ref a :: S)) := by
  subst hp
  obtain ⟨⟨hx, hby, c1⟩, vm0, k0, locs, X0, eT, hS, hk, hZ, hown, N, E, hw, hC, hsf⟩ := X
  obtain ⟨T', X', e', st⟩ := instY (s := s.setVm vm0) X0 hx hZ hown w1 eT F (g := mkF m pc L (.ref a :: S)) rfl rfl (hb hby hd)
  obtain ⟨s₂, o, hs, r⟩ := kk T' ⟨⟨hx, hby, c1⟩, vm0, k0, locs, X', e', hS, hk, hZ, hown, N, E, hw, hC, hsf⟩
  exact ⟨s₂, o, st _ hs, r⟩
theorem o_instanceof_n (X : St w Z a0 EL y bytes maxL ret p l e R s m args below meth c T h sf k n) {pc pc' : Nat} {L : Array Slot} {S : List Value} {idx : Nat} {K D : String} {a : Addr} (hd : decode bytes pc = .ok (.instanceof idx, 3)) (hp : pc + 3 = pc') (w1 : (Cond.classLink y.cls idx K).before a0 Z = true) (E0 : Exa Z h a D) (F : ∃ c t, Z.vm.findClass D = some c ∧ Z.vm.findClass K = some t ∧ Z.vm.assignable c t = false)
    (kk : ∀ T', St w Z a0 EL y bytes maxL ret p l e R s m args below meth c T' h sf k n → Go w Z EL C N Q p e s below T' (mkF m pc' L (.int 0 :: S))) : Go w Z EL C N Q p e s below T (mkF m pc L (.ref a :: S)) := by
  subst hp
  obtain ⟨⟨hx, hby, c1⟩, vm0, k0, locs, X0, eT, hS, hk, hZ, hown, N, E, hw, hC, hsf⟩ := X
  obtain ⟨T', X', e', st⟩ := instNo (s := s.setVm vm0) X0 hx hZ hown w1 eT E0 F (g := mkF m pc L (.ref a :: S)) rfl rfl (hb hby hd)
  obtain ⟨s₂, o, hs, r⟩ := kk T' ⟨⟨hx, hby, c1⟩, vm0, k0, locs, X', e', hS, hk, hZ, hown, N, E, hw, hC, hsf⟩
  exact ⟨s₂, o, st _ hs, r⟩
theorem o_instanceof_null (X : St w Z a0 EL y bytes maxL ret p l e R s m args below meth c T h sf k n) {pc pc' : Nat} {L : Array Slot} {S : List Value} {idx : Nat} (hd : decode bytes pc = .ok (.instanceof idx, 3)) (hp : pc + 3 = pc')
    (kk : Go w Z EL C N Q p e s below T (mkF m pc' L (.int 0 :: S))) : Go w Z EL C N Q p e s below T (mkF m pc L (.null :: S)) := by
  subst hp
  obtain ⟨⟨hx, hby, c1⟩, vm0, k0, locs, X0, -⟩ := X
  obtain ⟨s₂, o, hs, r⟩ := kk
  exact ⟨s₂, o, X0.instanceofNull hx (g := mkF m pc L (.null :: S)) rfl rfl (hb hby hd) _ hs, r⟩
theorem o_checkcast_null (X : St w Z a0 EL y bytes maxL ret p l e R s m args below meth c T h sf k n) {pc pc' : Nat} {L : Array Slot} {S : List Value} {idx : Nat} (hd : decode bytes pc = .ok (.checkcast idx, 3)) (hp : pc + 3 = pc')
    (kk : Go w Z EL C N Q p e s below T (mkF m pc' L (.null :: S))) : Go w Z EL C N Q p e s below T (mkF m pc L (.null :: S)) := by
  subst hp
  obtain ⟨⟨hx, hby, c1⟩, vm0, k0, locs, X0, -⟩ := X
  obtain ⟨s₂, o, hs, r⟩ := kk
  exact ⟨s₂, o, X0.checkcastNull hx (g := mkF m pc L (.null :: S)) rfl rfl (hb hby hd) _ hs, r⟩
theorem o_ldcI (X : St w Z a0 EL y bytes maxL ret p l e R s m args below meth c T h sf k n) {pc pc' : Nat} {L : Array Slot} {S : List Value} {idx : Nat} {v : Int32} (hd : decode bytes pc = .ok (.ldc idx, 2)) (hp : pc + 2 = pc') (w1 : (Cond.constant y.cls idx v).before a0 Z = true)
    (kk : Go w Z EL C N Q p e s below T (mkF m pc' L (.int v :: S))) : Go w Z EL C N Q p e s below T (mkF m pc L S) := by
  subst hp
  obtain ⟨⟨hx, hby, c1⟩, vm0, k0, locs, X0, eT, hS, hk, hZ, hown, -⟩ := X
  obtain ⟨s₂, o, hs, r⟩ := kk
  exact ⟨s₂, o, X0.ldcInt hx hown (mvT (s := s.setVm vm0) hZ w1) (g := mkF m pc L S) rfl (hb hby hd) _ hs, r⟩
/-- a String constant, its text not read -/
theorem o_ldcO (X : St w Z a0 EL y bytes maxL ret p l e R s m args below meth c T h sf k n) (hwt : w = true) {pc pc' : Nat} {L : Array Slot} {S : List Value} {idx nn : Nat} {text : String} (hd : decode bytes pc = .ok (.ldc idx, 2)) (hp : pc + 2 = pc') (w1 : (Cond.stringLink y.cls idx text).before a0 Z = true) (wS : ∀ a ∈ Bundle.stringAtoms, a.before a0 Z = true) (hn : 4 * text.toList.length ≤ nn) (hbig : nn ≤ 536870912) (hc : k + 2 ≤ R.cells) (hl : n + (nn + 4) ≤ R.slots)
    (kk : ∀ T' h' a, Ext h h' → St w Z a0 EL y bytes maxL ret p l e R s m args below meth c T' h' sf (k + 2) (n + (nn + 4)) → Go w Z EL C N Q p e s below T' (mkF m pc' L (.ref a :: S))) : Go w Z EL C N Q p e s below T (mkF m pc L S) := by
  subst hp
  obtain ⟨c1, vm0, k0, locs, X0, eT, hS, hk, hZ, hown, N, E, hw, hC, hsf⟩ := X
  obtain ⟨a, T', h', k1, X', e', E2, hS', hk', hZ', hown', hC', -, st⟩ := ldcOH X0 c1.1 hZ hown w1 wS eT hS hk c1.2.2.2.2.2.2 hC.1 (g := mkF m pc L S) rfl (hb c1.2.1 hd) hn hbig hc hl
  obtain ⟨s₂, o, hs, r⟩ := kk T' h' a E2 ⟨c1, T'.vm, k1, locs, X', e', hS', hk', hZ', hown', N, ⟨Nat.le_trans E.1 E2.1, fun a q r => E2.2 _ _ (E.2 _ _ r)⟩, (fun q => by rw [hwt] at q; cases q), hC.trans hC', fun x hx => ⟨Nat.lt_of_lt_of_le (hsf x hx).1 E2.1, hC'.safe (hsf x hx).1 (hsf x hx).2⟩⟩
  exact ⟨s₂, o, st _ hs, r⟩
/-- a String constant whose text is read -/
theorem o_ldcT (X : St w Z a0 EL y bytes maxL ret p l e R s m args below meth c T h sf k n) (hwt : w = true) {pc pc' : Nat} {L : Array Slot} {S : List Value} {idx nn : Nat} {text : String} (hd : decode bytes pc = .ok (.ldc idx, 2)) (hp : pc + 2 = pc') (w1 : (Cond.stringLink y.cls idx text).before a0 Z = true) (wS : ∀ a ∈ Bundle.stringAtoms, a.before a0 Z = true) (hmem : (y.cls, idx) ∈ EL) {vs : List Value} {z : Int32} (ht : (∀ c ∈ text.toList, c.toNat < 256) ∧ text.toList.map (fun c => Value.int (Jvm.Lit.byteI c.toNat.toUInt16)) = vs) (hz : ¬ z < 0) (hvl : z.toNatClampNeg = vs.length) (hn : 4 * text.toList.length ≤ nn) (hbig : nn ≤ 536870912) (hc : k + 2 ≤ R.cells) (hl : n + (nn + 4) ≤ R.slots)
    (kk : ∀ T' h' a b kA, Ext h h' → Exa Z h' a "java/lang/String" → Fld Z h' a "java/lang/String" "coder" "B" (.int 0) → Fld Z h' a "java/lang/String" "value" "[B" (.ref b) → Arv Z h' b kA .byte z vs (.int 0) → (∀ x ∈ sf, x ≠ a ∧ x ≠ b) → St w Z a0 EL y bytes maxL ret p l e R s m args below meth c T' h' sf (k + 2) (n + (nn + 4)) → Go w Z EL C N Q p e s below T' (mkF m pc' L (.ref a :: S))) : Go w Z EL C N Q p e s below T (mkF m pc L S) := by
  subst hp
  obtain ⟨c1, vm0, k0, locs, X0, eT, hS, hk, hZ, hown, N, E, hw, hC, hsf⟩ := X
  obtain ⟨a, T', h', k1, b, kA, X', e', E2, hS', hk', hZ', hown', hE, hF1, hF2, hA, -, -, hC', -, hne, st⟩ := ldcCH X0 c1.1 hZ hown w1 wS eT hS hk c1.2.2.2.2.2.2 hmem hC.1 ht hz hvl (g := mkF m pc L S) rfl (hb c1.2.1 hd) hn hbig hc hl
  have hsf' : ∀ x ∈ sf, x < h'.size ∧ Safe Z EL T'.vm h' x := fun x hx => ⟨Nat.lt_of_lt_of_le (hsf x hx).1 E2.1, hC'.safe (hsf x hx).1 (hsf x hx).2⟩
  obtain ⟨s₂, o, hs, r⟩ := kk T' h' a b kA E2 hE hF1 hF2 hA (fun x hx => hne x (hsf' x hx).2) ⟨c1, T'.vm, k1, locs, X', e', hS', hk', hZ', hown', N, ⟨Nat.le_trans E.1 E2.1, fun a q r => E2.2 _ _ (E.2 _ _ r)⟩, (fun q => by rw [hwt] at q; cases q), hC.trans hC', hsf'⟩
  exact ⟨s₂, o, st _ hs, r⟩
theorem o_initO (X : St w Z a0 EL y bytes maxL ret p l e R s m args below meth c T h sf k n) {pc pc' : Nat} {L : Array Slot} {S : List Value} {idx : Nat} {a : Addr} (hd : decode bytes pc = .ok (.invokespecial idx, 3)) (hp : pc + 3 = pc') (w1 : (Cond.methodLink y.cls idx Lib.objectInit).before a0 Z = true) (w2 : (Cond.instanceMethod Lib.objectInit).before a0 Z = true) (w3 : (Cond.code Lib.objectInit ⟨#[0xb1]⟩ 1 none).before a0 Z = true) (hsz : L.size = maxL) (hf : 1 ≤ R.frames) (hl : (S.map fun v => v.category).sum + 12 ≤ R.locals)
    (kk : ∀ T', St w Z a0 EL y bytes maxL ret p l e R s m args below meth c T' h sf k n → Go w Z EL C N Q p e s below T' (mkF m pc' L S)) : Go w Z EL C N Q p e s below T (mkF m pc L (.ref a :: S)) := by
  subst hp
  obtain ⟨c1, vm0, k0, locs, X0, eT, hS, hk, hZ, hown, N, E, hw, hC, hsf⟩ := X
  obtain ⟨T', X', e', st⟩ := initO (s := s.setVm vm0) X0 c1.1 hZ hown w1 w2 w3 eT (g := mkF m pc L (.ref a :: S)) rfl (hsz.trans c1.2.2.1.symm) rfl (hb c1.2.1 hd) hf (W := (S.map fun v => v.category).sum) (by show 2 * 0 + _ ≤ _; omega) hl
  obtain ⟨s₂, o, hs, r⟩ := kk T' ⟨c1, vm0, k0, locs, X', e', hS, hk, hZ, hown, N, E, hw, hC, hsf⟩
  exact ⟨s₂, o, st _ hs, r⟩
theorem EndAt.mono {o : Outcome} {t : State} {L : List Loc} {k1 n1 : Nat} (q : EndAt w s o t L k n) (hk : k ≤ k1) (hn : n ≤ n1) : EndAt w s o t L k1 n1 := by
  cases w
  · exact (show FrameEnd s o t L k1 n1 from ⟨(show FrameEnd s o t L k n from q).1, (show FrameEnd s o t L k n from q).2.1, (show FrameEnd s o t L k n from q).2.2.mono hk hn⟩)
  · obtain ⟨a, b, d, f⟩ := (show ReturnedEndW s o t L k n from q)
    exact (show ReturnedEndW s o t L k1 n1 from ⟨a, b, d, f.mono hk hn⟩)
/-- the way out, whatever is returned -/
theorem leaveG (X : St w Z a0 EL y bytes maxL ret p l e R s m args below meth c T h sf k n) {v : Option Value} {g : JFrame} (hv : ret = none → v = none) (hC : k ≤ C) (hN : n ≤ N) (q : ∀ P : Addr → Prop, (∀ x ∈ sf, P x) → Q v h P)
    (f : ∀ (vm0 : Vm) (locs : List Loc) (fs : List Frame), Stand p l e R (s.setVm vm0) m args below meth c T locs k n → p.tables.exec = Jvm.exec → meth.sig.returnType = ret → c.code = bytes → (∀ (f : JFrame) (acts : List Action), f.method = m → f.locked = none → f.entered = [] → (doReturn e (T.setTop f) acts v).1 = T.setFrames fs) → Steps p.tables e below (T.setTop g) (T.setFrames fs)) : Go w Z EL C N Q p e s below T g := by
  obtain ⟨⟨hx, hby, hml, hret, hlk, hnm, hEW⟩, vm0, k0, locs, X0, eT, hS, hk, hZ, hown, NN, E, hw, hCH, hsf⟩ := X
  have A := CHv.at X0 hZ hEW hCH.1
  have hq : Q v T.heap (Safe Z EL T.vm T.heap) := by
    rw [eT]; exact q _ fun x hx => A.safe (hsf x hx).1 (hsf x hx).2
  have hCe : CHr Z EL s.vm s.heap T.vm T.heap := by rw [eT]; exact hCH.trans A
  have hE : Ext Z.heap T.heap := by rw [eT]; exact E
  cases w with
  | true =>
    obtain ⟨fs, hr, hrun, hended, hW⟩ := X0.leaveW hS (by rw [eT]; exact hk) (v := v) (fun z => hv (hret.symm.trans z)) hlk
    exact ⟨_, _, f vm0 locs fs X0 hx hret hby hr, hrun, hended, v, locs, rfl, ⟨NN, hE, hCe, hq⟩, EndAt.mono (w := true) hW hC hN⟩
  | false =>
    have e0 := (hw rfl).1
    subst e0
    obtain ⟨fs, hr, hrun, hended, hW, hsame⟩ := Stand.leave (s := s) X0 (v := v) (fun z => hv (hret.symm.trans z)) hlk
    exact ⟨_, _, f s.vm locs fs X0 hx hret hby hr, hrun, hended, v, locs, rfl, ⟨NN, hE, hCe, hq⟩, EndAt.mono (w := false) (show FrameEnd s _ _ _ _ _ from ⟨⟨v, rfl⟩, hW, hsame⟩) hC hN⟩
theorem o_return (X : St w Z a0 EL y bytes maxL none p l e R s m args below meth c T h sf k n) {pc : Nat} {L : Array Slot} (hd : decode bytes pc = .ok (.return_, 1)) (hC : k ≤ C) (hN : n ≤ N) (q : ∀ P : Addr → Prop, (∀ x ∈ sf, P x) → Q none h P) : Go w Z EL C N Q p e s below T (mkF m pc L []) :=
  leaveG X (v := none) (fun _ => rfl) hC hN q fun vm0 locs fs X0 hx hret hby hr => X0.returnOut hx hret (hb hby hd) hr
theorem o_areturn (X : St w Z a0 EL y bytes maxL ret p l e R s m args below meth c T h sf k n) {pc : Nat} {L : Array Slot} {v : Value} {S : List Value} {t : FieldType} (hd : decode bytes pc = .ok (.areturn, 1)) (ht : ret = some t) (htr : t.isReference = true) (hv : v.isRef = true) (hC : k ≤ C) (hN : n ≤ N) (q : ∀ P : Addr → Prop, (∀ x ∈ sf, P x) → Q (some v) h P) : Go w Z EL C N Q p e s below T (mkF m pc L (v :: S)) :=
  leaveG X (v := some v) (fun z => by rw [ht] at z; cases z) hC hN q fun vm0 locs fs X0 hx hret hby hr => retOut X0 hx (hret.trans ht) (by cases t <;> cases v <;> first | rfl | (simp [FieldType.isReference] at htr; done) | (simp [Value.isRef] at hv; done)) (Or.inr (Or.inr (Or.inr (Or.inr ⟨rfl, htr, hv⟩)))) (hb hby hd) hr
theorem o_ireturn (X : St w Z a0 EL y bytes maxL ret p l e R s m args below meth c T h sf k n) {pc : Nat} {L : Array Slot} {x v : Int32} {S : List Value} {t : FieldType} (hd : decode bytes pc = .ok (.ireturn, 1)) (ht : ret = some t) (htr : t = .boolean ∨ t = .byte ∨ t = .char ∨ t = .short) (hv : nar t x = v) (hC : k ≤ C) (hN : n ≤ N) (q : ∀ P : Addr → Prop, (∀ x ∈ sf, P x) → Q (some (.int v)) h P) : Go w Z EL C N Q p e s below T (mkF m pc L (.int x :: S)) := by
  subst hv
  exact leaveG X (v := some (.int (nar t x))) (fun z => by rw [ht] at z; cases z) hC hN q fun vm0 locs fs X0 hx hret hby hr => retN X0 hx (hret.trans ht) htr (hb hby hd) hr
theorem o_ireturnI (X : St w Z a0 EL y bytes maxL ret p l e R s m args below meth c T h sf k n) {pc : Nat} {L : Array Slot} {x : Int32} {S : List Value} (hd : decode bytes pc = .ok (.ireturn, 1)) (ht : ret = some .int) (hC : k ≤ C) (hN : n ≤ N) (q : ∀ P : Addr → Prop, (∀ x ∈ sf, P x) → Q (some (.int x)) h P) : Go w Z EL C N Q p e s below T (mkF m pc L (.int x :: S)) :=
  leaveG X (v := some (.int x)) (fun z => by rw [ht] at z; cases z) hC hN q fun vm0 locs fs X0 hx hret hby hr => retOut X0 hx (hret.trans ht) rfl (Or.inl ⟨rfl, Or.inl rfl, x, rfl⟩) (hb hby hd) hr
theorem o_lreturn (X : St w Z a0 EL y bytes maxL ret p l e R s m args below meth c T h sf k n) {pc : Nat} {L : Array Slot} {x : Int64} {S : List Value} (hd : decode bytes pc = .ok (.lreturn, 1)) (ht : ret = some .long) (hC : k ≤ C) (hN : n ≤ N) (q : ∀ P : Addr → Prop, (∀ x ∈ sf, P x) → Q (some (.long x)) h P) : Go w Z EL C N Q p e s below T (mkF m pc L (.long x :: S)) :=
  leaveG X (v := some (.long x)) (fun z => by rw [ht] at z; cases z) hC hN q fun vm0 locs fs X0 hx hret hby hr => retOut X0 hx (hret.trans ht) rfl (Or.inr (Or.inl ⟨rfl, rfl, x, rfl⟩)) (hb hby hd) hr
/-- what a callee's contract says of the point behind the call -/
def PostC (Z : State) (EL : List (String × Nat)) (rm : Room) (Q' : Option Value → Heap → (Addr → Prop) → Prop) (vmB : Vm) (h : Heap) (A : Pt) (v : Option Value) (B : Pt) : Prop :=
  ∃ L, (Fr Z.heap.size L ∧ Ext Z.heap B.U.heap ∧ Q' v B.U.heap (Safe Z EL B.U.vm B.U.heap)) ∧ B.locs = A.locs ++ L ∧ B.cells = A.cells + rm.cells ∧ B.slots = A.slots + rm.slots ∧ CHr Z EL vmB h B.U.vm B.U.heap
def PreC (as : Array Value) (rm R : Room) (h : Heap) (A : Pt) (a : Array Value) : Prop := a = as ∧ A.U.heap = h ∧ A.cells + rm.cells ≤ R.cells ∧ A.slots + rm.slots ≤ R.slots
theorem Ct.backW {vm0 : Vm} {len W : Nat} (hC : Ct true Z a0 EL l y bytes maxL ret rm as h sf0 Q) (hext : Ext Z.heap h) (hZ : Z.Warmed39 vm0) (wc : (Cond.code y bytes maxL ret).before a0 Z = true) (wz : (Cond.initialized y.cls).before a0 Z = true) (hf : rm.frames + 1 ≤ R.frames) (hl : W + (maxL + 11) + rm.locals ≤ R.locals) (hEL : EW Z a0 EL) (H : CHv Z EL vm0 h) (hsf : ∀ x ∈ sf0, x < h.size ∧ Safe Z EL vm0 h x) :
    BackS l R p e below (s.setVm vm0) args y len W (PreC as rm R h) (fun A _ v B => PostC Z EL rm Q vm0 h A v B) :=
  BackS.of_freeW (bytes := bytes) (maxL := maxL) (ret := ret) (E := fun _ first o t L k n => k = rm.cells ∧ n = rm.slots ∧ (∃ v, o = .returned v ∧ Fr Z.heap.size L ∧ Ext Z.heap t.heap ∧ Q v t.heap (Safe Z EL t.vm t.heap)) ∧ CHr Z EL first.vm first.heap t.vm t.heap) (hC [] hEL hext) hf hl
    (fun m meth c A a Y hp => have hU : Z.Warmed39 A.U.vm := wtrans (s := s.setVm vm0) hZ Y.warmed
      ⟨by show (Cond.and _ .tt).before a A.U = true; rw [Cond.before_and, mv hU wc]; rfl, mv hU wc, mv hU wz, hp.2.2.1, hp.2.2.2⟩)
    (fun m meth c A a g mk Y hp => ⟨hp.1, wtrans (s := s.setVm vm0) hZ Y.warmed, hp.2.1, (CHv.at Y hZ hEL H).1, fun x hx => ⟨(hsf x hx).1, (CHv.at Y hZ hEL H).safe (hsf x hx).1 (hsf x hx).2⟩⟩) (fun _ _ _ _ _ _ _ _ _ => trivial)
    (fun _ _ _ _ ⟨v, L, h1, ⟨n1, n2, n3, n4⟩, h4⟩ => ⟨L, _, _, h4, rfl, rfl, ⟨v, h1, n1, n2, n4⟩, n3⟩)
    (fun m meth c A a g mk v t L k n Y hp _ _ ⟨e1, e2, ⟨v', e3, e4⟩, e5⟩ => by
      cases e3; subst e1 e2
      refine ⟨L, e4, rfl, rfl, rfl, (CHv.at Y hZ hEL H).trans ?_⟩
      rw [← hp.2.1]; exact e5)
theorem Ct.backP {len W : Nat} (hC : Ct false Z a0 EL l y bytes maxL ret rm as h sf0 Q) (hext : Ext Z.heap h) (hZ : Z.Warmed39 s.vm) (wc : (Cond.code y bytes maxL ret).before a0 Z = true) (wz : (Cond.initialized y.cls).before a0 Z = true) (hf : rm.frames + 1 ≤ R.frames) (hl : W + (maxL + 11) + rm.locals ≤ R.locals) (hEL : EW Z a0 EL) (H : CHv Z EL s.vm h) (hsf : ∀ x ∈ sf0, x < h.size ∧ Safe Z EL s.vm h x) :
    Back l R p e below s args y len W (PreC as rm R h) (fun A _ v B => PostC Z EL rm Q s.vm h A v B) :=
  Back.of_free (bytes := bytes) (maxL := maxL) (ret := ret) (E := fun _ first o t L k n => k = rm.cells ∧ n = rm.slots ∧ (∃ v, o = .returned v ∧ Fr Z.heap.size L ∧ Ext Z.heap t.heap ∧ Q v t.heap (Safe Z EL t.vm t.heap)) ∧ CHr Z EL first.vm first.heap t.vm t.heap) (hC [] hEL hext) hf hl
    (fun m meth c A a Y hp => have hU : Z.Warmed39 A.U.vm := wtrans hZ Y.warmed
      ⟨by show (Cond.and _ .tt).before a A.U = true; rw [Cond.before_and, mv hU wc]; rfl, mv hU wc, mv hU wz, hp.2.2.1, hp.2.2.2⟩)
    (fun m meth c A a g mk Y hp => ⟨hp.1, wtrans hZ Y.warmed, hp.2.1, (CHv.at (vm0 := s.vm) Y hZ hEL H).1, fun x hx => ⟨(hsf x hx).1, (CHv.at (vm0 := s.vm) Y hZ hEL H).safe (hsf x hx).1 (hsf x hx).2⟩⟩) (fun _ _ _ _ _ _ _ _ _ => trivial)
    (fun _ _ _ _ ⟨v, L, h1, ⟨n1, n2, n3, n4⟩, h4⟩ => ⟨L, _, _, h4, rfl, rfl, ⟨v, h1, n1, n2, n4⟩, n3⟩)
    (fun m meth c A a g mk v t L k n Y hp _ _ ⟨e1, e2, ⟨v', e3, e4⟩, e5⟩ => by
      cases e3; subst e1 e2
      refine ⟨L, e4, rfl, rfl, rfl, (CHv.at (vm0 := s.vm) Y hZ hEL H).trans ?_⟩
      rw [← hp.2.1]; exact e5)
/-- what is handed on behind a call -/
def After (w : Bool) (Z : State) (a0 : Array Value) (EL : List (String × Nat)) (y : MethodName) (bytes : ByteArray) (maxL : Nat) (ret : Option FieldType) (p : Program) (l : Launch) (e : Env) (R : Room) (s : State) (m : MethodId) (args : Array Value) (below : List Frame) (meth : Method) (c : Code) (sf : List Addr) (k n : Nat) (Q' : Option Value → Heap → (Addr → Prop) → Prop) (v : Option Value) (T' : State) : Prop :=
  ∃ (h' : Heap) (S : Addr → Prop), Q' v h' S ∧ ∀ xs : List Addr, (∀ x ∈ xs, x < h'.size ∧ S x) → St w Z a0 EL y bytes maxL ret p l e R s m args below meth c T' h' (xs ++ sf) k n
theorem After.wide {vm0 : Vm} {k0 : Nat} {locs : List Loc} {v : Option Value} {Q' : Option Value → Heap → (Addr → Prop) → Prop} {B : Pt} (c1 : p.tables.exec = Jvm.exec ∧ c.code = bytes ∧ c.maxLocals = maxL ∧ meth.sig.returnType = ret ∧ meth.locks = false ∧ meth.name = y.name ∧ EW Z a0 EL)
    (eT : T.heap = h) (hS : s.Since vm0 k0) (hk : k0 ≤ h.size) (hZ : Z.Warmed39 vm0) (hown : vm0.findClass y.cls = some m.cls) (N : Fr Z.heap.size locs) (hC : CHr Z EL s.vm s.heap vm0 h) (hsf : ∀ x ∈ sf, x < h.size ∧ Safe Z EL vm0 h x) {vm1 : Vm}
    (X' : Stand p l e R ((s.setVm vm0).setVm B.U.vm) m args below meth c B.U B.locs B.cells B.slots) (h2 : (s.setVm vm0).Since B.U.vm B.U.heap.size) (gr : T.heap.size ≤ B.U.heap.size) (post : PostC Z EL rm Q' vm0 h ⟨T.setVm vm1, locs, k, n⟩ v B) : After true Z a0 EL y bytes maxL ret p l e R s m args below meth c sf (k + rm.cells) (n + rm.slots) Q' v B.U := by
  obtain ⟨L, ⟨q1, q2, q3⟩, q4, q5, q6, q7⟩ := post
  obtain ⟨Y, hS2, hZ2, hown2⟩ := rebS hS hk X' h2 (eT ▸ gr) hZ hown
  refine ⟨_, _, q3, fun xs hxs => ⟨c1, B.U.vm, B.U.heap.size, B.locs, ?_, rfl, hS2, Nat.le_refl _, hZ2, hown2, ?_, q2, fun q => Bool.noConfusion q, hC.trans q7, fun x hx => ?_⟩⟩
  · rw [q5, q6] at Y; exact Y
  · rw [q4]; exact N.app q1
  · rcases List.mem_append.mp hx with hx | hx
    · exact hxs x hx
    · exact ⟨Nat.lt_of_lt_of_le (hsf x hx).1 q7.2.1, q7.safe (hsf x hx).1 (hsf x hx).2⟩
theorem After.plain {locs : List Loc} {k0 : Nat} {v : Option Value} {Q' : Option Value → Heap → (Addr → Prop) → Prop} {B : Pt} (hE0 : EL = []) (c1 : p.tables.exec = Jvm.exec ∧ c.code = bytes ∧ c.maxLocals = maxL ∧ meth.sig.returnType = ret ∧ meth.locks = false ∧ meth.name = y.name ∧ EW Z a0 EL)
    (hS : s.Since s.vm k0) (hk : k0 ≤ h.size) (hZ : Z.Warmed39 s.vm) (hown : s.vm.findClass y.cls = some m.cls) (N : Fr Z.heap.size locs) (hC : CHr Z EL s.vm s.heap s.vm h) (hsf : ∀ x ∈ sf, x < h.size ∧ Safe Z EL s.vm h x) {vm1 : Vm}
    (X' : Stand p l e R s m args below meth c B.U B.locs B.cells B.slots) (post : PostC Z EL rm Q' s.vm h ⟨T.setVm vm1, locs, k, n⟩ v B) : After false Z a0 EL y bytes maxL ret p l e R s m args below meth c sf (k + rm.cells) (n + rm.slots) Q' v B.U := by
  obtain ⟨L, ⟨q1, q2, q3⟩, q4, q5, q6, q7⟩ := post
  have sz : h.size ≤ B.U.heap.size := q7.2.1
  subst hE0
  refine ⟨_, _, q3, fun xs hxs => ⟨c1, s.vm, k0, B.locs, ?_, rfl, hS, Nat.le_trans hk sz, hZ, hown, ?_, q2, fun q => ⟨rfl, rfl⟩, ⟨fun p hp => (nomatch hp), Nat.le_trans hC.2.1 sz, fun y ⟨p, hp, _⟩ => (nomatch hp)⟩, fun x hx => ⟨?_, fun ⟨p, hp, _⟩ => (nomatch hp)⟩⟩⟩
  · rw [q5, q6] at X'; exact X'
  · rw [q4]; exact N.app q1
  · rcases List.mem_append.mp hx with hx | hx
    · exact (hxs x hx).1
    · exact Nat.lt_of_lt_of_le (hsf x hx).1 sz
theorem o_static (X : St w Z a0 EL y bytes maxL ret p l e R s m args below meth c T h sf k n) {pc pc' : Nat} {L : Array Slot} {rest : List Value} {idx : Nat} {z : MethodName} {bz : ByteArray} {mz : Nat} {rz : Option FieldType} {Q' : Option Value → Heap → (Addr → Prop) → Prop} (hd : decode bytes pc = .ok (.invokestatic idx, 3)) (hp : pc + 3 = pc')
    (w1 : (Cond.methodLink y.cls idx z).before a0 Z = true) (w2 : (Cond.static z).before a0 Z = true) (w3 : (Cond.initialized z.cls).before a0 Z = true) (w4 : (Cond.code z bz mz rz).before a0 Z = true) (hy : z.cls ≠ "java/lang/invoke/MethodHandle" ∧ z.cls ≠ "java/lang/invoke/VarHandle")
    (hC' : Ct w Z a0 EL l z bz mz rz rm as h sf0 Q') (hok : ∀ x ∈ sf0, x < h.size ∧ Ok Z EL h sf x) (argsL : List Value) (hargs : argsL.toArray = as) {S0 : List Value} (hst : S0 = argsL.reverse ++ rest) {ps : List FieldType} {rr : Option FieldType} (hpd : parseMethodDescriptor z.desc = some ⟨ps, rr⟩) (hlen : argsL.length = ps.length) (hsz : L.size = maxL)
    (hf : rm.frames + 1 ≤ R.frames) (hl : (rest.map fun v => v.category).sum + (mz + 11) + rm.locals ≤ R.locals) (hc : k + rm.cells ≤ R.cells) (hs : n + rm.slots ≤ R.slots)
    (kk : ∀ (v : Option Value) (T' : State), After w Z a0 EL y bytes maxL ret p l e R s m args below meth c sf (k + rm.cells) (n + rm.slots) Q' v T' → Go w Z EL C N Q p e s below T' (mkF m pc' L (v.toList ++ rest))) : Go w Z EL C N Q p e s below T (mkF m pc L S0) := by
  subst hp hargs hst
  obtain ⟨c1, vm0, k0, locs, X0, eT, hS, hk, hZ, hown, NN, E, hw, hC, hsf⟩ := X
  have hso : ∀ x ∈ sf0, x < h.size ∧ Safe Z EL vm0 h x := fun x hx => ⟨(hok x hx).1, (hok x hx).2.safe hZ.alike hsf⟩
  cases w with
  | true =>
    obtain ⟨v, vm1, B, -, X', h2, gr, post, st⟩ := callSS (s := s.setVm vm0) X0 c1.1 hown (mvT (s := s.setVm vm0) hZ w1) (mvT (s := s.setVm vm0) hZ w2) (mvT (s := s.setVm vm0) hZ w3) (mvT (s := s.setVm vm0) hZ w4) hy (hC'.backW E hZ w4 w3 hf hl c1.2.2.2.2.2.2 hC.1 hso) (g := mkF m pc L (argsL.reverse ++ rest)) rfl (hsz.trans c1.2.2.1.symm) (lenOf hpd hlen) rfl (by show 2 * 0 + _ ≤ _; omega) (hb c1.2.1 hd) (fun _ _ => ⟨rfl, eT, hc, hs⟩)
    obtain ⟨s₂, o, hs, r⟩ := kk v B.U (After.wide c1 eT hS hk hZ hown NN hC hsf X' h2 gr post)
    exact ⟨s₂, o, st.trans hs, r⟩
  | false =>
    obtain ⟨e0, hE0⟩ := hw rfl
    subst e0
    obtain ⟨v, vm1, B, -, X', post, st⟩ := Jvm.LawKit.callS (s := s) X0 c1.1 hown (mvT hZ w1) (mvT hZ w2) (mvT hZ w3) (mvT hZ w4) hy (hC'.backP E hZ w4 w3 hf hl c1.2.2.2.2.2.2 hC.1 hso) (g := mkF m pc L (argsL.reverse ++ rest)) rfl (hsz.trans c1.2.2.1.symm) (lenOf hpd hlen) rfl (by show 2 * 0 + _ ≤ _; omega) (hb c1.2.1 hd) (fun _ _ => ⟨rfl, eT, hc, hs⟩)
    obtain ⟨s₂, o, hs, r⟩ := kk v B.U (After.plain (T := T) hE0 c1 hS hk hZ hown NN hC hsf X' post)
    exact ⟨s₂, o, st _ hs, r⟩
theorem o_special (X : St w Z a0 EL y bytes maxL ret p l e R s m args below meth c T h sf k n) {pc pc' : Nat} {L : Array Slot} {rest : List Value} {idx : Nat} {z : MethodName} {bz : ByteArray} {mz : Nat} {Q' : Option Value → Heap → (Addr → Prop) → Prop} {a : Addr} (hd : decode bytes pc = .ok (.invokespecial idx, 3)) (hp : pc + 3 = pc') (hz : z.name = "<init>")
    (w1 : (Cond.methodLink y.cls idx z).before a0 Z = true) (w2 : (Cond.instanceMethod z).before a0 Z = true) (w3 : (Cond.initialized z.cls).before a0 Z = true) (w4 : (Cond.code z bz mz none).before a0 Z = true) (hy : z.cls ≠ "java/lang/invoke/MethodHandle" ∧ z.cls ≠ "java/lang/invoke/VarHandle")
    (hC' : Ct w Z a0 EL l z bz mz none rm as h sf0 Q') (hok : ∀ x ∈ sf0, x < h.size ∧ Ok Z EL h sf x) (argsL : List Value) (hargs : (.ref a :: argsL).toArray = as) {S0 : List Value} (hst : S0 = argsL.reverse ++ .ref a :: rest) {ps : List FieldType} {rr : Option FieldType} (hpd : parseMethodDescriptor z.desc = some ⟨ps, rr⟩) (hlen : argsL.length = ps.length) (hsz : L.size = maxL)
    (hf : rm.frames + 1 ≤ R.frames) (hl : (rest.map fun v => v.category).sum + (mz + 11) + rm.locals ≤ R.locals) (hc : k + rm.cells ≤ R.cells) (hs : n + rm.slots ≤ R.slots)
    (kk : ∀ (v : Option Value) (T' : State), After w Z a0 EL y bytes maxL ret p l e R s m args below meth c sf (k + rm.cells) (n + rm.slots) Q' v T' → Go w Z EL C N Q p e s below T' (mkF m pc' L (v.toList ++ rest))) : Go w Z EL C N Q p e s below T (mkF m pc L S0) := by
  subst hp hargs hst
  obtain ⟨c1, vm0, k0, locs, X0, eT, hS, hk, hZ, hown, NN, E, hw, hC, hsf⟩ := X
  have hso : ∀ x ∈ sf0, x < h.size ∧ Safe Z EL vm0 h x := fun x hx => ⟨(hok x hx).1, (hok x hx).2.safe hZ.alike hsf⟩
  cases w with
  | true =>
    obtain ⟨v, vm1, B, -, X', h2, gr, post, st⟩ := Stand.specialBackS (s := s.setVm vm0) X0 c1.1 hz hown (mvT (s := s.setVm vm0) hZ w1) (mvT (s := s.setVm vm0) hZ w2) (mvT (s := s.setVm vm0) hZ w4) hy (hC'.backW E hZ w4 w3 hf hl c1.2.2.2.2.2.2 hC.1 hso) (g := mkF m pc L (argsL.reverse ++ .ref a :: rest)) rfl (hsz.trans c1.2.2.1.symm) (Steps.refl _) (lenOf hpd hlen) rfl (by show 2 * 0 + _ ≤ _; omega) (hb c1.2.1 hd) (fun _ _ => ⟨rfl, eT, hc, hs⟩)
    obtain ⟨s₂, o, hs, r⟩ := kk v B.U (After.wide c1 eT hS hk hZ hown NN hC hsf X' h2 gr post)
    exact ⟨s₂, o, st.trans hs, r⟩
  | false =>
    obtain ⟨e0, hE0⟩ := hw rfl
    subst e0
    obtain ⟨v, vm1, B, -, X', post, st⟩ := Stand.specialBack (s := s) X0 c1.1 hz hown (mvT hZ w1) (mvT hZ w2) (mvT hZ w4) hy (hC'.backP E hZ w4 w3 hf hl c1.2.2.2.2.2.2 hC.1 hso) (g := mkF m pc L (argsL.reverse ++ .ref a :: rest)) rfl (hsz.trans c1.2.2.1.symm) (Steps.refl _) (lenOf hpd hlen) rfl (by show 2 * 0 + _ ≤ _; omega) (hb c1.2.1 hd) (fun _ _ => ⟨rfl, eT, hc, hs⟩)
    obtain ⟨s₂, o, hs, r⟩ := kk v B.U (After.plain (T := T) hE0 c1 hS hk hZ hown NN hC hsf X' post)
    exact ⟨s₂, o, st.trans hs, r⟩
theorem o_virtual (X : St w Z a0 EL y bytes maxL ret p l e R s m args below meth c T h sf k n) {pc pc' : Nat} {L : Array Slot} {rest : List Value} {idx : Nat} {u z : MethodName} {K : String} {bz : ByteArray} {mz : Nat} {rz : Option FieldType} {Q' : Option Value → Heap → (Addr → Prop) → Prop} {a : Addr} (hd : decode bytes pc = .ok (.invokevirtual idx, 3)) (hp : pc + 3 = pc')
    (w1 : (Cond.methodLink y.cls idx u).before a0 Z = true) (w2 : (Cond.declares u).before a0 Z = true) (nf : ∀ s' : State, Z.Warmed39 s'.vm → NotFace s' u) (w5 : (Cond.selects K u z).before a0 Z = true) (w6 : (Cond.instanceMethod z).before a0 Z = true) (w3 : (Cond.initialized z.cls).before a0 Z = true) (w4 : (Cond.code z bz mz rz).before a0 Z = true) (hy : u.cls ≠ "java/lang/invoke/MethodHandle" ∧ u.cls ≠ "java/lang/invoke/VarHandle") (E0 : Exa Z h a K)
    (hC' : Ct w Z a0 EL l z bz mz rz rm as h sf0 Q') (hok : ∀ x ∈ sf0, x < h.size ∧ Ok Z EL h sf x) (argsL : List Value) (hargs : (.ref a :: argsL).toArray = as) {S0 : List Value} (hst : S0 = argsL.reverse ++ .ref a :: rest) {ps : List FieldType} {rr : Option FieldType} (hpd : parseMethodDescriptor u.desc = some ⟨ps, rr⟩) (hlen : argsL.length = ps.length) (hsz : L.size = maxL)
    (hf : rm.frames + 1 ≤ R.frames) (hl : (rest.map fun v => v.category).sum + (mz + 11) + rm.locals ≤ R.locals) (hc : k + rm.cells ≤ R.cells) (hs : n + rm.slots ≤ R.slots)
    (kk : ∀ (v : Option Value) (T' : State), After w Z a0 EL y bytes maxL ret p l e R s m args below meth c sf (k + rm.cells) (n + rm.slots) Q' v T' → Go w Z EL C N Q p e s below T' (mkF m pc' L (v.toList ++ rest))) : Go w Z EL C N Q p e s below T (mkF m pc L S0) := by
  subst hp hargs hst
  obtain ⟨c1, vm0, k0, locs, X0, eT, hS, hk, hZ, hown, NN, E, hw, hC, hsf⟩ := X
  have hso : ∀ x ∈ sf0, x < h.size ∧ Safe Z EL vm0 h x := fun x hx => ⟨(hok x hx).1, (hok x hx).2.safe hZ.alike hsf⟩
  obtain ⟨cq, kq, qa, qb, qc⟩ := isOf (s := s.setVm vm0) hZ eT E0
  cases w with
  | true =>
    obtain ⟨v, vm1, B, -, X', h2, gr, post, st⟩ := Stand.virtualBackS (s := s.setVm vm0) X0 c1.1 hown (mvT (s := s.setVm vm0) hZ w1) (mvT (s := s.setVm vm0) hZ w2) (nf _ hZ) (mvT (s := s.setVm vm0) hZ w5) (mvT (s := s.setVm vm0) hZ w6) hy (hC'.backW E hZ w4 w3 hf hl c1.2.2.2.2.2.2 hC.1 hso) qa qc (g := mkF m pc L (argsL.reverse ++ .ref a :: rest)) rfl (hsz.trans c1.2.2.1.symm) (Steps.refl _) (lenOf hpd hlen) rfl (by show 2 * 0 + _ ≤ _; omega) (hb c1.2.1 hd) (fun _ _ => ⟨rfl, eT, hc, hs⟩)
    obtain ⟨s₂, o, hs, r⟩ := kk v B.U (After.wide c1 eT hS hk hZ hown NN hC hsf X' h2 gr post)
    exact ⟨s₂, o, st.trans hs, r⟩
  | false =>
    obtain ⟨e0, hE0⟩ := hw rfl
    subst e0
    obtain ⟨v, vm1, B, -, X', post, st⟩ := Stand.virtualBack (s := s) X0 c1.1 hown (mvT hZ w1) (mvT hZ w2) (nf _ hZ) (mvT hZ w5) (mvT hZ w6) hy (hC'.backP E hZ w4 w3 hf hl c1.2.2.2.2.2.2 hC.1 hso) qa qc (g := mkF m pc L (argsL.reverse ++ .ref a :: rest)) rfl (hsz.trans c1.2.2.1.symm) (Steps.refl _) (lenOf hpd hlen) rfl (by show 2 * 0 + _ ≤ _; omega) (hb c1.2.1 hd) (fun _ _ => ⟨rfl, eT, hc, hs⟩)
    obtain ⟨s₂, o, hs, r⟩ := kk v B.U (After.plain (T := T) hE0 c1 hS hk hZ hown NN hC hsf X' post)
    exact ⟨s₂, o, st.trans hs, r⟩
theorem okArr {a : Addr} {kA : ClassId} {ty : FieldType} {z : Int32} {vs : List Value} {d : Value} (A : Arv Z h a kA ty z vs d) (q : ty ≠ .byte) : ∃ (cl : Cell) (ty : FieldType), Arr Z h a cl ty ∧ ty ≠ .byte := by
  obtain ⟨cl, Ar, -⟩ := A
  exact ⟨cl, ty, Ar, q⟩
theorem St.mono (X : St w Z a0 EL y bytes maxL ret p l e R s m args below meth c T h sf k n) {k1 n1 : Nat} (hk1 : k ≤ k1) (hn1 : n ≤ n1) : St w Z a0 EL y bytes maxL ret p l e R s m args below meth c T h sf k1 n1 := by
  obtain ⟨c0, vm0, k0, locs, X0, r⟩ := X
  exact ⟨c0, vm0, k0, locs, ⟨X0.admits, X0.cas, X0.clock, X0.frames, X0.room, X0.hears, X0.method, X0.code, X0.here, X0.tail, X0.warmed, X0.limits, X0.bytes, X0.same.mono hk1 hn1⟩, r⟩
theorem o_pop2L (X : St w Z a0 EL y bytes maxL ret p l e R s m args below meth c T h sf k n) {pc pc' : Nat} {L : Array Slot} {S : List Value} {v : Int64} (hd : decode bytes pc = .ok (.pop2, 1)) (hp : pc + 1 = pc') (kk : Go w Z EL C N Q p e s below T (mkF m pc' L S)) : Go w Z EL C N Q p e s below T (mkF m pc L (.long v :: S)) := by
  subst hp
  exact ps X (fun H hx hby _ q => by
    have hd' := hb hby hd
    show Steps p.tables e below (T.setTop { method := m, pc := pc, locals := L, stack := .long v :: S, locked := none }) _
    jvm_step H [H.top, hx, hd', Value.category]
    exact q) kk

end
end W
end Jvm.Pilot.@@N@@
namespace Jvm.Pilot.@@N@@
open Jvm Jvm.ClassFile Sem Op Lib Jvm.Free Jvm.Stand Jvm.LawKit Jvm.RoadKit Bundle Jvm.Pilot.@@N@@.Jvm.D
theorem o32_toInt (n : Nat) (h : n < 2147483648) : (Int32.ofNat n).toInt = n := by
  rw [Int32.toInt_ofNat_of_lt]; simpa using h
theorem o32_lt {i n : Nat} (h : i < n) (hn : n < 2147483648) : ¬ (Int32.ofNat i) < 0 ∧ Int32.ofNat i < Int32.ofNat n := by
  have e1 := o32_toInt i (by omega)
  have e2 := o32_toInt n hn
  refine ⟨?_, ?_⟩
  · rw [Int32.lt_iff_toInt_lt, e1]; show ¬ ((i : Int) < 0); omega
  · rw [Int32.lt_iff_toInt_lt, e1, e2]; omega
theorem o32_clamp {i : Nat} (h : i < 2147483648) : (Int32.ofNat i).toNatClampNeg = i := by
  have e1 := o32_toInt i h
  show (Int32.ofNat i).toInt.toNat = i
  rw [e1]; rfl
theorem o32_succ (i : Nat) : Int32.ofNat i + 1 = Int32.ofNat (i + 1) := by
  rw [Int32.ofNat_add]; rfl
theorem o32_nn {i : Nat} (hn : i < 2147483648) : ¬ Int32.ofNat i < 0 := by
  rw [Int32.lt_iff_toInt_lt, o32_toInt i hn]; show ¬ ((i : Int) < 0); omega
theorem o32_ge {i n : Nat} (h : n ≤ i) (hn : i < 2147483648) : ¬ Int32.ofNat i < Int32.ofNat n := by
  rw [Int32.lt_iff_toInt_lt, o32_toInt i hn, o32_toInt n (by omega)]; omega
theorem o32_inj {i n : Nat} (hi : i < 2147483648) (hn : n < 2147483648) (h : Int32.ofNat i = Int32.ofNat n) : i = n := by
  have := congrArg Int32.toInt h
  rw [o32_toInt i hi, o32_toInt n hn] at this; omega
def lay {α : Type} (f : Int32 → α) (z : α) (cs : List Int32) (j : Nat) : List α := (cs.take j).map f ++ List.replicate (cs.length - j) z
theorem lay_len {α : Type} (f : Int32 → α) (z : α) (cs : List Int32) (j : Nat) (h : j ≤ cs.length) : (lay f z cs j).length = cs.length := by
  simp [lay]; omega
theorem lay_set {α : Type} (f : Int32 → α) (z : α) (cs : List Int32) (j : Nat) (h : j < cs.length) : (lay f z cs j).set j (f cs[j]) = lay f z cs (j + 1) := by
  apply List.ext_getElem
  · simp [lay]; omega
  · intro i h1 h2
    simp only [lay, List.getElem_set, List.getElem_append, List.length_map, List.length_take, List.getElem_map, List.getElem_take, List.getElem_replicate]
    by_cases e : j = i
    · subst e; simp; omega
    · rw [if_neg e]
      by_cases q : i < j
      · rw [dif_pos (by omega), dif_pos (by omega)]
      · rw [dif_neg (by omega), dif_neg (by omega)]
theorem lay_all {α : Type} (f : Int32 → α) (z : α) (cs : List Int32) : lay f z cs cs.length = cs.map f := by simp [lay]
theorem lay_zero {α : Type} (f : Int32 → α) (z : α) (cs : List Int32) : lay f z cs 0 = List.replicate cs.length z := by simp [lay]
def big (c : Int32) : Bool := decide (255 < c)
/-- a char's low byte, as a byte[] holds it -/
def lo (c : Int32) : Value := .int c.toInt8.toInt32
theorem nar_bb (x : Int32) : nar .byte x.toInt8.toInt32 = x.toInt8.toInt32 := by simp [nar]
theorem nar_ch {x : Int32} (h0 : ¬ x < 0) (h1 : ¬ 65535 < x) : nar .char x = x := by
  show x.toUInt32.toUInt16.toUInt32.toInt32 = x
  have q := c_i2c x
  apply Int32.toInt_inj.mp
  rw [Int32.lt_iff_toInt_lt] at h0 h1
  have z0 : (0 : Int32).toInt = 0 := rfl
  have z1 : (65535 : Int32).toInt = 65535 := rfl
  omega
theorem and_ch (x : Int32) : ¬ (x &&& 255).toUInt32.toUInt16.toUInt32.toInt32 < 0 ∧ ¬ 255 < (x &&& 255).toUInt32.toUInt16.toUInt32.toInt32 := by
  have q := c_i2c (x &&& 255)
  have r := c_and x 255 (by decide)
  have z0 : (0 : Int32).toInt = 0 := rfl
  have z1 : (255 : Int32).toInt = 255 := rfl
  rw [Int32.lt_iff_toInt_lt, Int32.lt_iff_toInt_lt]
  omega
theorem no_big {c : Int32} (h : ¬ 255 < c) : ¬ 65535 < c := by
  rw [Int32.lt_iff_toInt_lt] at h ⊢
  have z0 : (255 : Int32).toInt = 255 := rfl
  have z1 : (65535 : Int32).toInt = 65535 := rfl
  omega
theorem getD_map {cs : List Int32} {j : Nat} (h : j < cs.length) (d : Value) : (cs.map Value.int).getD j d = .int cs[j] := by simp [List.getD, h]
/-- a Latin-1 String: its class, its two fields, its bytes -/
def Str (Z : State) (h : Heap) (a t : Addr) (cs : List Int32) : Prop :=
  Exa Z h a "java/lang/String" ∧ Fld Z h a "java/lang/String" "coder" "B" (.int 0) ∧ Fld Z h a "java/lang/String" "value" "[B" (.ref t) ∧ (∃ kt, Arv Z h t kt .byte (Int32.ofNat cs.length) (cs.map lo) (.int 0)) ∧ cs.length ≤ 1000 ∧ ∀ c ∈ cs, ¬ c < 0 ∧ ¬ 255 < c
theorem Str.ext {Z : State} {h h' : Heap} {a t : Addr} {cs : List Int32} (F : Str Z h a t cs) (E : Ext h h') : Str Z h' a t cs := by
  obtain ⟨h1, h2, h3, ⟨kt, h4⟩, r⟩ := F; exact ⟨h1.ext E, h2.ext E, h3.ext E, ⟨kt, h4.ext E⟩, r⟩
theorem Str.keep {Z : State} {h h' : Heap} {a t : Addr} {cs : List Int32} {ws : List Addr} (F : Str Z h a t cs) (K : Keep h h' ws) (q : a ∉ ws) (r : t ∉ ws) : Str Z h' a t cs := by
  obtain ⟨h1, h2, h3, ⟨kt, h4⟩, r'⟩ := F; exact ⟨h1.keep K, h2.keep K q, h3.keep K q, ⟨kt, h4.keep K r⟩, r'⟩
theorem Str.other {Z : State} {h h' : Heap} {a t x : Addr} {sl : Nat} {v : Value} {cs : List Int32} (F : Str Z h a t cs) (W : Wr h h' x sl v) (q : a ≠ x) (r : t ≠ x) : Str Z h' a t cs := by
  obtain ⟨h1, h2, h3, ⟨kt, h4⟩, r'⟩ := F; exact ⟨h1.wr W, h2.other W (Or.inl q), h3.other W (Or.inl q), ⟨kt, h4.other W r⟩, r'⟩
theorem Str.lt {Z : State} {h : Heap} {a t : Addr} {cs : List Int32} (F : Str Z h a t cs) : a < h.size := F.1.lt
theorem Str.lt' {Z : State} {h : Heap} {a t : Addr} {cs : List Int32} (F : Str Z h a t cs) : t < h.size := by obtain ⟨-, -, -, ⟨kt, h4⟩, -⟩ := F; exact h4.lt
theorem allI {P : Int32 → Prop} {y : Int32} {L : List Int32} (q : P y) (r : ∀ x ∈ L, P x) : ∀ x ∈ y :: L, P x := fun x z => (List.mem_cons.mp z).elim (fun u => u ▸ q) (r x)
theorem lo255 {c : Int32} (h0 : ¬ c < 0) (h1 : ¬ 255 < c) : (c.toInt8.toInt32 &&& 255).toUInt32.toUInt16.toUInt32.toInt32 = c := by
  rw [Int32.lt_iff_toInt_lt] at h0 h1
  have z0 : (0 : Int32).toInt = 0 := rfl
  have z1 : (255 : Int32).toInt = 255 := rfl
  have b1 := c_i2b c
  have m1 := c_mask c.toInt8.toInt32 255 8 (by decide) rfl
  have f := c_i2c (c.toInt8.toInt32 &&& 255)
  apply Int32.toInt_inj.mp
  omega
def b2i (b : Bool) : Int32 := if b then 1 else 0
theorem b2i_0 {b : Bool} (h : b2i b = 0) : b = false := by cases b <;> simp_all [b2i]
theorem b2i_n {b : Bool} (h : ¬ b2i b = 0) : b = true := by cases b <;> simp_all [b2i]
theorem nar_b2i (b : Bool) : nar .boolean (b2i b) = b2i b := by cases b <;> rfl
theorem lo_inj {c d : Int32} (hc : ¬ c < 0 ∧ ¬ 255 < c) (hd : ¬ d < 0 ∧ ¬ 255 < d) (h : c.toInt8.toInt32 = d.toInt8.toInt32) : c = d := by rw [← lo255 hc.1 hc.2, ← lo255 hd.1 hd.2, h]
theorem getD_lo {cs : List Int32} {j : Nat} (h : j < cs.length) (d : Value) : (cs.map lo).getD j d = .int cs[j].toInt8.toInt32 := by simp [List.getD, h, lo]
theorem Str.neObj {Z : State} {h : Heap} {a t x : Addr} {cs : List Int32} {C : String} {a0 : Array Value} {n : Nat} (F : Str Z h a t cs) (E : Exa Z h x C) (w : (Cond.instantiable C n).before a0 Z = true) : t ≠ x := by
  obtain ⟨-, -, -, ⟨kt, h4⟩, -⟩ := F
  exact Ne.symm (Exa.neArv E h4 w)
theorem i2c_id {x : Int32} (h0 : ¬ x < 0) (h1 : ¬ 65535 < x) : x.toUInt32.toUInt16.toUInt32.toInt32 = x := nar_ch h0 h1
abbrev wd : Bool := true
abbrev el : List (String × Nat) := [("com/example/nonce/nonce/reader/ModelError", 16), ("java/lang/String", 7)]
theorem hwe : wd = false → el = [] := fun q => by cases q
set_option maxRecDepth 65536 in
theorem hwS0 : ∀ a ∈ Bundle.stringAtoms, a ∈ tables_1 := by decide +kernel
theorem d_jdk_52_method_21_0 : decode jdk_52_method_21_code 0 = .ok (.iconst 0, 1) := by decide +kernel
theorem d_jdk_52_method_21_1 : decode jdk_52_method_21_code 1 = .ok (.istore 5, 2) := by decide +kernel
theorem pn_java_lang_StringUTF16 : plainName "java/lang/StringUTF16" = true := by first | (simp [plainName, overriddenIn]; done) | decide +kernel
theorem d_jdk_52_method_21_3 : decode jdk_52_method_21_code 3 = .ok (.iload 5, 2) := by decide +kernel
theorem d_jdk_52_method_21_5 : decode jdk_52_method_21_code 5 = .ok (.iload 4, 2) := by decide +kernel
theorem d_jdk_52_method_21_7 : decode jdk_52_method_21_code 7 = .ok (.if_icmp .ge 37, 3) := by decide +kernel
theorem d_jdk_52_method_21_44 : decode jdk_52_method_21_code 44 = .ok (.iload 4, 2) := by decide +kernel
theorem d_jdk_52_method_21_46 : decode jdk_52_method_21_code 46 = .ok (.ireturn, 1) := by decide +kernel
theorem d_jdk_52_method_21_10 : decode jdk_52_method_21_code 10 = .ok (.aload_n 0, 1) := by decide +kernel
theorem d_jdk_52_method_21_11 : decode jdk_52_method_21_code 11 = .ok (.iload_n 1, 1) := by decide +kernel
theorem d_jdk_52_method_21_12 : decode jdk_52_method_21_code 12 = .ok (.caload, 1) := by decide +kernel
theorem d_jdk_52_method_21_13 : decode jdk_52_method_21_code 13 = .ok (.istore 6, 2) := by decide +kernel
theorem d_jdk_52_method_21_15 : decode jdk_52_method_21_code 15 = .ok (.iload 6, 2) := by decide +kernel
theorem d_jdk_52_method_21_17 : decode jdk_52_method_21_code 17 = .ok (.sipush 255, 3) := by decide +kernel
theorem d_jdk_52_method_21_20 : decode jdk_52_method_21_code 20 = .ok (.if_icmp .le 6, 3) := by decide +kernel
theorem d_jdk_52_method_21_26 : decode jdk_52_method_21_code 26 = .ok (.aload_n 2, 1) := by decide +kernel
theorem d_jdk_52_method_21_27 : decode jdk_52_method_21_code 27 = .ok (.iload_n 3, 1) := by decide +kernel
theorem d_jdk_52_method_21_28 : decode jdk_52_method_21_code 28 = .ok (.iload 6, 2) := by decide +kernel
theorem d_jdk_52_method_21_30 : decode jdk_52_method_21_code 30 = .ok (.i2b, 1) := by decide +kernel
theorem d_jdk_52_method_21_31 : decode jdk_52_method_21_code 31 = .ok (.bastore, 1) := by decide +kernel
theorem d_jdk_52_method_21_32 : decode jdk_52_method_21_code 32 = .ok (.iinc 1 1, 3) := by decide +kernel
theorem d_jdk_52_method_21_35 : decode jdk_52_method_21_code 35 = .ok (.iinc 3 1, 3) := by decide +kernel
theorem d_jdk_52_method_21_38 : decode jdk_52_method_21_code 38 = .ok (.iinc 5 1, 3) := by decide +kernel
theorem d_jdk_52_method_21_41 : decode jdk_52_method_21_code 41 = .ok (.goto (-38), 3) := by decide +kernel
theorem d_jdk_52_method_21_23 : decode jdk_52_method_21_code 23 = .ok (.iload 5, 2) := by decide +kernel
theorem d_jdk_52_method_21_25 : decode jdk_52_method_21_code 25 = .ok (.ireturn, 1) := by decide +kernel
theorem d_jdk_52_method_16_0 : decode jdk_52_method_16_code 0 = .ok (.iload_n 2, 1) := by decide +kernel
theorem d_jdk_52_method_16_1 : decode jdk_52_method_16_code 1 = .ok (.newarray .byte, 2) := by decide +kernel
theorem d_jdk_52_method_16_3 : decode jdk_52_method_16_code 3 = .ok (.astore_n 3, 1) := by decide +kernel
theorem d_jdk_52_method_16_4 : decode jdk_52_method_16_code 4 = .ok (.aload_n 0, 1) := by decide +kernel
theorem d_jdk_52_method_16_5 : decode jdk_52_method_16_code 5 = .ok (.iload_n 1, 1) := by decide +kernel
theorem d_jdk_52_method_16_6 : decode jdk_52_method_16_code 6 = .ok (.aload_n 3, 1) := by decide +kernel
theorem d_jdk_52_method_16_7 : decode jdk_52_method_16_code 7 = .ok (.iconst 0, 1) := by decide +kernel
theorem d_jdk_52_method_16_8 : decode jdk_52_method_16_code 8 = .ok (.iload_n 2, 1) := by decide +kernel
theorem d_jdk_52_method_16_9 : decode jdk_52_method_16_code 9 = .ok (.invokestatic 115, 3) := by decide +kernel
theorem pd___CI_BII_I : parseMethodDescriptor "([CI[BII)I" = some ⟨[(.array .char), .int, (.array .byte), .int, .int], some .int⟩ := by decide +kernel
theorem d_jdk_52_method_16_12 : decode jdk_52_method_16_code 12 = .ok (.istore 4, 2) := by decide +kernel
theorem d_jdk_52_method_16_14 : decode jdk_52_method_16_code 14 = .ok (.iload 4, 2) := by decide +kernel
theorem d_jdk_52_method_16_16 : decode jdk_52_method_16_code 16 = .ok (.iload_n 2, 1) := by decide +kernel
theorem d_jdk_52_method_16_17 : decode jdk_52_method_16_code 17 = .ok (.if_icmp .eq 40, 3) := by decide +kernel
theorem d_jdk_52_method_16_57 : decode jdk_52_method_16_code 57 = .ok (.aload_n 3, 1) := by decide +kernel
theorem d_jdk_52_method_16_58 : decode jdk_52_method_16_code 58 = .ok (.areturn, 1) := by decide +kernel
theorem d_jdk_52_method_15_0 : decode jdk_52_method_15_code 0 = .ok (.iload_n 1, 1) := by decide +kernel
theorem d_jdk_52_method_15_1 : decode jdk_52_method_15_code 1 = .ok (.aload_n 0, 1) := by decide +kernel
theorem d_jdk_52_method_15_2 : decode jdk_52_method_15_code 2 = .ok (.arraylength, 1) := by decide +kernel
theorem d_jdk_52_method_15_3 : decode jdk_52_method_15_code 3 = .ok (.isub, 1) := by decide +kernel
theorem d_jdk_52_method_15_4 : decode jdk_52_method_15_code 4 = .ok (.bipush 31, 2) := by decide +kernel
theorem d_jdk_52_method_15_6 : decode jdk_52_method_15_code 6 = .ok (.iushr, 1) := by decide +kernel
theorem d_jdk_52_method_15_7 : decode jdk_52_method_15_code 7 = .ok (.i2b, 1) := by decide +kernel
theorem d_jdk_52_method_15_8 : decode jdk_52_method_15_code 8 = .ok (.ireturn, 1) := by decide +kernel
theorem d_jdk_42_method_149_0 : decode jdk_42_method_149_code 0 = .ok (.aload_n 0, 1) := by decide +kernel
theorem d_jdk_42_method_149_1 : decode jdk_42_method_149_code 1 = .ok (.invokespecial 1, 3) := by decide +kernel
theorem d_jdk_42_method_149_4 : decode jdk_42_method_149_code 4 = .ok (.iload_n 3, 1) := by decide +kernel
theorem d_jdk_42_method_149_5 : decode jdk_42_method_149_code 5 = .ok (.ifCond .ne 22, 3) := by decide +kernel
theorem d_jdk_42_method_149_27 : decode jdk_42_method_149_code 27 = .ok (.getstatic 38, 3) := by decide +kernel
theorem d_jdk_42_method_149_30 : decode jdk_42_method_149_code 30 = .ok (.ifCond .eq 28, 3) := by decide +kernel
theorem d_jdk_42_method_149_33 : decode jdk_42_method_149_code 33 = .ok (.aload_n 1, 1) := by decide +kernel
theorem d_jdk_42_method_149_34 : decode jdk_42_method_149_code 34 = .ok (.iload_n 2, 1) := by decide +kernel
theorem d_jdk_42_method_149_35 : decode jdk_42_method_149_code 35 = .ok (.iload_n 3, 1) := by decide +kernel
theorem d_jdk_42_method_149_36 : decode jdk_42_method_149_code 36 = .ok (.invokestatic 177, 3) := by decide +kernel
theorem pd___CII__B : parseMethodDescriptor "([CII)[B" = some ⟨[(.array .char), .int, .int], some (.array .byte)⟩ := by decide +kernel
theorem d_jdk_42_method_149_39 : decode jdk_42_method_149_code 39 = .ok (.astore 5, 2) := by decide +kernel
theorem d_jdk_42_method_149_41 : decode jdk_42_method_149_code 41 = .ok (.aload_n 0, 1) := by decide +kernel
theorem d_jdk_42_method_149_42 : decode jdk_42_method_149_code 42 = .ok (.aload 5, 2) := by decide +kernel
theorem d_jdk_42_method_149_44 : decode jdk_42_method_149_code 44 = .ok (.iload_n 3, 1) := by decide +kernel
theorem d_jdk_42_method_149_45 : decode jdk_42_method_149_code 45 = .ok (.invokestatic 47, 3) := by decide +kernel
theorem pd___BI_B : parseMethodDescriptor "([BI)B" = some ⟨[(.array .byte), .int], some .byte⟩ := by decide +kernel
theorem d_jdk_42_method_149_48 : decode jdk_42_method_149_code 48 = .ok (.putfield 15, 3) := by decide +kernel
theorem d_jdk_42_method_149_51 : decode jdk_42_method_149_code 51 = .ok (.aload_n 0, 1) := by decide +kernel
theorem d_jdk_42_method_149_52 : decode jdk_42_method_149_code 52 = .ok (.aload 5, 2) := by decide +kernel
theorem d_jdk_42_method_149_54 : decode jdk_42_method_149_code 54 = .ok (.putfield 9, 3) := by decide +kernel
theorem d_jdk_42_method_149_57 : decode jdk_42_method_149_code 57 = .ok (.return_, 1) := by decide +kernel
theorem pn_java_lang_String : plainName "java/lang/String" = true := by first | (simp [plainName, overriddenIn]; done) | decide +kernel
theorem d_jdk_42_method_3_0 : decode jdk_42_method_3_code 0 = .ok (.aload_n 0, 1) := by decide +kernel
theorem d_jdk_42_method_3_1 : decode jdk_42_method_3_code 1 = .ok (.aload_n 1, 1) := by decide +kernel
theorem d_jdk_42_method_3_2 : decode jdk_42_method_3_code 2 = .ok (.iconst 0, 1) := by decide +kernel
theorem d_jdk_42_method_3_3 : decode jdk_42_method_3_code 3 = .ok (.aload_n 1, 1) := by decide +kernel
theorem d_jdk_42_method_3_4 : decode jdk_42_method_3_code 4 = .ok (.arraylength, 1) := by decide +kernel
theorem d_jdk_42_method_3_5 : decode jdk_42_method_3_code 5 = .ok (.aconst_null, 1) := by decide +kernel
theorem d_jdk_42_method_3_6 : decode jdk_42_method_3_code 6 = .ok (.invokespecial 27, 3) := by decide +kernel
theorem pd___CIILjava_lang_Void__V : parseMethodDescriptor "([CIILjava/lang/Void;)V" = some ⟨[(.array .char), .int, .int, (.object "java/lang/Void")], none⟩ := by decide +kernel
theorem d_jdk_42_method_3_9 : decode jdk_42_method_3_code 9 = .ok (.return_, 1) := by decide +kernel
theorem d_jdk_42_method_149_8 : decode jdk_42_method_149_code 8 = .ok (.aload_n 0, 1) := by decide +kernel
theorem d_jdk_42_method_149_9 : decode jdk_42_method_149_code 9 = .ok (.ldc 7, 2) := by decide +kernel
theorem d_jdk_42_method_149_11 : decode jdk_42_method_149_code 11 = .ok (.getfield 9, 3) := by decide +kernel
theorem d_jdk_42_method_149_14 : decode jdk_42_method_149_code 14 = .ok (.putfield 9, 3) := by decide +kernel
theorem d_jdk_42_method_149_17 : decode jdk_42_method_149_code 17 = .ok (.aload_n 0, 1) := by decide +kernel
theorem d_jdk_42_method_149_18 : decode jdk_42_method_149_code 18 = .ok (.ldc 7, 2) := by decide +kernel
theorem d_jdk_42_method_149_20 : decode jdk_42_method_149_code 20 = .ok (.getfield 15, 3) := by decide +kernel
theorem d_jdk_42_method_149_23 : decode jdk_42_method_149_code 23 = .ok (.putfield 15, 3) := by decide +kernel
theorem d_jdk_42_method_149_26 : decode jdk_42_method_149_code 26 = .ok (.return_, 1) := by decide +kernel
theorem d_jdk_43_method_13_0 : decode jdk_43_method_13_code 0 = .ok (.aload_n 0, 1) := by decide +kernel
theorem d_jdk_43_method_13_1 : decode jdk_43_method_13_code 1 = .ok (.arraylength, 1) := by decide +kernel
theorem d_jdk_43_method_13_2 : decode jdk_43_method_13_code 2 = .ok (.aload_n 1, 1) := by decide +kernel
theorem d_jdk_43_method_13_3 : decode jdk_43_method_13_code 3 = .ok (.arraylength, 1) := by decide +kernel
theorem d_jdk_43_method_13_4 : decode jdk_43_method_13_code 4 = .ok (.if_icmp .ne 30, 3) := by decide +kernel
theorem d_jdk_43_method_13_34 : decode jdk_43_method_13_code 34 = .ok (.iconst 0, 1) := by decide +kernel
theorem d_jdk_43_method_13_35 : decode jdk_43_method_13_code 35 = .ok (.ireturn, 1) := by decide +kernel
theorem d_jdk_43_method_13_7 : decode jdk_43_method_13_code 7 = .ok (.iconst 0, 1) := by decide +kernel
theorem d_jdk_43_method_13_8 : decode jdk_43_method_13_code 8 = .ok (.istore_n 2, 1) := by decide +kernel
theorem d_jdk_43_method_13_9 : decode jdk_43_method_13_code 9 = .ok (.iload_n 2, 1) := by decide +kernel
theorem d_jdk_43_method_13_10 : decode jdk_43_method_13_code 10 = .ok (.aload_n 0, 1) := by decide +kernel
theorem d_jdk_43_method_13_11 : decode jdk_43_method_13_code 11 = .ok (.arraylength, 1) := by decide +kernel
theorem d_jdk_43_method_13_12 : decode jdk_43_method_13_code 12 = .ok (.if_icmp .ge 20, 3) := by decide +kernel
theorem d_jdk_43_method_13_32 : decode jdk_43_method_13_code 32 = .ok (.iconst 1, 1) := by decide +kernel
theorem d_jdk_43_method_13_33 : decode jdk_43_method_13_code 33 = .ok (.ireturn, 1) := by decide +kernel
theorem d_jdk_43_method_13_15 : decode jdk_43_method_13_code 15 = .ok (.aload_n 0, 1) := by decide +kernel
theorem d_jdk_43_method_13_16 : decode jdk_43_method_13_code 16 = .ok (.iload_n 2, 1) := by decide +kernel
theorem d_jdk_43_method_13_17 : decode jdk_43_method_13_code 17 = .ok (.baload, 1) := by decide +kernel
theorem d_jdk_43_method_13_18 : decode jdk_43_method_13_code 18 = .ok (.aload_n 1, 1) := by decide +kernel
theorem d_jdk_43_method_13_19 : decode jdk_43_method_13_code 19 = .ok (.iload_n 2, 1) := by decide +kernel
theorem d_jdk_43_method_13_20 : decode jdk_43_method_13_code 20 = .ok (.baload, 1) := by decide +kernel
theorem d_jdk_43_method_13_21 : decode jdk_43_method_13_code 21 = .ok (.if_icmp .eq 5, 3) := by decide +kernel
theorem d_jdk_43_method_13_26 : decode jdk_43_method_13_code 26 = .ok (.iinc 2 1, 3) := by decide +kernel
theorem d_jdk_43_method_13_29 : decode jdk_43_method_13_code 29 = .ok (.goto (-20), 3) := by decide +kernel
theorem d_jdk_43_method_13_24 : decode jdk_43_method_13_code 24 = .ok (.iconst 0, 1) := by decide +kernel
theorem d_jdk_43_method_13_25 : decode jdk_43_method_13_code 25 = .ok (.ireturn, 1) := by decide +kernel
theorem pn_java_lang_StringLatin1 : plainName "java/lang/StringLatin1" = true := by first | (simp [plainName, overriddenIn]; done) | decide +kernel
theorem d_jdk_42_method_66_0 : decode jdk_42_method_66_code 0 = .ok (.aload_n 0, 1) := by decide +kernel
theorem d_jdk_42_method_66_1 : decode jdk_42_method_66_code 1 = .ok (.aload_n 1, 1) := by decide +kernel
theorem d_jdk_42_method_66_2 : decode jdk_42_method_66_code 2 = .ok (.if_acmp .ne 5, 3) := by decide +kernel
theorem d_jdk_42_method_66_5 : decode jdk_42_method_66_code 5 = .ok (.iconst 1, 1) := by decide +kernel
theorem d_jdk_42_method_66_6 : decode jdk_42_method_66_code 6 = .ok (.ireturn, 1) := by decide +kernel
theorem d_jdk_42_method_66_7 : decode jdk_42_method_66_code 7 = .ok (.aload_n 1, 1) := by decide +kernel
theorem d_jdk_42_method_66_8 : decode jdk_42_method_66_code 8 = .ok (.instanceof 10, 3) := by decide +kernel
theorem d_jdk_42_method_66_11 : decode jdk_42_method_66_code 11 = .ok (.ifCond .eq 43, 3) := by decide +kernel
theorem d_jdk_42_method_66_14 : decode jdk_42_method_66_code 14 = .ok (.aload_n 1, 1) := by decide +kernel
theorem d_jdk_42_method_66_15 : decode jdk_42_method_66_code 15 = .ok (.checkcast 10, 3) := by decide +kernel
theorem d_jdk_42_method_66_18 : decode jdk_42_method_66_code 18 = .ok (.astore_n 2, 1) := by decide +kernel
theorem d_jdk_42_method_66_19 : decode jdk_42_method_66_code 19 = .ok (.getstatic 38, 3) := by decide +kernel
theorem d_jdk_42_method_66_22 : decode jdk_42_method_66_code 22 = .ok (.ifCond .eq 14, 3) := by decide +kernel
theorem d_jdk_42_method_66_25 : decode jdk_42_method_66_code 25 = .ok (.aload_n 0, 1) := by decide +kernel
theorem d_jdk_42_method_66_26 : decode jdk_42_method_66_code 26 = .ok (.getfield 15, 3) := by decide +kernel
theorem d_jdk_42_method_66_29 : decode jdk_42_method_66_code 29 = .ok (.aload_n 2, 1) := by decide +kernel
theorem d_jdk_42_method_66_30 : decode jdk_42_method_66_code 30 = .ok (.getfield 15, 3) := by decide +kernel
theorem d_jdk_42_method_66_33 : decode jdk_42_method_66_code 33 = .ok (.if_icmp .ne 21, 3) := by decide +kernel
theorem d_jdk_42_method_66_36 : decode jdk_42_method_66_code 36 = .ok (.aload_n 0, 1) := by decide +kernel
theorem d_jdk_42_method_66_37 : decode jdk_42_method_66_code 37 = .ok (.getfield 9, 3) := by decide +kernel
theorem d_jdk_42_method_66_40 : decode jdk_42_method_66_code 40 = .ok (.aload_n 2, 1) := by decide +kernel
theorem d_jdk_42_method_66_41 : decode jdk_42_method_66_code 41 = .ok (.getfield 9, 3) := by decide +kernel
theorem d_jdk_42_method_66_44 : decode jdk_42_method_66_code 44 = .ok (.invokestatic 541, 3) := by decide +kernel
theorem pd___B_B_Z : parseMethodDescriptor "([B[B)Z" = some ⟨[(.array .byte), (.array .byte)], some .boolean⟩ := by decide +kernel
theorem d_jdk_42_method_66_47 : decode jdk_42_method_66_code 47 = .ok (.ifCond .eq 7, 3) := by decide +kernel
theorem d_jdk_42_method_66_54 : decode jdk_42_method_66_code 54 = .ok (.iconst 0, 1) := by decide +kernel
theorem d_jdk_42_method_66_55 : decode jdk_42_method_66_code 55 = .ok (.ireturn, 1) := by decide +kernel
theorem d_jdk_42_method_66_50 : decode jdk_42_method_66_code 50 = .ok (.iconst 1, 1) := by decide +kernel
theorem d_jdk_42_method_66_51 : decode jdk_42_method_66_code 51 = .ok (.goto 4, 3) := by decide +kernel
theorem d_jdk_31_method_11_0 : decode jdk_31_method_11_code 0 = .ok (.aload_n 0, 1) := by decide +kernel
theorem d_jdk_31_method_11_1 : decode jdk_31_method_11_code 1 = .ok (.ifnonnull 12, 3) := by decide +kernel
theorem d_jdk_31_method_11_13 : decode jdk_31_method_11_code 13 = .ok (.aload_n 0, 1) := by decide +kernel
theorem d_jdk_31_method_11_14 : decode jdk_31_method_11_code 14 = .ok (.areturn, 1) := by decide +kernel
theorem pn_java_util_Objects : plainName "java/util/Objects" = true := by first | (simp [plainName, overriddenIn]; done) | decide +kernel
theorem d_method_2_0 : decode method_2_code 0 = .ok (.iload_n 0, 1) := by decide +kernel
theorem d_method_2_1 : decode method_2_code 1 = .ok (.ifCond .ne 14, 3) := by decide +kernel
theorem d_method_2_4 : decode method_2_code 4 = .ok (.new 7, 3) := by decide +kernel
theorem d_method_2_7 : decode method_2_code 7 = .ok (.dup, 1) := by decide +kernel
theorem d_method_2_8 : decode method_2_code 8 = .ok (.iconst 0, 1) := by decide +kernel
theorem d_method_2_9 : decode method_2_code 9 = .ok (.newarray .char, 2) := by decide +kernel
theorem d_method_2_11 : decode method_2_code 11 = .ok (.invokespecial 9, 3) := by decide +kernel
theorem pd___C_V : parseMethodDescriptor "([C)V" = some ⟨[(.array .char)], none⟩ := by decide +kernel
theorem d_method_2_14 : decode method_2_code 14 = .ok (.areturn, 1) := by decide +kernel
theorem d_method_2_15 : decode method_2_code 15 = .ok (.iload_n 0, 1) := by decide +kernel
theorem d_method_2_16 : decode method_2_code 16 = .ok (.iconst 1, 1) := by decide +kernel
theorem d_method_2_17 : decode method_2_code 17 = .ok (.if_icmp .ne 19, 3) := by decide +kernel
theorem d_method_2_20 : decode method_2_code 20 = .ok (.new 7, 3) := by decide +kernel
theorem d_method_2_23 : decode method_2_code 23 = .ok (.dup, 1) := by decide +kernel
theorem d_method_2_24 : decode method_2_code 24 = .ok (.iconst 1, 1) := by decide +kernel
theorem d_method_2_25 : decode method_2_code 25 = .ok (.newarray .char, 2) := by decide +kernel
theorem d_method_2_27 : decode method_2_code 27 = .ok (.dup, 1) := by decide +kernel
theorem d_method_2_28 : decode method_2_code 28 = .ok (.iconst 0, 1) := by decide +kernel
theorem d_method_2_29 : decode method_2_code 29 = .ok (.iload_n 1, 1) := by decide +kernel
theorem d_method_2_30 : decode method_2_code 30 = .ok (.i2c, 1) := by decide +kernel
theorem d_method_2_31 : decode method_2_code 31 = .ok (.castore, 1) := by decide +kernel
theorem d_method_2_32 : decode method_2_code 32 = .ok (.invokespecial 9, 3) := by decide +kernel
theorem d_method_2_35 : decode method_2_code 35 = .ok (.areturn, 1) := by decide +kernel
theorem d_method_2_36 : decode method_2_code 36 = .ok (.new 7, 3) := by decide +kernel
theorem d_method_2_39 : decode method_2_code 39 = .ok (.dup, 1) := by decide +kernel
theorem d_method_2_40 : decode method_2_code 40 = .ok (.iconst 2, 1) := by decide +kernel
theorem d_method_2_41 : decode method_2_code 41 = .ok (.newarray .char, 2) := by decide +kernel
theorem d_method_2_43 : decode method_2_code 43 = .ok (.dup, 1) := by decide +kernel
theorem d_method_2_44 : decode method_2_code 44 = .ok (.iconst 0, 1) := by decide +kernel
theorem d_method_2_45 : decode method_2_code 45 = .ok (.iload_n 1, 1) := by decide +kernel
theorem d_method_2_46 : decode method_2_code 46 = .ok (.i2c, 1) := by decide +kernel
theorem d_method_2_47 : decode method_2_code 47 = .ok (.castore, 1) := by decide +kernel
theorem d_method_2_48 : decode method_2_code 48 = .ok (.dup, 1) := by decide +kernel
theorem d_method_2_49 : decode method_2_code 49 = .ok (.iconst 1, 1) := by decide +kernel
theorem d_method_2_50 : decode method_2_code 50 = .ok (.iload_n 2, 1) := by decide +kernel
theorem d_method_2_51 : decode method_2_code 51 = .ok (.i2c, 1) := by decide +kernel
theorem d_method_2_52 : decode method_2_code 52 = .ok (.castore, 1) := by decide +kernel
theorem d_method_2_53 : decode method_2_code 53 = .ok (.invokespecial 9, 3) := by decide +kernel
theorem d_method_2_56 : decode method_2_code 56 = .ok (.areturn, 1) := by decide +kernel
theorem pn_com_example_nonce_nonce_reader_ModelErrorEqualsPinLaw : plainName "com/example/nonce/nonce/reader/ModelErrorEqualsPinLaw" = true := by first | (simp [plainName, overriddenIn]; done) | decide +kernel
theorem d_prog_59_method_1_0 : decode prog_59_method_1_code 0 = .ok (.aload_n 0, 1) := by decide +kernel
theorem d_prog_59_method_1_1 : decode prog_59_method_1_code 1 = .ok (.invokespecial 1, 3) := by decide +kernel
theorem d_prog_59_method_1_4 : decode prog_59_method_1_code 4 = .ok (.aload_n 0, 1) := by decide +kernel
theorem d_prog_59_method_1_5 : decode prog_59_method_1_code 5 = .ok (.iload_n 1, 1) := by decide +kernel
theorem d_prog_59_method_1_6 : decode prog_59_method_1_code 6 = .ok (.putfield 7, 3) := by decide +kernel
theorem d_prog_59_method_1_9 : decode prog_59_method_1_code 9 = .ok (.aload_n 0, 1) := by decide +kernel
theorem d_prog_59_method_1_10 : decode prog_59_method_1_code 10 = .ok (.iload_n 2, 1) := by decide +kernel
theorem d_prog_59_method_1_11 : decode prog_59_method_1_code 11 = .ok (.putfield 13, 3) := by decide +kernel
theorem d_prog_59_method_1_14 : decode prog_59_method_1_code 14 = .ok (.aload_n 0, 1) := by decide +kernel
theorem d_prog_59_method_1_15 : decode prog_59_method_1_code 15 = .ok (.aload_n 3, 1) := by decide +kernel
theorem d_prog_59_method_1_16 : decode prog_59_method_1_code 16 = .ok (.ldc 16, 2) := by decide +kernel
theorem d_prog_59_method_1_18 : decode prog_59_method_1_code 18 = .ok (.invokestatic 18, 3) := by decide +kernel
theorem pd__Ljava_lang_Object_Ljava_lang_String__Ljava_lang_Object_ : parseMethodDescriptor "(Ljava/lang/Object;Ljava/lang/String;)Ljava/lang/Object;" = some ⟨[(.object "java/lang/Object"), (.object "java/lang/String")], some (.object "java/lang/Object")⟩ := by decide +kernel
theorem d_prog_59_method_1_21 : decode prog_59_method_1_code 21 = .ok (.checkcast 24, 3) := by decide +kernel
theorem d_prog_59_method_1_24 : decode prog_59_method_1_code 24 = .ok (.putfield 26, 3) := by decide +kernel
theorem d_prog_59_method_1_27 : decode prog_59_method_1_code 27 = .ok (.return_, 1) := by decide +kernel
theorem pn_com_example_nonce_nonce_reader_ModelError : plainName "com/example/nonce/nonce/reader/ModelError" = true := by first | (simp [plainName, overriddenIn]; done) | decide +kernel
theorem d_prog_59_method_5_0 : decode prog_59_method_5_code 0 = .ok (.aload_n 0, 1) := by decide +kernel
theorem d_prog_59_method_5_1 : decode prog_59_method_5_code 1 = .ok (.aload_n 1, 1) := by decide +kernel
theorem d_prog_59_method_5_2 : decode prog_59_method_5_code 2 = .ok (.if_acmp .ne 5, 3) := by decide +kernel
theorem d_prog_59_method_5_5 : decode prog_59_method_5_code 5 = .ok (.iconst 1, 1) := by decide +kernel
theorem d_prog_59_method_5_6 : decode prog_59_method_5_code 6 = .ok (.ireturn, 1) := by decide +kernel
theorem d_prog_59_method_5_7 : decode prog_59_method_5_code 7 = .ok (.aload_n 1, 1) := by decide +kernel
theorem d_prog_59_method_5_8 : decode prog_59_method_5_code 8 = .ok (.instanceof 8, 3) := by decide +kernel
theorem d_prog_59_method_5_11 : decode prog_59_method_5_code 11 = .ok (.ifCond .ne 5, 3) := by decide +kernel
theorem d_prog_59_method_5_14 : decode prog_59_method_5_code 14 = .ok (.iconst 0, 1) := by decide +kernel
theorem d_prog_59_method_5_15 : decode prog_59_method_5_code 15 = .ok (.ireturn, 1) := by decide +kernel
theorem d_prog_59_method_5_16 : decode prog_59_method_5_code 16 = .ok (.aload_n 1, 1) := by decide +kernel
theorem d_prog_59_method_5_17 : decode prog_59_method_5_code 17 = .ok (.checkcast 8, 3) := by decide +kernel
theorem d_prog_59_method_5_20 : decode prog_59_method_5_code 20 = .ok (.astore_n 2, 1) := by decide +kernel
theorem d_prog_59_method_5_21 : decode prog_59_method_5_code 21 = .ok (.aload_n 0, 1) := by decide +kernel
theorem d_prog_59_method_5_22 : decode prog_59_method_5_code 22 = .ok (.getfield 7, 3) := by decide +kernel
theorem d_prog_59_method_5_25 : decode prog_59_method_5_code 25 = .ok (.aload_n 2, 1) := by decide +kernel
theorem d_prog_59_method_5_26 : decode prog_59_method_5_code 26 = .ok (.getfield 7, 3) := by decide +kernel
theorem d_prog_59_method_5_29 : decode prog_59_method_5_code 29 = .ok (.if_icmp .ne 32, 3) := by decide +kernel
theorem d_prog_59_method_5_61 : decode prog_59_method_5_code 61 = .ok (.iconst 0, 1) := by decide +kernel
theorem d_prog_59_method_5_62 : decode prog_59_method_5_code 62 = .ok (.ireturn, 1) := by decide +kernel
theorem d_prog_59_method_5_32 : decode prog_59_method_5_code 32 = .ok (.aload_n 0, 1) := by decide +kernel
theorem d_prog_59_method_5_33 : decode prog_59_method_5_code 33 = .ok (.getfield 13, 3) := by decide +kernel
theorem d_prog_59_method_5_36 : decode prog_59_method_5_code 36 = .ok (.aload_n 2, 1) := by decide +kernel
theorem d_prog_59_method_5_37 : decode prog_59_method_5_code 37 = .ok (.getfield 13, 3) := by decide +kernel
theorem d_prog_59_method_5_40 : decode prog_59_method_5_code 40 = .ok (.if_icmp .ne 21, 3) := by decide +kernel
theorem d_prog_59_method_5_43 : decode prog_59_method_5_code 43 = .ok (.aload_n 0, 1) := by decide +kernel
theorem d_prog_59_method_5_44 : decode prog_59_method_5_code 44 = .ok (.getfield 26, 3) := by decide +kernel
theorem d_prog_59_method_5_47 : decode prog_59_method_5_code 47 = .ok (.aload_n 2, 1) := by decide +kernel
theorem d_prog_59_method_5_48 : decode prog_59_method_5_code 48 = .ok (.getfield 26, 3) := by decide +kernel
theorem d_prog_59_method_5_51 : decode prog_59_method_5_code 51 = .ok (.invokevirtual 29, 3) := by decide +kernel
theorem pd__Ljava_lang_Object__Z : parseMethodDescriptor "(Ljava/lang/Object;)Z" = some ⟨[(.object "java/lang/Object")], some .boolean⟩ := by decide +kernel
theorem d_prog_59_method_5_54 : decode prog_59_method_5_code 54 = .ok (.ifCond .eq 7, 3) := by decide +kernel
theorem d_prog_59_method_5_57 : decode prog_59_method_5_code 57 = .ok (.iconst 1, 1) := by decide +kernel
theorem d_prog_59_method_5_58 : decode prog_59_method_5_code 58 = .ok (.goto 4, 3) := by decide +kernel
theorem pd__III_Ljava_lang_String_ : parseMethodDescriptor "(III)Ljava/lang/String;" = some ⟨[.int, .int, .int], some (.object "java/lang/String")⟩ := by decide +kernel
theorem pd__IILjava_lang_String__V : parseMethodDescriptor "(IILjava/lang/String;)V" = some ⟨[.int, .int, (.object "java/lang/String")], none⟩ := by decide +kernel
def mkcs (n a b : Int32) : List Int32 := if n = 0 then [] else if n = 1 then [a] else [a, b]
def rg (a : Int32) : Prop := ¬ a < 0 ∧ ¬ 255 < a
theorem rg_and (x : Int32) : rg (x &&& 255) := by
  have r := c_and x 255 (by decide)
  have z0 : (0 : Int32).toInt = 0 := rfl
  have z1 : (255 : Int32).toInt = 255 := rfl
  unfold rg
  rw [Int32.lt_iff_toInt_lt, Int32.lt_iff_toInt_lt]
  omega
def l3 (n : Int32) : Prop := n = 0 ∨ n = 1 ∨ n = 2
theorem l3_rem (x : Int32) : l3 ((x &&& 3) % 3) := by
  have r := c_and x 3 (by decide)
  have z3 : (3 : Int32).toInt = 3 := rfl
  have q := (c_irem (x &&& 3) 3 3 rfl).1 r.1
  generalize (x &&& 3) % 3 = k at q
  have e0 : k = 0 ↔ k.toInt = 0 := ⟨fun q => by rw [q]; rfl, fun q => Int32.toInt_inj.mp q⟩
  have e1 : k = 1 ↔ k.toInt = 1 := ⟨fun q => by rw [q]; rfl, fun q => Int32.toInt_inj.mp q⟩
  have e2 : k = 2 ↔ k.toInt = 2 := ⟨fun q => by rw [q]; rfl, fun q => Int32.toInt_inj.mp q⟩
  unfold l3
  rw [e0, e1, e2]
  omega
def same (l1 c1 l2 c2 n1 a1 b1 n2 a2 b2 : Int32) : Bool := decide (l1 = l2) && (decide (c1 = c2) && decide (mkcs n1 a1 b1 = mkcs n2 a2 b2))
theorem same_comm (l1 c1 l2 c2 n1 a1 b1 n2 a2 b2 : Int32) : same l2 c2 l1 c1 n2 a2 b2 n1 a1 b1 = same l1 c1 l2 c2 n1 a1 b1 n2 a2 b2 := by
  unfold same; rw [decide_eq_decide.mpr (eq_comm : l2 = l1 ↔ _), decide_eq_decide.mpr (eq_comm : c2 = c1 ↔ _), decide_eq_decide.mpr (eq_comm : mkcs n2 a2 b2 = mkcs n1 a1 b1 ↔ _)]
set_option maxRecDepth 65536 in
set_option maxHeartbeats 40000000 in
theorem ctCmp5 (l : Launch) (Z : State) (a0 : Array Value) (hw : ∀ d ∈ tables_1, d.before a0 Z = true) (b d : Addr) (kb kd : ClassId) (cs : List Int32) (h0 : Heap) (hN : cs.length ≤ 1000) (hbd : b ≠ d) (gz : Z.heap.size ≤ d) (A0 : Arv Z h0 b kb .char (Int32.ofNat cs.length) (cs.map .int) (.int 0)) (B0 : Arv Z h0 d kd .byte (Int32.ofNat cs.length) (lay lo (.int 0) cs 0) (.int 0)) :
    W.Ct wd Z a0 el l (⟨"java/lang/StringUTF16", "compress", "([CI[BII)I"⟩ : MethodName) jdk_52_method_21_code 7 (some .int) ({ frames := 0, cells := 0, slots := 0, locals := 0 } : Room) #[(.ref b), (.int (0 : Int32)), (.ref d), (.int (0 : Int32)), (.int (Int32.ofNat cs.length))] h0 [d] (fun v h S => v = some (.int (Int32.ofNat (cs.findIdx big))) ∧ Keep h0 h [d] ∧ Arv Z h d kd .byte (Int32.ofNat cs.length) (lay lo (.int 0) cs (cs.findIdx big)) (.int 0)) := by
  refine W.Ct.walk hwe (plainFor_of_name pn_java_lang_StringUTF16) ?_
  intro p e s m below meth c T hE0 X
  refine W.castG (show entryFrame m #[(.ref b), (.int (0 : Int32)), (.ref d), (.int (0 : Int32)), (.int (Int32.ofNat cs.length))] 7 = mkF m 0 #[.val (.ref b), .val (.int (0 : Int32)), .val (.ref d), .val (.int (0 : Int32)), .val (.int (Int32.ofNat cs.length)), .unset, .unset] [] from by first | (simp [entryFrame, mkF, argsToLocals, Value.category]; done) | rfl) ?_
  refine W.o_iconst X (0 : Int32) (pc' := 1) d_jdk_52_method_21_0 rfl rfl ?_
  refine W.o_istore X (pc' := 3) d_jdk_52_method_21_1 rfl (L' := #[.val (.ref b), .val (.int (0 : Int32)), .val (.ref d), .val (.int (0 : Int32)), .val (.int (Int32.ofNat cs.length)), .val (.int (0 : Int32)), .unset]) rfl ?_
  have loop : ∀ (k j : Nat), j + k = cs.length → (∀ i (hi : i < j) (hl : i < cs.length), big cs[i] = false) → ∀ (T : State) (h : Heap) (s6 : Slot), (s6 = .unset ∨ ∃ x, s6 = .val (.int x)) → W.St wd Z a0 el (⟨"java/lang/StringUTF16", "compress", "([CI[BII)I"⟩ : MethodName) jdk_52_method_21_code 7 (some .int) p l e ({ frames := 0, cells := 0, slots := 0, locals := 0 } : Room) s m #[(.ref b), (.int (0 : Int32)), (.ref d), (.int (0 : Int32)), (.int (Int32.ofNat cs.length))] below meth c T h [d] 0 0 → Keep h0 h [d] → Arv Z h d kd .byte (Int32.ofNat cs.length) (lay lo (.int 0) cs j) (.int 0) → W.Go wd Z el ({ frames := 0, cells := 0, slots := 0, locals := 0 } : Room).cells ({ frames := 0, cells := 0, slots := 0, locals := 0 } : Room).slots (fun v h S => v = some (.int (Int32.ofNat (cs.findIdx big))) ∧ Keep h0 h [d] ∧ Arv Z h d kd .byte (Int32.ofNat cs.length) (lay lo (.int 0) cs (cs.findIdx big)) (.int 0)) p e s below T (mkF m 3 #[.val (.ref b), .val (.int (Int32.ofNat j)), .val (.ref d), .val (.int (Int32.ofNat j)), .val (.int (Int32.ofNat cs.length)), .val (.int (Int32.ofNat j)), s6] []) := by
    intro k
    induction k with
    | zero =>
      intro j hj hp T h s6 h6 X K B
      have e : cs.findIdx big = j := by
        rw [show j = cs.length by omega]
        exact List.findIdx_eq_length.mpr fun x hx => by
          obtain ⟨i, hi, rfl⟩ := List.mem_iff_getElem.mp hx
          exact hp i (by omega) hi
      refine W.o_iload X (pc' := 5) d_jdk_52_method_21_3 rfl rfl ?_
      refine W.o_iload X (pc' := 7) d_jdk_52_method_21_5 rfl rfl ?_
      refine W.o_if_icmpge X (pt := 44) (pf := 10) d_jdk_52_method_21_7 ⟨by decide, by decide⟩ rfl (fun _ => ?_) (fun hc => absurd hc (o32_ge (by omega) (by omega)))
      refine W.o_iload X (pc' := 46) d_jdk_52_method_21_44 rfl rfl ?_
      refine W.o_ireturnI X d_jdk_52_method_21_46 rfl (by decide) (by decide) fun P hP => ⟨?_, K, ?_⟩
      · rw [e, show j = cs.length by omega]
      · rw [e]; exact B
    | succ k ih =>
      intro j hj hp T h s6 h6 X K B
      have hjl : j < cs.length := by omega
      have A := A0.keep K (ninS hbd nin0)
      rcases h6 with rfl | ⟨x6, rfl⟩
      all_goals
        refine W.o_iload X (pc' := 5) d_jdk_52_method_21_3 rfl rfl ?_
        refine W.o_iload X (pc' := 7) d_jdk_52_method_21_5 rfl rfl ?_
        refine W.o_if_icmpge X (pt := 44) (pf := 10) d_jdk_52_method_21_7 ⟨by decide, by decide⟩ rfl (fun hc => absurd (o32_lt hjl (by omega)).2 hc) (fun _ => ?_)
        refine W.o_aloadN X (pc' := 11) d_jdk_52_method_21_10 rfl rfl rfl ?_
        refine W.o_iloadN X (pc' := 12) d_jdk_52_method_21_11 rfl rfl ?_
        refine W.o_caload X (pc' := 13) d_jdk_52_method_21_12 rfl A (o32_lt hjl (by omega)) (v := .int cs[j]) (by rw [o32_clamp (by omega)]; exact getD_map hjl _) ?_
        refine W.o_istore X (pc' := 15) d_jdk_52_method_21_13 rfl (L' := #[.val (.ref b), .val (.int (Int32.ofNat j)), .val (.ref d), .val (.int (Int32.ofNat j)), .val (.int (Int32.ofNat cs.length)), .val (.int (Int32.ofNat j)), .val (.int cs[j])]) rfl ?_
        refine W.o_iload X (pc' := 17) d_jdk_52_method_21_15 rfl rfl ?_
        refine W.o_sipush X (255 : Int32) (pc' := 20) d_jdk_52_method_21_17 rfl rfl ?_
        refine W.o_if_icmple X (pt := 26) (pf := 23) d_jdk_52_method_21_20 ⟨by decide, by decide⟩ rfl (fun hc => ?_) (fun hc => ?_)
        · have hp' : ∀ i (hi : i < j + 1) (hl : i < cs.length), big cs[i] = false := fun i hi hl => by
            rcases Nat.lt_succ_iff_lt_or_eq.mp hi with q | q
            · exact hp i q hl
            · subst q; exact decide_eq_false hc
          refine W.o_aloadN X (pc' := 27) d_jdk_52_method_21_26 rfl rfl rfl ?_
          refine W.o_iloadN X (pc' := 28) d_jdk_52_method_21_27 rfl rfl ?_
          refine W.o_iload X (pc' := 30) d_jdk_52_method_21_28 rfl rfl ?_
          refine W.o_i2b X (pc' := 31) d_jdk_52_method_21_30 rfl ?_
          refine W.o_bastore X (pc' := 32) d_jdk_52_method_21_31 rfl B j (o32_clamp (by omega)) (o32_lt hjl (by omega)) (by rw [lay_len _ _ _ _ (by omega)]; exact hjl) gz (Or.inr (Or.inl (by simp))) (fun T h' w' B' X => ?_)
          rw [nar_bb] at B'
          have B2 : Arv Z h' d kd .byte (Int32.ofNat cs.length) (lay lo (.int 0) cs (j + 1)) (.int 0) := by rw [← lay_set lo (.int 0) cs j hjl]; exact B'
          refine W.o_iinc X (1 : Int32) (pc' := 35) d_jdk_52_method_21_32 rfl rfl rfl (L' := #[.val (.ref b), .val (.int ((Int32.ofNat j) + (1 : Int32))), .val (.ref d), .val (.int (Int32.ofNat j)), .val (.int (Int32.ofNat cs.length)), .val (.int (Int32.ofNat j)), .val (.int cs[j])]) rfl ?_
          refine W.o_iinc X (1 : Int32) (pc' := 38) d_jdk_52_method_21_35 rfl rfl rfl (L' := #[.val (.ref b), .val (.int ((Int32.ofNat j) + (1 : Int32))), .val (.ref d), .val (.int ((Int32.ofNat j) + (1 : Int32))), .val (.int (Int32.ofNat cs.length)), .val (.int (Int32.ofNat j)), .val (.int cs[j])]) rfl ?_
          refine W.o_iinc X (1 : Int32) (pc' := 41) d_jdk_52_method_21_38 rfl rfl rfl (L' := #[.val (.ref b), .val (.int ((Int32.ofNat j) + (1 : Int32))), .val (.ref d), .val (.int ((Int32.ofNat j) + (1 : Int32))), .val (.int (Int32.ofNat cs.length)), .val (.int ((Int32.ofNat j) + (1 : Int32))), .val (.int cs[j])]) rfl ?_
          refine W.o_goto X (pc' := 3) d_jdk_52_method_21_41 ⟨by decide, by decide⟩ ?_
          rw [o32_succ]
          exact ih (j + 1) (by omega) hp' T h' _ (Or.inr ⟨_, rfl⟩) X (K.wr w' (Or.inl (by simp))) B2
        · have e : cs.findIdx big = j := (List.findIdx_eq hjl).mpr ⟨decide_eq_true hc, fun i hi => hp i hi (by omega)⟩
          refine W.o_iload X (pc' := 25) d_jdk_52_method_21_23 rfl rfl ?_
          exact W.o_ireturnI X d_jdk_52_method_21_25 rfl (by decide) (by decide) fun P hP => ⟨by rw [e], K, by rw [e]; exact B⟩
  exact loop cs.length 0 (by omega) (fun i hi => absurd hi (Nat.not_lt_zero i)) _ h0 _ (Or.inl rfl) X (Keep.refl _ _) B0
set_option maxRecDepth 65536 in
set_option maxHeartbeats 40000000 in
theorem ctCmp3 (l : Launch) (Z : State) (a0 : Array Value) (hw : ∀ d ∈ tables_1, d.before a0 Z = true) (b : Addr) (kb : ClassId) (cs : List Int32) (h0 : Heap) (hN : cs.length ≤ 32) (hlat : ∀ c ∈ cs, ¬ c < 0 ∧ ¬ 255 < c) (A0 : Arv Z h0 b kb .char (Int32.ofNat cs.length) (cs.map .int) (.int 0)) :
    W.Ct wd Z a0 el l (⟨"java/lang/StringUTF16", "compress", "([CII)[B"⟩ : MethodName) jdk_52_method_16_code 6 (some (.array .byte)) ({ frames := 1, cells := 1, slots := 32, locals := 23 } : Room) #[(.ref b), (.int (0 : Int32)), (.int (Int32.ofNat cs.length))] h0 [] (fun v h S => ∃ d kd, v = some (.ref d) ∧ Keep h0 h [] ∧ h0.size ≤ d ∧ Arv Z h d kd .byte (Int32.ofNat cs.length) (cs.map lo) (.int 0)) := by
  refine W.Ct.walk hwe (plainFor_of_name pn_java_lang_StringUTF16) ?_
  intro p e s m below meth c T hE0 X
  refine W.castG (show entryFrame m #[(.ref b), (.int (0 : Int32)), (.int (Int32.ofNat cs.length))] 6 = mkF m 0 #[.val (.ref b), .val (.int (0 : Int32)), .val (.int (Int32.ofNat cs.length)), .unset, .unset, .unset] [] from by first | (simp [entryFrame, mkF, argsToLocals, Value.category]; done) | rfl) ?_
  have hfi : cs.findIdx big = cs.length := List.findIdx_eq_length.mpr fun x hx => decide_eq_false (hlat x hx).2
  refine W.o_iloadN X (pc' := 1) d_jdk_52_method_16_0 rfl rfl ?_
  refine W.o_newarray X (pc' := 3) d_jdk_52_method_16_1 rfl (hw _ (List.mem_of_getElem? (i := 22) rfl)) (o32_nn (by omega)) (cap := 32) (by rw [o32_clamp (by omega)]; exact hN) (by decide) (by decide) (by decide) (fun T h1 d kd g1 z1 E1 V1 X => ?_)
  have B1 : Arv Z h1 d kd .byte (Int32.ofNat cs.length) (lay lo (.int 0) cs 0) (.int 0) := by rw [lay_zero]; exact V1.pad (pad_rep [] (.int 0) cs.length)
  refine W.o_astoreN X (pc' := 4) d_jdk_52_method_16_3 rfl (L' := #[.val (.ref b), .val (.int (0 : Int32)), .val (.int (Int32.ofNat cs.length)), .val (.ref d), .unset, .unset]) rfl rfl ?_
  refine W.o_aloadN X (pc' := 5) d_jdk_52_method_16_4 rfl rfl rfl ?_
  refine W.o_iloadN X (pc' := 6) d_jdk_52_method_16_5 rfl rfl ?_
  refine W.o_aloadN X (pc' := 7) d_jdk_52_method_16_6 rfl rfl rfl ?_
  refine W.o_iconst X (0 : Int32) (pc' := 8) d_jdk_52_method_16_7 rfl rfl ?_
  refine W.o_iloadN X (pc' := 9) d_jdk_52_method_16_8 rfl rfl ?_
  have f1 := (A0.ext E1)
  refine W.o_static X (pc' := 12) d_jdk_52_method_16_9 rfl (z := (⟨"java/lang/StringUTF16", "compress", "([CI[BII)I"⟩ : MethodName)) (hw _ (List.mem_of_getElem? (i := 67) rfl)) (hw _ (List.mem_of_getElem? (i := 68) rfl)) (hw _ (List.mem_of_getElem? (i := 65) rfl)) (hw _ (List.mem_of_getElem? (i := 69) rfl)) (by decide) (ctCmp5 l Z a0 hw b d kb kd cs h1 (by omega) (Nat.ne_of_lt (Nat.lt_of_lt_of_le A0.lt (Nat.le_of_eq g1.symm))) z1 f1 B1) (allS ⟨B1.lt, (Or.inr (Or.inl (by simp)))⟩ all0) [(.ref b), (.int (0 : Int32)), (.ref d), (.int (0 : Int32)), (.int (Int32.ofNat cs.length))] rfl (rest := []) rfl pd___CI_BII_I rfl rfl (by decide) (by exact Nat.le_of_ble_eq_true rfl) (by decide) (by decide) (fun v2 T q3 => ?_)
  obtain ⟨h6, S4, ⟨rfl, K2, B2⟩, X5⟩ := q3
  have X := X5 [] all0
  rw [hfi, lay_all] at B2
  rw [hfi]
  show W.Go _ _ _ _ _ _ _ _ _ _ _ (mkF m 12 #[.val (.ref b), .val (.int (0 : Int32)), .val (.int (Int32.ofNat cs.length)), .val (.ref d), .unset, .unset] [(.int (Int32.ofNat cs.length))])
  refine W.o_istore X (pc' := 14) d_jdk_52_method_16_12 rfl (L' := #[.val (.ref b), .val (.int (0 : Int32)), .val (.int (Int32.ofNat cs.length)), .val (.ref d), .val (.int (Int32.ofNat cs.length)), .unset]) rfl ?_
  refine W.o_iload X (pc' := 16) d_jdk_52_method_16_14 rfl rfl ?_
  refine W.o_iloadN X (pc' := 17) d_jdk_52_method_16_16 rfl rfl ?_
  refine W.o_if_icmpeq X (pt := 57) (pf := 20) d_jdk_52_method_16_17 ⟨by decide, by decide⟩ rfl (fun _ => ?_) (fun hc => absurd rfl hc)
  refine W.o_aloadN X (pc' := 58) d_jdk_52_method_16_57 rfl rfl rfl ?_
  exact W.o_areturn X d_jdk_52_method_16_58 rfl rfl rfl (by decide) (by decide) fun P hP => ⟨d, kd, rfl, ((Keep.refl h0 []).ext E1).trans K2 (allS (Or.inr (Nat.le_of_eq g1.symm)) all0), Nat.le_of_eq g1.symm, B2⟩
set_option maxRecDepth 65536 in
set_option maxHeartbeats 40000000 in
theorem ctCodL (l : Launch) (Z : State) (a0 : Array Value) (hw : ∀ d ∈ tables_1, d.before a0 Z = true) (d : Addr) (kd : ClassId) (z : Int32) (vs : List Value) (h0 : Heap) (B0 : Arv Z h0 d kd .byte z vs (.int 0)) :
    W.Ct wd Z a0 el l (⟨"java/lang/StringUTF16", "coderFromArrayLen", "([BI)B"⟩ : MethodName) jdk_52_method_15_code 2 (some .byte) ({ frames := 0, cells := 0, slots := 0, locals := 0 } : Room) #[(.ref d), (.int z)] h0 [] (fun v h S => v = some (.int 0) ∧ h = h0) := by
  refine W.Ct.walk hwe (plainFor_of_name pn_java_lang_StringUTF16) ?_
  intro p e s m below meth c T hE0 X
  refine W.castG (show entryFrame m #[(.ref d), (.int z)] 2 = mkF m 0 #[.val (.ref d), .val (.int z)] [] from by first | (simp [entryFrame, mkF, argsToLocals, Value.category]; done) | rfl) ?_
  refine W.o_iloadN X (pc' := 1) d_jdk_52_method_15_0 rfl rfl ?_
  refine W.o_aloadN X (pc' := 2) d_jdk_52_method_15_1 rfl rfl rfl ?_
  refine W.o_arraylength X (pc' := 3) d_jdk_52_method_15_2 rfl B0 ?_
  refine W.o_isub X (pc' := 4) d_jdk_52_method_15_3 rfl ?_
  refine W.o_bipush X (31 : Int32) (pc' := 6) d_jdk_52_method_15_4 rfl rfl ?_
  refine W.o_iushr X (pc' := 7) d_jdk_52_method_15_6 rfl ?_
  refine W.o_i2b X (pc' := 8) d_jdk_52_method_15_7 rfl ?_
  exact W.o_ireturn X d_jdk_52_method_15_8 rfl (Or.inr (Or.inl rfl)) (v := 0) (by rw [Int32.sub_self]; decide) (by decide) (by decide) fun P hP => ⟨rfl, rfl⟩
set_option maxRecDepth 65536 in
set_option maxHeartbeats 40000000 in
theorem ctNew4 (l : Launch) (Z : State) (a0 : Array Value) (hw : ∀ d ∈ tables_1, d.before a0 Z = true) (a b : Addr) (kb : ClassId) (cs : List Int32) (cz : Int32) (h0 : Heap) (hN : cs.length ≤ 32) (hn : cs.length ≠ 0) (hlat : ∀ c ∈ cs, ¬ c < 0 ∧ ¬ 255 < c) (C0 : Sta Z Z.heap "java/lang/String" "COMPACT_STRINGS" "Z" (.int cz)) (hcz : ¬ cz = 0) (gz : Z.heap.size ≤ a) (E0 : Exa Z h0 a "java/lang/String") (F0 : Fld Z h0 a "java/lang/String" "value" "[B" .null) (F1 : Fld Z h0 a "java/lang/String" "coder" "B" (.int (0 : Int32))) (A0 : Arv Z h0 b kb .char (Int32.ofNat cs.length) (cs.map .int) (.int 0)) :
    W.Ct wd Z a0 el l (⟨"java/lang/String", "<init>", "([CIILjava/lang/Void;)V"⟩ : MethodName) jdk_42_method_149_code 6 none ({ frames := 2, cells := 1, slots := 32, locals := 40 } : Room) #[(.ref a), (.ref b), (.int (0 : Int32)), (.int (Int32.ofNat cs.length)), .null] h0 [a] (fun v h S => v = none ∧ Keep h0 h [a] ∧ ∃ t, h0.size ≤ t ∧ Str Z h a t cs) := by
  refine W.Ct.walk hwe (plainFor_of_name pn_java_lang_String) ?_
  intro p e s m below meth c T hE0 X
  refine W.castG (show entryFrame m #[(.ref a), (.ref b), (.int (0 : Int32)), (.int (Int32.ofNat cs.length)), .null] 6 = mkF m 0 #[.val (.ref a), .val (.ref b), .val (.int (0 : Int32)), .val (.int (Int32.ofNat cs.length)), .val .null, .unset] [] from by first | (simp [entryFrame, mkF, argsToLocals, Value.category]; done) | rfl) ?_
  refine W.o_aloadN X (pc' := 1) d_jdk_42_method_149_0 rfl rfl rfl ?_
  refine W.o_initO X (pc' := 4) d_jdk_42_method_149_1 rfl (hw _ (List.mem_of_getElem? (i := 18) rfl)) (hw _ (List.mem_of_getElem? (i := 19) rfl)) (hw _ (List.mem_of_getElem? (i := 20) rfl)) rfl (by decide) (by decide) (fun T X => ?_)
  refine W.o_iloadN X (pc' := 5) d_jdk_42_method_149_4 rfl rfl ?_
  refine W.o_ifne X (pt := 27) (pf := 8) d_jdk_42_method_149_5 ⟨by decide, by decide⟩ rfl (fun _ => ?_) (fun hc => absurd hc (fun q => hn (o32_inj (n := 0) (by omega) (by omega) q)))
  refine W.o_getstatic X (pc' := 30) d_jdk_42_method_149_27 rfl (hw _ (List.mem_of_getElem? (i := 58) rfl)) Via.refl C0 (fun T X => ?_)
  refine W.o_ifeq X (pt := 58) (pf := 33) d_jdk_42_method_149_30 ⟨by decide, by decide⟩ rfl (fun hc => absurd hc hcz) (fun _ => ?_)
  refine W.o_aloadN X (pc' := 34) d_jdk_42_method_149_33 rfl rfl rfl ?_
  refine W.o_iloadN X (pc' := 35) d_jdk_42_method_149_34 rfl rfl ?_
  refine W.o_iloadN X (pc' := 36) d_jdk_42_method_149_35 rfl rfl ?_
  refine W.o_static X (pc' := 39) d_jdk_42_method_149_36 rfl (z := (⟨"java/lang/StringUTF16", "compress", "([CII)[B"⟩ : MethodName)) (hw _ (List.mem_of_getElem? (i := 63) rfl)) (hw _ (List.mem_of_getElem? (i := 64) rfl)) (hw _ (List.mem_of_getElem? (i := 65) rfl)) (hw _ (List.mem_of_getElem? (i := 66) rfl)) (by decide) (ctCmp3 l Z a0 hw b kb cs h0 hN hlat A0) (fun _ q => nomatch q) [(.ref b), (.int (0 : Int32)), (.int (Int32.ofNat cs.length))] rfl (rest := []) rfl pd___CII__B rfl rfl (by decide) (by exact Nat.le_of_ble_eq_true rfl) (by decide) (by decide) (fun v7 T q8 => ?_)
  obtain ⟨h11, S9, ⟨d, kd, rfl, K2, gd, B2⟩, X10⟩ := q8
  have X := X10 [] all0
  show W.Go _ _ _ _ _ _ _ _ _ _ _ (mkF m 39 #[.val (.ref a), .val (.ref b), .val (.int (0 : Int32)), .val (.int (Int32.ofNat cs.length)), .val .null, .unset] [(.ref d)])
  refine W.o_astore X (pc' := 41) d_jdk_42_method_149_39 rfl (L' := #[.val (.ref a), .val (.ref b), .val (.int (0 : Int32)), .val (.int (Int32.ofNat cs.length)), .val .null, .val (.ref d)]) rfl rfl ?_
  refine W.o_aloadN X (pc' := 42) d_jdk_42_method_149_41 rfl rfl rfl ?_
  refine W.o_aload X (pc' := 44) d_jdk_42_method_149_42 rfl rfl rfl ?_
  refine W.o_iloadN X (pc' := 45) d_jdk_42_method_149_44 rfl rfl ?_
  refine W.o_static X (pc' := 48) d_jdk_42_method_149_45 rfl (z := (⟨"java/lang/StringUTF16", "coderFromArrayLen", "([BI)B"⟩ : MethodName)) (hw _ (List.mem_of_getElem? (i := 70) rfl)) (hw _ (List.mem_of_getElem? (i := 71) rfl)) (hw _ (List.mem_of_getElem? (i := 65) rfl)) (hw _ (List.mem_of_getElem? (i := 72) rfl)) (by decide) (ctCodL l Z a0 hw d kd (Int32.ofNat cs.length) _ h11 B2) (fun _ q => nomatch q) [(.ref d), (.int (Int32.ofNat cs.length))] rfl (rest := [(.ref a)]) rfl pd___BI_B rfl rfl (by decide) (by exact Nat.le_of_ble_eq_true rfl) (by decide) (by decide) (fun v12 T q13 => ?_)
  obtain ⟨h16, S14, ⟨rfl, eh⟩, X15⟩ := q13
  have eh := eh.symm
  subst eh
  have X := X15 [] all0
  show W.Go _ _ _ _ _ _ _ _ _ _ _ (mkF m 48 #[.val (.ref a), .val (.ref b), .val (.int (0 : Int32)), .val (.int (Int32.ofNat cs.length)), .val .null, .val (.ref d)] [(.int (0 : Int32)), (.ref a)])
  have f17 := (E0.keep K2)
  have f18 := (F1.keep K2 nin0)
  refine W.o_putfieldN X (pc' := 51) d_jdk_42_method_149_48 rfl (hw _ (List.mem_of_getElem? (i := 28) rfl)) Via.refl f18 f17 (Or.inr ⟨(hw _ (List.mem_of_getElem? (i := 24) rfl)), rfl, rfl⟩) (hw _ (List.mem_of_getElem? (i := 8) rfl)) (ty := .byte) (v' := (.int (0 : Int32))) (by decide) rfl rfl gz (Or.inr (Or.inl (by simp))) (fun T h19 w20 X => ?_)
  have f21 := f18.same w20
  refine W.o_aloadN X (pc' := 52) d_jdk_42_method_149_51 rfl rfl rfl ?_
  refine W.o_aload X (pc' := 54) d_jdk_42_method_149_52 rfl rfl rfl ?_
  have f22 := (f17.wr w20)
  have f23 := ((F0.keep K2 nin0).other w20 (Or.inr (slot_ne (Or.inr (hw _ (List.mem_of_getElem? (i := 23) rfl))) (Or.inr (hw _ (List.mem_of_getElem? (i := 24) rfl))) (by decide) (t := (.array .byte)) (t' := .byte) (by decide) (by decide))))
  refine W.o_putfield X (pc' := 57) d_jdk_42_method_149_54 rfl (hw _ (List.mem_of_getElem? (i := 27) rfl)) Via.refl f23 f22 (Or.inr ⟨(hw _ (List.mem_of_getElem? (i := 23) rfl)), rfl, rfl⟩) (hw _ (List.mem_of_getElem? (i := 8) rfl)) (ty := (.array .byte)) (by decide) rfl rfl gz (Or.inr (Or.inl (by simp))) (fun T h24 w25 X => ?_)
  have f26 := f23.same w25
  have f27 := (f22.wr w25)
  have f28 := (f21.other w25 (Or.inr (slot_ne (Or.inr (hw _ (List.mem_of_getElem? (i := 24) rfl))) (Or.inr (hw _ (List.mem_of_getElem? (i := 23) rfl))) (by decide) (t := .byte) (t' := (.array .byte)) (by decide) (by decide))))
  have f29 := ((B2.other w20 (Ne.symm (Nat.ne_of_lt (Nat.lt_of_lt_of_le E0.lt gd)))).other w25 (Ne.symm (Nat.ne_of_lt (Nat.lt_of_lt_of_le E0.lt gd))))
  exact W.o_return X d_jdk_42_method_149_57 (by decide) (by decide) fun P hP => ⟨rfl, ((((Keep.refl h0 [a]).trans K2 all0).wr w20 (Or.inl (by simp))).wr w25 (Or.inl (by simp))), d, gd, f27, f28, f26, ⟨kd, f29⟩, by omega, hlat⟩
set_option maxRecDepth 65536 in
set_option maxHeartbeats 40000000 in
theorem ctNew1 (l : Launch) (Z : State) (a0 : Array Value) (hw : ∀ d ∈ tables_1, d.before a0 Z = true) (a b : Addr) (kb : ClassId) (cs : List Int32) (cz : Int32) (h0 : Heap) (hN : cs.length ≤ 32) (hn : cs.length ≠ 0) (hlat : ∀ c ∈ cs, ¬ c < 0 ∧ ¬ 255 < c) (C0 : Sta Z Z.heap "java/lang/String" "COMPACT_STRINGS" "Z" (.int cz)) (hcz : ¬ cz = 0) (gz : Z.heap.size ≤ a) (E0 : Exa Z h0 a "java/lang/String") (F0 : Fld Z h0 a "java/lang/String" "value" "[B" .null) (F1 : Fld Z h0 a "java/lang/String" "coder" "B" (.int (0 : Int32))) (A0 : Arv Z h0 b kb .char (Int32.ofNat cs.length) (cs.map .int) (.int 0)) :
    W.Ct wd Z a0 el l (⟨"java/lang/String", "<init>", "([C)V"⟩ : MethodName) jdk_42_method_3_code 2 none ({ frames := 3, cells := 1, slots := 32, locals := 57 } : Room) #[(.ref a), (.ref b)] h0 [a] (fun v h S => v = none ∧ Keep h0 h [a] ∧ ∃ t, h0.size ≤ t ∧ Str Z h a t cs) := by
  refine W.Ct.walk hwe (plainFor_of_name pn_java_lang_String) ?_
  intro p e s m below meth c T hE0 X
  refine W.castG (show entryFrame m #[(.ref a), (.ref b)] 2 = mkF m 0 #[.val (.ref a), .val (.ref b)] [] from by first | (simp [entryFrame, mkF, argsToLocals, Value.category]; done) | rfl) ?_
  refine W.o_aloadN X (pc' := 1) d_jdk_42_method_3_0 rfl rfl rfl ?_
  refine W.o_aloadN X (pc' := 2) d_jdk_42_method_3_1 rfl rfl rfl ?_
  refine W.o_iconst X (0 : Int32) (pc' := 3) d_jdk_42_method_3_2 rfl rfl ?_
  refine W.o_aloadN X (pc' := 4) d_jdk_42_method_3_3 rfl rfl rfl ?_
  refine W.o_arraylength X (pc' := 5) d_jdk_42_method_3_4 rfl A0 ?_
  refine W.o_aconst_null X (pc' := 6) d_jdk_42_method_3_5 rfl ?_
  refine W.o_special X (pc' := 9) d_jdk_42_method_3_6 rfl (z := (⟨"java/lang/String", "<init>", "([CIILjava/lang/Void;)V"⟩ : MethodName)) rfl (hw _ (List.mem_of_getElem? (i := 14) rfl)) (hw _ (List.mem_of_getElem? (i := 15) rfl)) (hw _ (List.mem_of_getElem? (i := 9) rfl)) (hw _ (List.mem_of_getElem? (i := 17) rfl)) (by decide) (ctNew4 l Z a0 hw a b kb cs cz h0 hN hn hlat C0 hcz gz E0 F0 F1 A0) (allS ⟨E0.lt, (Or.inr (Or.inl (by simp)))⟩ all0) [(.ref b), (.int (0 : Int32)), (.int (Int32.ofNat cs.length)), .null] rfl (rest := []) rfl pd___CIILjava_lang_Void__V rfl rfl (by decide) (by exact Nat.le_of_ble_eq_true rfl) (by decide) (by decide) (fun v30 T q31 => ?_)
  obtain ⟨h34, S32, ⟨rfl, K2, t, gt, R2⟩, X33⟩ := q31
  have X := X33 [] all0
  show W.Go _ _ _ _ _ _ _ _ _ _ _ (mkF m 9 #[.val (.ref a), .val (.ref b)] [])
  exact W.o_return X d_jdk_42_method_3_9 (by decide) (by decide) fun P hP => ⟨rfl, K2, t, gt, R2⟩
set_option maxRecDepth 65536 in
set_option maxHeartbeats 40000000 in
theorem ctNew4E (l : Launch) (Z : State) (a0 : Array Value) (hw : ∀ d ∈ tables_1, d.before a0 Z = true) (a b : Addr) (h0 : Heap) (gz : Z.heap.size ≤ a) (E0 : Exa Z h0 a "java/lang/String") (F0 : Fld Z h0 a "java/lang/String" "value" "[B" .null) (F1 : Fld Z h0 a "java/lang/String" "coder" "B" (.int (0 : Int32))) :
    W.Ct wd Z a0 el l (⟨"java/lang/String", "<init>", "([CIILjava/lang/Void;)V"⟩ : MethodName) jdk_42_method_149_code 6 none ({ frames := 1, cells := 4, slots := 8, locals := 12 } : Room) #[(.ref a), (.ref b), (.int (0 : Int32)), (.int (0 : Int32)), .null] h0 [a] (fun v h S => v = none ∧ Keep h0 h [a] ∧ ∃ t, Str Z h a t []) := by
  refine W.Ct.walk hwe (plainFor_of_name pn_java_lang_String) ?_
  intro p e s m below meth c T hE0 X
  refine W.castG (show entryFrame m #[(.ref a), (.ref b), (.int (0 : Int32)), (.int (0 : Int32)), .null] 6 = mkF m 0 #[.val (.ref a), .val (.ref b), .val (.int (0 : Int32)), .val (.int (0 : Int32)), .val .null, .unset] [] from by first | (simp [entryFrame, mkF, argsToLocals, Value.category]; done) | rfl) ?_
  have hwS : ∀ a ∈ Bundle.stringAtoms, a.before a0 Z = true := fun a ha => hw a (hwS0 a ha)
  refine W.o_aloadN X (pc' := 1) d_jdk_42_method_149_0 rfl rfl rfl ?_
  refine W.o_initO X (pc' := 4) d_jdk_42_method_149_1 rfl (hw _ (List.mem_of_getElem? (i := 18) rfl)) (hw _ (List.mem_of_getElem? (i := 19) rfl)) (hw _ (List.mem_of_getElem? (i := 20) rfl)) rfl (by decide) (by decide) (fun T X => ?_)
  refine W.o_iloadN X (pc' := 5) d_jdk_42_method_149_4 rfl rfl ?_
  refine W.o_ifne X (pt := 27) (pf := 8) d_jdk_42_method_149_5 ⟨by decide, by decide⟩ rfl (fun hc => absurd rfl hc) (fun _ => ?_)
  refine W.o_aloadN X (pc' := 9) d_jdk_42_method_149_8 rfl rfl rfl ?_
  refine W.o_ldcT X rfl (pc' := 11) d_jdk_42_method_149_9 rfl (hw _ (List.mem_of_getElem? (i := 21) rfl)) hwS (by decide) (vs := []) (z := 0) ⟨fun c hc => (nomatch hc), rfl⟩ (by decide) (by decide) (nn := 0) (by decide) (by decide) (by decide) (by decide) (fun T hl1 s1 u1 kl1 el1 El1 Cl1 Vl1 Bl1 nl1 X => ?_)
  refine W.o_getfield X (pc' := 14) d_jdk_42_method_149_11 rfl (hw _ (List.mem_of_getElem? (i := 27) rfl)) Via.refl Vl1 (fun T X => ?_)
  have f35 := (E0.ext el1)
  have f36 := (F0.ext el1)
  refine W.o_putfield X (pc' := 17) d_jdk_42_method_149_14 rfl (hw _ (List.mem_of_getElem? (i := 27) rfl)) Via.refl f36 f35 (Or.inr ⟨(hw _ (List.mem_of_getElem? (i := 23) rfl)), rfl, rfl⟩) (hw _ (List.mem_of_getElem? (i := 8) rfl)) (ty := (.array .byte)) (by decide) rfl rfl gz (Or.inr (Or.inl (by simp))) (fun T h37 w38 X => ?_)
  have f39 := f36.same w38
  refine W.o_aloadN X (pc' := 18) d_jdk_42_method_149_17 rfl rfl rfl ?_
  refine W.o_ldcT X rfl (pc' := 20) d_jdk_42_method_149_18 rfl (hw _ (List.mem_of_getElem? (i := 21) rfl)) hwS (by decide) (vs := []) (z := 0) ⟨fun c hc => (nomatch hc), rfl⟩ (by decide) (by decide) (nn := 0) (by decide) (by decide) (by decide) (by decide) (fun T hl2 s2 u2 kl2 el2 El2 Cl2 Vl2 Bl2 nl2 X => ?_)
  refine W.o_getfield X (pc' := 23) d_jdk_42_method_149_20 rfl (hw _ (List.mem_of_getElem? (i := 28) rfl)) Via.refl Cl2 (fun T X => ?_)
  have f40 := ((f35.wr w38).ext el2)
  have f41 := (((F1.ext el1).other w38 (Or.inr (slot_ne (Or.inr (hw _ (List.mem_of_getElem? (i := 24) rfl))) (Or.inr (hw _ (List.mem_of_getElem? (i := 23) rfl))) (by decide) (t := .byte) (t' := (.array .byte)) (by decide) (by decide)))).ext el2)
  refine W.o_putfieldN X (pc' := 26) d_jdk_42_method_149_23 rfl (hw _ (List.mem_of_getElem? (i := 28) rfl)) Via.refl f41 f40 (Or.inr ⟨(hw _ (List.mem_of_getElem? (i := 24) rfl)), rfl, rfl⟩) (hw _ (List.mem_of_getElem? (i := 8) rfl)) (ty := .byte) (v' := (.int (0 : Int32))) (by decide) rfl rfl gz (Or.inr (Or.inl (by simp))) (fun T h42 w43 X => ?_)
  have f44 := f41.same w43
  have f45 := (f40.wr w43)
  have f46 := ((f39.ext el2).other w43 (Or.inr (slot_ne (Or.inr (hw _ (List.mem_of_getElem? (i := 23) rfl))) (Or.inr (hw _ (List.mem_of_getElem? (i := 24) rfl))) (by decide) (t := (.array .byte)) (t' := .byte) (by decide) (by decide))))
  have f47 := (((Bl1.other w38 (Ne.symm (nl1 a (by simp)).2)).ext el2).other w43 (Ne.symm (nl1 a (by simp)).2))
  exact W.o_return X d_jdk_42_method_149_26 (by decide) (by decide) fun P hP => ⟨rfl, (((((Keep.refl h0 [a]).ext el1).wr w38 (Or.inl (List.mem_of_getElem? (i := 0) rfl))).ext el2).wr w43 (Or.inl (List.mem_of_getElem? (i := 0) rfl))), u1, f45, f44, f46, ⟨kl1, f47⟩, by decide, fun c hc => (nomatch hc)⟩
set_option maxRecDepth 65536 in
set_option maxHeartbeats 40000000 in
theorem ctNew1E (l : Launch) (Z : State) (a0 : Array Value) (hw : ∀ d ∈ tables_1, d.before a0 Z = true) (a b : Addr) (kb : ClassId) (h0 : Heap) (gz : Z.heap.size ≤ a) (E0 : Exa Z h0 a "java/lang/String") (F0 : Fld Z h0 a "java/lang/String" "value" "[B" .null) (F1 : Fld Z h0 a "java/lang/String" "coder" "B" (.int (0 : Int32))) (A0 : Arv Z h0 b kb .char (0 : Int32) [] (.int 0)) :
    W.Ct wd Z a0 el l (⟨"java/lang/String", "<init>", "([C)V"⟩ : MethodName) jdk_42_method_3_code 2 none ({ frames := 2, cells := 4, slots := 8, locals := 29 } : Room) #[(.ref a), (.ref b)] h0 [a] (fun v h S => v = none ∧ Keep h0 h [a] ∧ ∃ t, Str Z h a t []) := by
  refine W.Ct.walk hwe (plainFor_of_name pn_java_lang_String) ?_
  intro p e s m below meth c T hE0 X
  refine W.castG (show entryFrame m #[(.ref a), (.ref b)] 2 = mkF m 0 #[.val (.ref a), .val (.ref b)] [] from by first | (simp [entryFrame, mkF, argsToLocals, Value.category]; done) | rfl) ?_
  refine W.o_aloadN X (pc' := 1) d_jdk_42_method_3_0 rfl rfl rfl ?_
  refine W.o_aloadN X (pc' := 2) d_jdk_42_method_3_1 rfl rfl rfl ?_
  refine W.o_iconst X (0 : Int32) (pc' := 3) d_jdk_42_method_3_2 rfl rfl ?_
  refine W.o_aloadN X (pc' := 4) d_jdk_42_method_3_3 rfl rfl rfl ?_
  refine W.o_arraylength X (pc' := 5) d_jdk_42_method_3_4 rfl A0 ?_
  refine W.o_aconst_null X (pc' := 6) d_jdk_42_method_3_5 rfl ?_
  refine W.o_special X (pc' := 9) d_jdk_42_method_3_6 rfl (z := (⟨"java/lang/String", "<init>", "([CIILjava/lang/Void;)V"⟩ : MethodName)) rfl (hw _ (List.mem_of_getElem? (i := 14) rfl)) (hw _ (List.mem_of_getElem? (i := 15) rfl)) (hw _ (List.mem_of_getElem? (i := 9) rfl)) (hw _ (List.mem_of_getElem? (i := 17) rfl)) (by decide) (ctNew4E l Z a0 hw a b h0 gz E0 F0 F1) (allS ⟨E0.lt, (Or.inr (Or.inl (by simp)))⟩ all0) [(.ref b), (.int (0 : Int32)), (.int (0 : Int32)), .null] rfl (rest := []) rfl pd___CIILjava_lang_Void__V rfl rfl (by decide) (by exact Nat.le_of_ble_eq_true rfl) (by decide) (by decide) (fun v48 T q49 => ?_)
  obtain ⟨h52, S50, ⟨rfl, K2, t, R2⟩, X51⟩ := q49
  have X := X51 [] all0
  show W.Go _ _ _ _ _ _ _ _ _ _ _ (mkF m 9 #[.val (.ref a), .val (.ref b)] [])
  exact W.o_return X d_jdk_42_method_3_9 (by decide) (by decide) fun P hP => ⟨rfl, K2, t, R2⟩
set_option maxRecDepth 65536 in
set_option maxHeartbeats 40000000 in
theorem ctL1E (l : Launch) (Z : State) (a0 : Array Value) (hw : ∀ d ∈ tables_1, d.before a0 Z = true) (d e0 : Addr) (kd ke : ClassId) (cs ds : List Int32) (h0 : Heap) (h1 : cs.length ≤ 1000) (h2 : ds.length ≤ 1000) (hcs : ∀ c ∈ cs, ¬ c < 0 ∧ ¬ 255 < c) (hds : ∀ c ∈ ds, ¬ c < 0 ∧ ¬ 255 < c) (A0 : Arv Z h0 d kd .byte (Int32.ofNat cs.length) (cs.map lo) (.int 0)) (B0 : Arv Z h0 e0 ke .byte (Int32.ofNat ds.length) (ds.map lo) (.int 0)) :
    W.Ct wd Z a0 el l (⟨"java/lang/StringLatin1", "equals", "([B[B)Z"⟩ : MethodName) jdk_43_method_13_code 3 (some .boolean) ({ frames := 0, cells := 0, slots := 0, locals := 0 } : Room) #[(.ref d), (.ref e0)] h0 [] (fun v h S => v = some (.int (b2i (decide (cs = ds)))) ∧ h = h0) := by
  refine W.Ct.walk hwe (plainFor_of_name pn_java_lang_StringLatin1) ?_
  intro p e s m below meth c T hE0 X
  refine W.castG (show entryFrame m #[(.ref d), (.ref e0)] 3 = mkF m 0 #[.val (.ref d), .val (.ref e0), .unset] [] from by first | (simp [entryFrame, mkF, argsToLocals, Value.category]; done) | rfl) ?_
  refine W.o_aloadN X (pc' := 1) d_jdk_43_method_13_0 rfl rfl rfl ?_
  refine W.o_arraylength X (pc' := 2) d_jdk_43_method_13_1 rfl A0 ?_
  refine W.o_aloadN X (pc' := 3) d_jdk_43_method_13_2 rfl rfl rfl ?_
  refine W.o_arraylength X (pc' := 4) d_jdk_43_method_13_3 rfl B0 ?_
  refine W.o_if_icmpne X (pt := 34) (pf := 7) d_jdk_43_method_13_4 ⟨by decide, by decide⟩ rfl (fun hl => ?_) (fun hl => ?_)
  · refine W.o_iconst X (0 : Int32) (pc' := 35) d_jdk_43_method_13_34 rfl rfl ?_
    exact W.o_ireturn X d_jdk_43_method_13_35 rfl (Or.inl rfl) (v := 0) rfl (by decide) (by decide) fun P hP => ⟨by rw [decide_eq_false (fun q => hl (by rw [q]))]; rfl, rfl⟩
  · have hlen : cs.length = ds.length := o32_inj (by omega) (by omega) hl
    refine W.o_iconst X (0 : Int32) (pc' := 8) d_jdk_43_method_13_7 rfl rfl ?_
    refine W.o_istoreN X (pc' := 9) d_jdk_43_method_13_8 rfl (L' := #[.val (.ref d), .val (.ref e0), .val (.int (0 : Int32))]) rfl ?_
    have loop : ∀ (k j : Nat), j + k = cs.length → (∀ i (h1 : i < cs.length) (h2 : i < ds.length), i < j → cs[i] = ds[i]) → W.Go wd Z el ({ frames := 0, cells := 0, slots := 0, locals := 0 } : Room).cells ({ frames := 0, cells := 0, slots := 0, locals := 0 } : Room).slots (fun v h S => v = some (.int (b2i (decide (cs = ds)))) ∧ h = h0) p e s below T (mkF m 9 #[.val (.ref d), .val (.ref e0), .val (.int (Int32.ofNat j))] []) := by
      intro k
      induction k with
      | zero =>
        intro j hj hp
        have ej : j = cs.length := by omega
        subst ej
        have heq : cs = ds := List.ext_getElem hlen fun i h1 h2 => hp i h1 h2 h1
        refine W.o_iloadN X (pc' := 10) d_jdk_43_method_13_9 rfl rfl ?_
        refine W.o_aloadN X (pc' := 11) d_jdk_43_method_13_10 rfl rfl rfl ?_
        refine W.o_arraylength X (pc' := 12) d_jdk_43_method_13_11 rfl A0 ?_
        refine W.o_if_icmpge X (pt := 32) (pf := 15) d_jdk_43_method_13_12 ⟨by decide, by decide⟩ rfl (fun _ => ?_) (fun hc => absurd hc (o32_ge (Nat.le_refl _) (by omega)))
        refine W.o_iconst X (1 : Int32) (pc' := 33) d_jdk_43_method_13_32 rfl rfl ?_
        exact W.o_ireturn X d_jdk_43_method_13_33 rfl (Or.inl rfl) (v := 1) rfl (by decide) (by decide) fun P hP => ⟨by rw [decide_eq_true heq]; rfl, rfl⟩
      | succ k ih =>
        intro j hj hp
        have hj1 : j < cs.length := by omega
        have hj2 : j < ds.length := by omega
        refine W.o_iloadN X (pc' := 10) d_jdk_43_method_13_9 rfl rfl ?_
        refine W.o_aloadN X (pc' := 11) d_jdk_43_method_13_10 rfl rfl rfl ?_
        refine W.o_arraylength X (pc' := 12) d_jdk_43_method_13_11 rfl A0 ?_
        refine W.o_if_icmpge X (pt := 32) (pf := 15) d_jdk_43_method_13_12 ⟨by decide, by decide⟩ rfl (fun hc => absurd (o32_lt hj1 (by omega)).2 hc) (fun _ => ?_)
        refine W.o_aloadN X (pc' := 16) d_jdk_43_method_13_15 rfl rfl rfl ?_
        refine W.o_iloadN X (pc' := 17) d_jdk_43_method_13_16 rfl rfl ?_
        refine W.o_baload X (pc' := 18) d_jdk_43_method_13_17 rfl A0 (o32_lt hj1 (by omega)) (v := .int cs[j].toInt8.toInt32) (by rw [o32_clamp (by omega)]; exact getD_lo hj1 _) ?_
        refine W.o_aloadN X (pc' := 19) d_jdk_43_method_13_18 rfl rfl rfl ?_
        refine W.o_iloadN X (pc' := 20) d_jdk_43_method_13_19 rfl rfl ?_
        refine W.o_baload X (pc' := 21) d_jdk_43_method_13_20 rfl B0 (o32_lt hj2 (by omega)) (v := .int ds[j].toInt8.toInt32) (by rw [o32_clamp (by omega)]; exact getD_lo hj2 _) ?_
        refine W.o_if_icmpeq X (pt := 26) (pf := 24) d_jdk_43_method_13_21 ⟨by decide, by decide⟩ rfl (fun hc => ?_) (fun hc => ?_)
        · refine W.o_iinc X (1 : Int32) (pc' := 29) d_jdk_43_method_13_26 rfl rfl rfl (L' := #[.val (.ref d), .val (.ref e0), .val (.int ((Int32.ofNat j) + (1 : Int32)))]) rfl ?_
          refine W.o_goto X (pc' := 9) d_jdk_43_method_13_29 ⟨by decide, by decide⟩ ?_
          rw [o32_succ]
          exact ih (j + 1) (by omega) fun i h1 h2 hi => by
            rcases Nat.lt_succ_iff_lt_or_eq.mp hi with q | q
            · exact hp i h1 h2 q
            · subst q; exact lo_inj (hcs _ (List.getElem_mem h1)) (hds _ (List.getElem_mem h2)) hc
        · refine W.o_iconst X (0 : Int32) (pc' := 25) d_jdk_43_method_13_24 rfl rfl ?_
          exact W.o_ireturn X d_jdk_43_method_13_25 rfl (Or.inl rfl) (v := 0) rfl (by decide) (by decide) fun P hP => ⟨by rw [decide_eq_false (fun q => hc (by subst q; rfl))]; rfl, rfl⟩
    exact loop cs.length 0 (by omega) fun i h1 h2 hi => absurd hi (Nat.not_lt_zero i)
set_option maxRecDepth 65536 in
set_option maxHeartbeats 40000000 in
theorem ctSEq (l : Launch) (Z : State) (a0 : Array Value) (hw : ∀ d ∈ tables_1, d.before a0 Z = true) (a b t u : Addr) (cs ds : List Int32) (cz : Int32) (h0 : Heap) (C0 : Sta Z Z.heap "java/lang/String" "COMPACT_STRINGS" "Z" (.int cz)) (hcz : ¬ cz = 0) (hsame : a = b → cs = ds) (G0 : Str Z h0 a t cs) (G1 : Str Z h0 b u ds) :
    W.Ct wd Z a0 el l (⟨"java/lang/String", "equals", "(Ljava/lang/Object;)Z"⟩ : MethodName) jdk_42_method_66_code 3 (some .boolean) ({ frames := 1, cells := 0, slots := 0, locals := 14 } : Room) #[(.ref a), (.ref b)] h0 [] (fun v h S => v = some (.int (b2i (decide (cs = ds)))) ∧ h = h0) := by
  refine W.Ct.walk hwe (plainFor_of_name pn_java_lang_String) ?_
  intro p e s m below meth c T hE0 X
  refine W.castG (show entryFrame m #[(.ref a), (.ref b)] 3 = mkF m 0 #[.val (.ref a), .val (.ref b), .unset] [] from by first | (simp [entryFrame, mkF, argsToLocals, Value.category]; done) | rfl) ?_
  obtain ⟨E0, F0, F1, ⟨kt, A0⟩, n1, l1⟩ := G0
  obtain ⟨E1, F2, F3, ⟨ku, B0⟩, n2, l2⟩ := G1
  refine W.o_aloadN X (pc' := 1) d_jdk_42_method_66_0 rfl rfl rfl ?_
  refine W.o_aloadN X (pc' := 2) d_jdk_42_method_66_1 rfl rfl rfl ?_
  refine W.o_if_acmpne X (pt := 7) (pf := 5) d_jdk_42_method_66_2 rfl rfl ⟨by decide, by decide⟩ rfl (fun hab => ?_) (fun hab => ?_)
  · refine W.o_aloadN X (pc' := 8) d_jdk_42_method_66_7 rfl rfl rfl ?_
    refine W.o_instanceof_y X (pc' := 11) d_jdk_42_method_66_8 rfl (hw _ (List.mem_of_getElem? (i := 57) rfl)) (Ins.self E1) (fun T X => ?_)
    refine W.o_ifeq X (pt := 54) (pf := 14) d_jdk_42_method_66_11 ⟨by decide, by decide⟩ rfl (fun hc => absurd hc (by decide)) (fun _ => ?_)
    refine W.o_aloadN X (pc' := 15) d_jdk_42_method_66_14 rfl rfl rfl ?_
    refine W.o_checkcast X (pc' := 18) d_jdk_42_method_66_15 rfl (hw _ (List.mem_of_getElem? (i := 57) rfl)) (Ins.self E1) (fun T X => ?_)
    refine W.o_astoreN X (pc' := 19) d_jdk_42_method_66_18 rfl (L' := #[.val (.ref a), .val (.ref b), .val (.ref b)]) rfl rfl ?_
    refine W.o_getstatic X (pc' := 22) d_jdk_42_method_66_19 rfl (hw _ (List.mem_of_getElem? (i := 58) rfl)) Via.refl C0 (fun T X => ?_)
    refine W.o_ifeq X (pt := 36) (pf := 25) d_jdk_42_method_66_22 ⟨by decide, by decide⟩ rfl (fun hc => absurd hc hcz) (fun _ => ?_)
    refine W.o_aloadN X (pc' := 26) d_jdk_42_method_66_25 rfl rfl rfl ?_
    refine W.o_getfield X (pc' := 29) d_jdk_42_method_66_26 rfl (hw _ (List.mem_of_getElem? (i := 28) rfl)) Via.refl F0 (fun T X => ?_)
    refine W.o_aloadN X (pc' := 30) d_jdk_42_method_66_29 rfl rfl rfl ?_
    refine W.o_getfield X (pc' := 33) d_jdk_42_method_66_30 rfl (hw _ (List.mem_of_getElem? (i := 28) rfl)) Via.refl F2 (fun T X => ?_)
    refine W.o_if_icmpne X (pt := 54) (pf := 36) d_jdk_42_method_66_33 ⟨by decide, by decide⟩ rfl (fun hc => absurd rfl hc) (fun _ => ?_)
    refine W.o_aloadN X (pc' := 37) d_jdk_42_method_66_36 rfl rfl rfl ?_
    refine W.o_getfield X (pc' := 40) d_jdk_42_method_66_37 rfl (hw _ (List.mem_of_getElem? (i := 27) rfl)) Via.refl F1 (fun T X => ?_)
    refine W.o_aloadN X (pc' := 41) d_jdk_42_method_66_40 rfl rfl rfl ?_
    refine W.o_getfield X (pc' := 44) d_jdk_42_method_66_41 rfl (hw _ (List.mem_of_getElem? (i := 27) rfl)) Via.refl F3 (fun T X => ?_)
    refine W.o_static X (pc' := 47) d_jdk_42_method_66_44 rfl (z := (⟨"java/lang/StringLatin1", "equals", "([B[B)Z"⟩ : MethodName)) (hw _ (List.mem_of_getElem? (i := 59) rfl)) (hw _ (List.mem_of_getElem? (i := 60) rfl)) (hw _ (List.mem_of_getElem? (i := 61) rfl)) (hw _ (List.mem_of_getElem? (i := 62) rfl)) (by decide) (ctL1E l Z a0 hw t u kt ku cs ds h0 n1 n2 l1 l2 A0 B0) (fun _ q => nomatch q) [(.ref t), (.ref u)] rfl (rest := []) rfl pd___B_B_Z rfl rfl (by decide) (by exact Nat.le_of_ble_eq_true rfl) (by decide) (by decide) (fun v53 T q54 => ?_)
    obtain ⟨h57, S55, ⟨rfl, eh⟩, X56⟩ := q54
    have eh := eh.symm
    subst eh
    have X := X56 [] all0
    show W.Go _ _ _ _ _ _ _ _ _ _ _ (mkF m 47 #[.val (.ref a), .val (.ref b), .val (.ref b)] [(.int (b2i (decide (cs = ds))))])
    refine W.o_ifeq X (pt := 54) (pf := 50) d_jdk_42_method_66_47 ⟨by decide, by decide⟩ rfl (fun hc => ?_) (fun hc => ?_)
    · refine W.o_iconst X (0 : Int32) (pc' := 55) d_jdk_42_method_66_54 rfl rfl ?_
      exact W.o_ireturn X d_jdk_42_method_66_55 rfl (Or.inl rfl) (v := 0) rfl (by decide) (by decide) fun P hP => ⟨by rw [hc], rfl⟩
    · refine W.o_iconst X (1 : Int32) (pc' := 51) d_jdk_42_method_66_50 rfl rfl ?_
      refine W.o_goto X (pc' := 55) d_jdk_42_method_66_51 ⟨by decide, by decide⟩ ?_
      exact W.o_ireturn X d_jdk_42_method_66_55 rfl (Or.inl rfl) (v := 1) rfl (by decide) (by decide) fun P hP => ⟨by rw [b2i_n hc]; rfl, rfl⟩
  · refine W.o_iconst X (1 : Int32) (pc' := 6) d_jdk_42_method_66_5 rfl rfl ?_
    exact W.o_ireturn X d_jdk_42_method_66_6 rfl (Or.inl rfl) (v := 1) rfl (by decide) (by decide) fun P hP => ⟨by rw [decide_eq_true (hsame (Value.ref.inj hab))]; rfl, rfl⟩
set_option maxRecDepth 65536 in
set_option maxHeartbeats 40000000 in
theorem ctReq (l : Launch) (Z : State) (a0 : Array Value) (hw : ∀ d ∈ tables_1, d.before a0 Z = true) (a b : Addr) (h0 : Heap)  :
    W.Ct wd Z a0 el l (⟨"java/util/Objects", "requireNonNull", "(Ljava/lang/Object;Ljava/lang/String;)Ljava/lang/Object;"⟩ : MethodName) jdk_31_method_11_code 2 (some (.object "java/lang/Object")) ({ frames := 0, cells := 0, slots := 0, locals := 0 } : Room) #[(.ref a), (.ref b)] h0 [] (fun v h S => v = some (.ref a) ∧ h = h0) := by
  refine W.Ct.walk hwe (plainFor_of_name pn_java_util_Objects) ?_
  intro p e s m below meth c T hE0 X
  refine W.castG (show entryFrame m #[(.ref a), (.ref b)] 2 = mkF m 0 #[.val (.ref a), .val (.ref b)] [] from by first | (simp [entryFrame, mkF, argsToLocals, Value.category]; done) | rfl) ?_
  refine W.o_aloadN X (pc' := 1) d_jdk_31_method_11_0 rfl rfl rfl ?_
  refine W.o_ifnonnull_y X (pt := 13) d_jdk_31_method_11_1 ⟨by decide, by decide⟩ ?_
  refine W.o_aloadN X (pc' := 14) d_jdk_31_method_11_13 rfl rfl rfl ?_
  exact W.o_areturn X d_jdk_31_method_11_14 rfl rfl rfl (by decide) (by decide) fun P hP => ⟨rfl, rfl⟩
set_option maxRecDepth 65536 in
set_option maxHeartbeats 40000000 in
theorem ctMk (l : Launch) (Z : State) (a0 : Array Value) (hw : ∀ d ∈ tables_1, d.before a0 Z = true) (n0 ca cb cz : Int32) (h0 : Heap) (C0 : Sta Z Z.heap "java/lang/String" "COMPACT_STRINGS" "Z" (.int cz)) (hcz : ¬ cz = 0) (qca : rg ca) (qcb : rg cb) :
    W.Ct wd Z a0 el l (⟨"com/example/nonce/nonce/reader/ModelErrorEqualsPinLaw", "mk", "(III)Ljava/lang/String;"⟩ : MethodName) method_2_code 3 (some (.object "java/lang/String")) ({ frames := 4, cells := 6, slots := 38, locals := 71 } : Room) #[(.int n0), (.int ca), (.int cb)] h0 [] (fun v h S => ∃ a t, v = some (.ref a) ∧ Keep h0 h [] ∧ h0.size ≤ a ∧ Str Z h a t (mkcs n0 ca cb)) := by
  refine W.Ct.walk hwe (plainFor_of_name pn_com_example_nonce_nonce_reader_ModelErrorEqualsPinLaw) ?_
  intro p e s m below meth c T hE0 X
  refine W.castG (show entryFrame m #[(.int n0), (.int ca), (.int cb)] 3 = mkF m 0 #[.val (.int n0), .val (.int ca), .val (.int cb)] [] from by first | (simp [entryFrame, mkF, argsToLocals, Value.category]; done) | rfl) ?_
  refine W.o_iloadN X (pc' := 1) d_method_2_0 rfl rfl ?_
  refine W.o_ifne X (pt := 15) (pf := 4) d_method_2_1 ⟨by decide, by decide⟩ rfl (fun h0n => ?_) (fun h0n => ?_)
  · refine W.o_iloadN X (pc' := 16) d_method_2_15 rfl rfl ?_
    refine W.o_iconst X (1 : Int32) (pc' := 17) d_method_2_16 rfl rfl ?_
    refine W.o_if_icmpne X (pt := 36) (pf := 20) d_method_2_17 ⟨by decide, by decide⟩ rfl (fun h1n => ?_) (fun h1n => ?_)
    · refine W.o_new X (pc' := 39) d_method_2_36 rfl (hw _ (List.mem_of_getElem? (i := 7) rfl)) (hw _ (List.mem_of_getElem? (i := 8) rfl)) (hw _ (List.mem_of_getElem? (i := 9) rfl)) (by decide) (by decide) (fun T h122 b123 g124 z125 e126 a127 D128 X => ?_)
      have f129 : Fld Z h122 b123 "java/lang/String" "value" "[B" .null := D128 (Or.inr (hw _ (List.mem_of_getElem? (i := 23) rfl))) (ty := (.array .byte)) (by decide)
      have f130 : Fld Z h122 b123 "java/lang/String" "coder" "B" (.int (0 : Int32)) := D128 (Or.inr (hw _ (List.mem_of_getElem? (i := 24) rfl))) (ty := .byte) (by decide)
      refine W.o_dup X (pc' := 40) d_method_2_39 rfl rfl ?_
      refine W.o_iconst X (2 : Int32) (pc' := 41) d_method_2_40 rfl rfl ?_
      refine W.o_newarray X (pc' := 43) d_method_2_41 rfl (hw _ (List.mem_of_getElem? (i := 10) rfl)) (by decide) (cap := 2) (by decide) (by decide) (by decide) (by decide) (fun T h131 b132 k133 g134 z135 e136 a137 X => ?_)
      have f139 : Arv Z h131 b132 k133 .char (2 : Int32) [(.int (0 : Int32)), (.int (0 : Int32))] (.int (0 : Int32)) := a137.pad (pad_rep [] (.int (0 : Int32)) 2)
      refine W.o_dup X (pc' := 44) d_method_2_43 rfl rfl ?_
      refine W.o_iconst X (0 : Int32) (pc' := 45) d_method_2_44 rfl rfl ?_
      refine W.o_iloadN X (pc' := 46) d_method_2_45 rfl rfl ?_
      refine W.o_i2c X (pc' := 47) d_method_2_46 rfl ?_
      rw [i2c_id qca.1 (no_big qca.2)]
      refine W.o_castore X (pc' := 48) d_method_2_47 rfl f139 0 rfl ⟨by decide, by decide⟩ (by exact Nat.le_of_ble_eq_true rfl) z135 (Or.inr (Or.inl (by simp))) (fun T h140 w141 a142 X => ?_)
      rw [nar_ch qca.1 (no_big qca.2)] at a142
      have f143 : Arv Z h140 b132 k133 .char (2 : Int32) [(.int ca), (.int (0 : Int32))] (.int (0 : Int32)) := a142
      refine W.o_dup X (pc' := 49) d_method_2_48 rfl rfl ?_
      refine W.o_iconst X (1 : Int32) (pc' := 50) d_method_2_49 rfl rfl ?_
      refine W.o_iloadN X (pc' := 51) d_method_2_50 rfl rfl ?_
      refine W.o_i2c X (pc' := 52) d_method_2_51 rfl ?_
      rw [i2c_id qcb.1 (no_big qcb.2)]
      refine W.o_castore X (pc' := 53) d_method_2_52 rfl f143 1 rfl ⟨by decide, by decide⟩ (by exact Nat.le_of_ble_eq_true rfl) z135 (Or.inr (Or.inl (by simp))) (fun T h144 w145 a146 X => ?_)
      rw [nar_ch qcb.1 (no_big qcb.2)] at a146
      have f147 : Arv Z h144 b132 k133 .char (2 : Int32) [(.int ca), (.int cb)] (.int (0 : Int32)) := a146
      have f152 := (((a127.ext e136).wr w141).wr w145)
      have f153 := (((f129.ext e136).other w141 (Or.inl (Nat.ne_of_lt (Nat.lt_of_lt_of_le a127.lt (Nat.le_of_eq g134.symm))))).other w145 (Or.inl (Nat.ne_of_lt (Nat.lt_of_lt_of_le a127.lt (Nat.le_of_eq g134.symm)))))
      have f154 := (((f130.ext e136).other w141 (Or.inl (Nat.ne_of_lt (Nat.lt_of_lt_of_le a127.lt (Nat.le_of_eq g134.symm))))).other w145 (Or.inl (Nat.ne_of_lt (Nat.lt_of_lt_of_le a127.lt (Nat.le_of_eq g134.symm)))))
      refine W.o_special X (pc' := 56) d_method_2_53 rfl (z := (⟨"java/lang/String", "<init>", "([C)V"⟩ : MethodName)) rfl (hw _ (List.mem_of_getElem? (i := 11) rfl)) (hw _ (List.mem_of_getElem? (i := 12) rfl)) (hw _ (List.mem_of_getElem? (i := 9) rfl)) (hw _ (List.mem_of_getElem? (i := 13) rfl)) (by decide) (ctNew1 l Z a0 hw b123 b132 k133 [ca, cb] cz h144 (by exact Nat.le_of_ble_eq_true rfl) (by exact Nat.succ_ne_zero _) (allI qca (allI qcb (fun _ q => nomatch q))) C0 hcz z125 f152 f153 f154 f147) (allS ⟨(((a127.ext e136).wr w141).wr w145).lt, (Or.inr (Or.inl (by simp)))⟩ all0) [(.ref b132)] rfl (rest := [(.ref b123)]) rfl pd___C_V rfl rfl (by decide) (by exact Nat.le_of_ble_eq_true rfl) (by decide) (by decide) (fun v155 T q156 => ?_)
      obtain ⟨h159, S157, ⟨rfl, K148, t149, g150, R151⟩, X158⟩ := q156
      have X := X158 [] all0
      show W.Go _ _ _ _ _ _ _ _ _ _ _ (mkF m 56 #[.val (.int n0), .val (.int ca), .val (.int cb)] [(.ref b123)])
      exact W.o_areturn X d_method_2_56 rfl rfl rfl (by decide) (by decide) fun P hP => ⟨b123, t149, rfl, ((((((Keep.refl h0 []).ext e126).ext e136).wr w141 (Or.inr (Nat.le_trans (Nat.le_trans (Nat.le_refl _) e126.1) (Nat.le_of_eq g134.symm)))).wr w145 (Or.inr (Nat.le_trans (Nat.le_trans (Nat.le_refl _) e126.1) (Nat.le_of_eq g134.symm)))).trans K148 (allS (Or.inr (Nat.le_trans (Nat.le_refl _) (Nat.le_of_eq g124.symm))) all0)), (Nat.le_trans (Nat.le_refl _) (Nat.le_of_eq g124.symm)), by simp only [mkcs, if_neg h0n, if_neg h1n]; exact R151⟩
    · refine W.o_new X (pc' := 23) d_method_2_20 rfl (hw _ (List.mem_of_getElem? (i := 7) rfl)) (hw _ (List.mem_of_getElem? (i := 8) rfl)) (hw _ (List.mem_of_getElem? (i := 9) rfl)) (by decide) (by decide) (fun T h88 b89 g90 z91 e92 a93 D94 X => ?_)
      have f95 : Fld Z h88 b89 "java/lang/String" "value" "[B" .null := D94 (Or.inr (hw _ (List.mem_of_getElem? (i := 23) rfl))) (ty := (.array .byte)) (by decide)
      have f96 : Fld Z h88 b89 "java/lang/String" "coder" "B" (.int (0 : Int32)) := D94 (Or.inr (hw _ (List.mem_of_getElem? (i := 24) rfl))) (ty := .byte) (by decide)
      refine W.o_dup X (pc' := 24) d_method_2_23 rfl rfl ?_
      refine W.o_iconst X (1 : Int32) (pc' := 25) d_method_2_24 rfl rfl ?_
      refine W.o_newarray X (pc' := 27) d_method_2_25 rfl (hw _ (List.mem_of_getElem? (i := 10) rfl)) (by decide) (cap := 1) (by decide) (by decide) (by decide) (by decide) (fun T h97 b98 k99 g100 z101 e102 a103 X => ?_)
      have f105 : Arv Z h97 b98 k99 .char (1 : Int32) [(.int (0 : Int32))] (.int (0 : Int32)) := a103.pad (pad_rep [] (.int (0 : Int32)) 1)
      refine W.o_dup X (pc' := 28) d_method_2_27 rfl rfl ?_
      refine W.o_iconst X (0 : Int32) (pc' := 29) d_method_2_28 rfl rfl ?_
      refine W.o_iloadN X (pc' := 30) d_method_2_29 rfl rfl ?_
      refine W.o_i2c X (pc' := 31) d_method_2_30 rfl ?_
      rw [i2c_id qca.1 (no_big qca.2)]
      refine W.o_castore X (pc' := 32) d_method_2_31 rfl f105 0 rfl ⟨by decide, by decide⟩ (by exact Nat.le_of_ble_eq_true rfl) z101 (Or.inr (Or.inl (by simp))) (fun T h106 w107 a108 X => ?_)
      rw [nar_ch qca.1 (no_big qca.2)] at a108
      have f109 : Arv Z h106 b98 k99 .char (1 : Int32) [(.int ca)] (.int (0 : Int32)) := a108
      have f114 := ((a93.ext e102).wr w107)
      have f115 := ((f95.ext e102).other w107 (Or.inl (Nat.ne_of_lt (Nat.lt_of_lt_of_le a93.lt (Nat.le_of_eq g100.symm)))))
      have f116 := ((f96.ext e102).other w107 (Or.inl (Nat.ne_of_lt (Nat.lt_of_lt_of_le a93.lt (Nat.le_of_eq g100.symm)))))
      refine W.o_special X (pc' := 35) d_method_2_32 rfl (z := (⟨"java/lang/String", "<init>", "([C)V"⟩ : MethodName)) rfl (hw _ (List.mem_of_getElem? (i := 11) rfl)) (hw _ (List.mem_of_getElem? (i := 12) rfl)) (hw _ (List.mem_of_getElem? (i := 9) rfl)) (hw _ (List.mem_of_getElem? (i := 13) rfl)) (by decide) (ctNew1 l Z a0 hw b89 b98 k99 [ca] cz h106 (by exact Nat.le_of_ble_eq_true rfl) (by exact Nat.succ_ne_zero _) (allI qca (fun _ q => nomatch q)) C0 hcz z91 f114 f115 f116 f109) (allS ⟨((a93.ext e102).wr w107).lt, (Or.inr (Or.inl (by simp)))⟩ all0) [(.ref b98)] rfl (rest := [(.ref b89)]) rfl pd___C_V rfl rfl (by decide) (by exact Nat.le_of_ble_eq_true rfl) (by decide) (by decide) (fun v117 T q118 => ?_)
      obtain ⟨h121, S119, ⟨rfl, K110, t111, g112, R113⟩, X120⟩ := q118
      have X := X120 [] all0
      show W.Go _ _ _ _ _ _ _ _ _ _ _ (mkF m 35 #[.val (.int n0), .val (.int ca), .val (.int cb)] [(.ref b89)])
      exact W.o_areturn X d_method_2_35 rfl rfl rfl (by decide) (by decide) fun P hP => ⟨b89, t111, rfl, (((((Keep.refl h0 []).ext e92).ext e102).wr w107 (Or.inr (Nat.le_trans (Nat.le_trans (Nat.le_refl _) e92.1) (Nat.le_of_eq g100.symm)))).trans K110 (allS (Or.inr (Nat.le_trans (Nat.le_refl _) (Nat.le_of_eq g90.symm))) all0)), (Nat.le_trans (Nat.le_refl _) (Nat.le_of_eq g90.symm)), by simp only [mkcs, if_neg h0n, if_pos h1n]; exact R113⟩
  · refine W.o_new X (pc' := 7) d_method_2_4 rfl (hw _ (List.mem_of_getElem? (i := 7) rfl)) (hw _ (List.mem_of_getElem? (i := 8) rfl)) (hw _ (List.mem_of_getElem? (i := 9) rfl)) (by decide) (by decide) (fun T h58 b59 g60 z61 e62 a63 D64 X => ?_)
    have f65 : Fld Z h58 b59 "java/lang/String" "value" "[B" .null := D64 (Or.inr (hw _ (List.mem_of_getElem? (i := 23) rfl))) (ty := (.array .byte)) (by decide)
    have f66 : Fld Z h58 b59 "java/lang/String" "coder" "B" (.int (0 : Int32)) := D64 (Or.inr (hw _ (List.mem_of_getElem? (i := 24) rfl))) (ty := .byte) (by decide)
    refine W.o_dup X (pc' := 8) d_method_2_7 rfl rfl ?_
    refine W.o_iconst X (0 : Int32) (pc' := 9) d_method_2_8 rfl rfl ?_
    refine W.o_newarray X (pc' := 11) d_method_2_9 rfl (hw _ (List.mem_of_getElem? (i := 10) rfl)) (by decide) (cap := 0) (by decide) (by decide) (by decide) (by decide) (fun T h67 b68 k69 g70 z71 e72 a73 X => ?_)
    have f75 : Arv Z h67 b68 k69 .char (0 : Int32) [] (.int (0 : Int32)) := a73.pad (pad_rep [] (.int (0 : Int32)) 0)
    have f80 := (a63.ext e72)
    have f81 := (f65.ext e72)
    have f82 := (f66.ext e72)
    refine W.o_special X (pc' := 14) d_method_2_11 rfl (z := (⟨"java/lang/String", "<init>", "([C)V"⟩ : MethodName)) rfl (hw _ (List.mem_of_getElem? (i := 11) rfl)) (hw _ (List.mem_of_getElem? (i := 12) rfl)) (hw _ (List.mem_of_getElem? (i := 9) rfl)) (hw _ (List.mem_of_getElem? (i := 13) rfl)) (by decide) (ctNew1E l Z a0 hw b59 b68 k69 h67 z61 f80 f81 f82 f75) (allS ⟨(a63.ext e72).lt, (Or.inr (Or.inl (by simp)))⟩ all0) [(.ref b68)] rfl (rest := [(.ref b59)]) rfl pd___C_V rfl rfl (by decide) (by exact Nat.le_of_ble_eq_true rfl) (by decide) (by decide) (fun v83 T q84 => ?_)
    obtain ⟨h87, S85, ⟨rfl, K76, t77, R79⟩, X86⟩ := q84
    have X := X86 [] all0
    show W.Go _ _ _ _ _ _ _ _ _ _ _ (mkF m 14 #[.val (.int n0), .val (.int ca), .val (.int cb)] [(.ref b59)])
    exact W.o_areturn X d_method_2_14 rfl rfl rfl (by decide) (by decide) fun P hP => ⟨b59, t77, rfl, ((((Keep.refl h0 []).ext e62).ext e72).trans K76 (allS (Or.inr (Nat.le_trans (Nat.le_refl _) (Nat.le_of_eq g60.symm))) all0)), (Nat.le_trans (Nat.le_refl _) (Nat.le_of_eq g60.symm)), by simp only [mkcs, if_pos h0n]; exact R79⟩
set_option maxRecDepth 65536 in
set_option maxHeartbeats 40000000 in
theorem ctME (l : Launch) (Z : State) (a0 : Array Value) (hw : ∀ d ∈ tables_1, d.before a0 Z = true) (a b : Addr) (li co : Int32) (h0 : Heap) (gz : Z.heap.size ≤ a) (E0 : Exa Z h0 a "com/example/nonce/nonce/reader/ModelError") (F0 : Fld Z h0 a "com/example/nonce/nonce/reader/ModelError" "line" "I" (.int (0 : Int32))) (F1 : Fld Z h0 a "com/example/nonce/nonce/reader/ModelError" "column" "I" (.int (0 : Int32))) (F2 : Fld Z h0 a "com/example/nonce/nonce/reader/ModelError" "message" "Ljava/lang/String;" .null) (E1 : Exa Z h0 b "java/lang/String") :
    W.Ct wd Z a0 el l (⟨"com/example/nonce/nonce/reader/ModelError", "<init>", "(IILjava/lang/String;)V"⟩ : MethodName) prog_59_method_1_code 4 none ({ frames := 1, cells := 2, slots := 32, locals := 14 } : Room) #[(.ref a), (.int li), (.int co), (.ref b)] h0 [] (fun v h S => v = none ∧ Keep h0 h [a] ∧ Exa Z h a "com/example/nonce/nonce/reader/ModelError" ∧ Fld Z h a "com/example/nonce/nonce/reader/ModelError" "line" "I" (.int li) ∧ Fld Z h a "com/example/nonce/nonce/reader/ModelError" "column" "I" (.int co) ∧ Fld Z h a "com/example/nonce/nonce/reader/ModelError" "message" "Ljava/lang/String;" (.ref b)) := by
  refine W.Ct.walk hwe (plainFor_of_name pn_com_example_nonce_nonce_reader_ModelError) ?_
  intro p e s m below meth c T hE0 X
  refine W.castG (show entryFrame m #[(.ref a), (.int li), (.int co), (.ref b)] 4 = mkF m 0 #[.val (.ref a), .val (.int li), .val (.int co), .val (.ref b)] [] from by first | (simp [entryFrame, mkF, argsToLocals, Value.category]; done) | rfl) ?_
  have hwS : ∀ a ∈ Bundle.stringAtoms, a.before a0 Z = true := fun a ha => hw a (hwS0 a ha)
  refine W.o_aloadN X (pc' := 1) d_prog_59_method_1_0 rfl rfl rfl ?_
  refine W.o_initO X (pc' := 4) d_prog_59_method_1_1 rfl (hw _ (List.mem_of_getElem? (i := 32) rfl)) (hw _ (List.mem_of_getElem? (i := 19) rfl)) (hw _ (List.mem_of_getElem? (i := 20) rfl)) rfl (by decide) (by decide) (fun T X => ?_)
  refine W.o_aloadN X (pc' := 5) d_prog_59_method_1_4 rfl rfl rfl ?_
  refine W.o_iloadN X (pc' := 6) d_prog_59_method_1_5 rfl rfl ?_
  refine W.o_putfield X (pc' := 9) d_prog_59_method_1_6 rfl (hw _ (List.mem_of_getElem? (i := 33) rfl)) Via.refl F0 E0 (Or.inr ⟨(hw _ (List.mem_of_getElem? (i := 34) rfl)), rfl, rfl⟩) (hw _ (List.mem_of_getElem? (i := 1) rfl)) (ty := .int) (by decide) rfl rfl gz (Or.inr (Or.inr (Or.inl ⟨_, E0, by decide, by decide⟩))) (fun T h160 w161 X => ?_)
  have f162 := F0.same w161
  refine W.o_aloadN X (pc' := 10) d_prog_59_method_1_9 rfl rfl rfl ?_
  refine W.o_iloadN X (pc' := 11) d_prog_59_method_1_10 rfl rfl ?_
  have f163 := (E0.wr w161)
  have f164 := (F1.other w161 (Or.inr (slot_ne (Or.inr (hw _ (List.mem_of_getElem? (i := 36) rfl))) (Or.inr (hw _ (List.mem_of_getElem? (i := 34) rfl))) (by decide) (t := .int) (t' := .int) (by decide) (by decide))))
  refine W.o_putfield X (pc' := 14) d_prog_59_method_1_11 rfl (hw _ (List.mem_of_getElem? (i := 35) rfl)) Via.refl f164 f163 (Or.inr ⟨(hw _ (List.mem_of_getElem? (i := 36) rfl)), rfl, rfl⟩) (hw _ (List.mem_of_getElem? (i := 1) rfl)) (ty := .int) (by decide) rfl rfl gz (Or.inr (Or.inr (Or.inl ⟨_, f163, by decide, by decide⟩))) (fun T h165 w166 X => ?_)
  have f167 := f164.same w166
  refine W.o_aloadN X (pc' := 15) d_prog_59_method_1_14 rfl rfl rfl ?_
  refine W.o_aloadN X (pc' := 16) d_prog_59_method_1_15 rfl rfl rfl ?_
  refine W.o_ldcO X rfl (pc' := 18) d_prog_59_method_1_16 rfl (hw _ (List.mem_of_getElem? (i := 37) rfl)) hwS (nn := 28) (by decide) (by decide) (by decide) (by decide) (fun T h168 s169 e170 X => ?_)
  refine W.o_static X (pc' := 21) d_prog_59_method_1_18 rfl (z := (⟨"java/util/Objects", "requireNonNull", "(Ljava/lang/Object;Ljava/lang/String;)Ljava/lang/Object;"⟩ : MethodName)) (hw _ (List.mem_of_getElem? (i := 38) rfl)) (hw _ (List.mem_of_getElem? (i := 39) rfl)) (hw _ (List.mem_of_getElem? (i := 40) rfl)) (hw _ (List.mem_of_getElem? (i := 41) rfl)) (by decide) (ctReq l Z a0 hw b s169 h168) (fun _ q => nomatch q) [(.ref b), (.ref s169)] rfl (rest := [(.ref a)]) rfl pd__Ljava_lang_Object_Ljava_lang_String__Ljava_lang_Object_ rfl rfl (by decide) (by exact Nat.le_of_ble_eq_true rfl) (by decide) (by decide) (fun v171 T q172 => ?_)
  obtain ⟨h175, S173, ⟨rfl, eh⟩, X174⟩ := q172
  have eh := eh.symm
  subst eh
  have X := X174 [] all0
  show W.Go _ _ _ _ _ _ _ _ _ _ _ (mkF m 21 #[.val (.ref a), .val (.int li), .val (.int co), .val (.ref b)] [(.ref b), (.ref a)])
  have f176 := (((E1.wr w161).wr w166).ext e170)
  refine W.o_checkcast X (pc' := 24) d_prog_59_method_1_21 rfl (hw _ (List.mem_of_getElem? (i := 42) rfl)) (Ins.self f176) (fun T X => ?_)
  have f177 := ((f163.wr w166).ext e170)
  have f178 := (((F2.other w161 (Or.inr (slot_ne (Or.inr (hw _ (List.mem_of_getElem? (i := 44) rfl))) (Or.inr (hw _ (List.mem_of_getElem? (i := 34) rfl))) (by decide) (t := (.object "java/lang/String")) (t' := .int) (by decide) (by decide)))).other w166 (Or.inr (slot_ne (Or.inr (hw _ (List.mem_of_getElem? (i := 44) rfl))) (Or.inr (hw _ (List.mem_of_getElem? (i := 36) rfl))) (by decide) (t := (.object "java/lang/String")) (t' := .int) (by decide) (by decide)))).ext e170)
  refine W.o_putfield X (pc' := 27) d_prog_59_method_1_24 rfl (hw _ (List.mem_of_getElem? (i := 43) rfl)) Via.refl f178 f177 (Or.inr ⟨(hw _ (List.mem_of_getElem? (i := 44) rfl)), rfl, rfl⟩) (hw _ (List.mem_of_getElem? (i := 1) rfl)) (ty := (.object "java/lang/String")) (by decide) rfl rfl gz (Or.inr (Or.inr (Or.inl ⟨_, f177, by decide, by decide⟩))) (fun T h179 w180 X => ?_)
  have f181 := f178.same w180
  have f182 := (f177.wr w180)
  have f183 := (((f162.other w166 (Or.inr (slot_ne (Or.inr (hw _ (List.mem_of_getElem? (i := 34) rfl))) (Or.inr (hw _ (List.mem_of_getElem? (i := 36) rfl))) (by decide) (t := .int) (t' := .int) (by decide) (by decide)))).ext e170).other w180 (Or.inr (slot_ne (Or.inr (hw _ (List.mem_of_getElem? (i := 34) rfl))) (Or.inr (hw _ (List.mem_of_getElem? (i := 44) rfl))) (by decide) (t := .int) (t' := (.object "java/lang/String")) (by decide) (by decide))))
  have f184 := ((f167.ext e170).other w180 (Or.inr (slot_ne (Or.inr (hw _ (List.mem_of_getElem? (i := 36) rfl))) (Or.inr (hw _ (List.mem_of_getElem? (i := 44) rfl))) (by decide) (t := .int) (t' := (.object "java/lang/String")) (by decide) (by decide))))
  exact W.o_return X d_prog_59_method_1_27 (by decide) (by decide) fun P hP => ⟨rfl, (((((Keep.refl h0 [a]).wr w161 (Or.inl (List.mem_of_getElem? (i := 0) rfl))).wr w166 (Or.inl (List.mem_of_getElem? (i := 0) rfl))).ext e170).wr w180 (Or.inl (List.mem_of_getElem? (i := 0) rfl))), f182, f183, f184, f181⟩
set_option maxRecDepth 65536 in
set_option maxHeartbeats 40000000 in
theorem ctEqI (l : Launch) (Z : State) (a0 : Array Value) (hw : ∀ d ∈ tables_1, d.before a0 Z = true) (a : Addr) (h0 : Heap)  :
    W.Ct wd Z a0 el l (⟨"com/example/nonce/nonce/reader/ModelError", "equals", "(Ljava/lang/Object;)Z"⟩ : MethodName) prog_59_method_5_code 3 (some .boolean) ({ frames := 0, cells := 0, slots := 0, locals := 0 } : Room) #[(.ref a), (.ref a)] h0 [] (fun v h S => v = some (.int 1) ∧ h = h0) := by
  refine W.Ct.walk hwe (plainFor_of_name pn_com_example_nonce_nonce_reader_ModelError) ?_
  intro p e s m below meth c T hE0 X
  refine W.castG (show entryFrame m #[(.ref a), (.ref a)] 3 = mkF m 0 #[.val (.ref a), .val (.ref a), .unset] [] from by first | (simp [entryFrame, mkF, argsToLocals, Value.category]; done) | rfl) ?_
  refine W.o_aloadN X (pc' := 1) d_prog_59_method_5_0 rfl rfl rfl ?_
  refine W.o_aloadN X (pc' := 2) d_prog_59_method_5_1 rfl rfl rfl ?_
  refine W.o_if_acmpne X (pt := 7) (pf := 5) d_prog_59_method_5_2 rfl rfl ⟨by decide, by decide⟩ rfl (fun hc => absurd rfl hc) (fun _ => ?_)
  refine W.o_iconst X (1 : Int32) (pc' := 6) d_prog_59_method_5_5 rfl rfl ?_
  exact W.o_ireturn X d_prog_59_method_5_6 rfl (Or.inl rfl) (v := 1) rfl (by decide) (by decide) fun P hP => ⟨rfl, rfl⟩
set_option maxRecDepth 65536 in
set_option maxHeartbeats 40000000 in
theorem ctEqN (l : Launch) (Z : State) (a0 : Array Value) (hw : ∀ d ∈ tables_1, d.before a0 Z = true) (a : Addr) (h0 : Heap)  :
    W.Ct wd Z a0 el l (⟨"com/example/nonce/nonce/reader/ModelError", "equals", "(Ljava/lang/Object;)Z"⟩ : MethodName) prog_59_method_5_code 3 (some .boolean) ({ frames := 0, cells := 0, slots := 0, locals := 0 } : Room) #[(.ref a), .null] h0 [] (fun v h S => v = some (.int 0) ∧ h = h0) := by
  refine W.Ct.walk hwe (plainFor_of_name pn_com_example_nonce_nonce_reader_ModelError) ?_
  intro p e s m below meth c T hE0 X
  refine W.castG (show entryFrame m #[(.ref a), .null] 3 = mkF m 0 #[.val (.ref a), .val .null, .unset] [] from by first | (simp [entryFrame, mkF, argsToLocals, Value.category]; done) | rfl) ?_
  refine W.o_aloadN X (pc' := 1) d_prog_59_method_5_0 rfl rfl rfl ?_
  refine W.o_aloadN X (pc' := 2) d_prog_59_method_5_1 rfl rfl rfl ?_
  refine W.o_if_acmpne X (pt := 7) (pf := 5) d_prog_59_method_5_2 rfl rfl ⟨by decide, by decide⟩ rfl (fun _ => ?_) (fun hc => absurd hc (fun q => Value.noConfusion q))
  refine W.o_aloadN X (pc' := 8) d_prog_59_method_5_7 rfl rfl rfl ?_
  refine W.o_instanceof_null X (pc' := 11) d_prog_59_method_5_8 rfl ?_
  refine W.o_ifne X (pt := 16) (pf := 14) d_prog_59_method_5_11 ⟨by decide, by decide⟩ rfl (fun hc => absurd rfl hc) (fun _ => ?_)
  refine W.o_iconst X (0 : Int32) (pc' := 15) d_prog_59_method_5_14 rfl rfl ?_
  exact W.o_ireturn X d_prog_59_method_5_15 rfl (Or.inl rfl) (v := 0) rfl (by decide) (by decide) fun P hP => ⟨rfl, rfl⟩
set_option maxRecDepth 65536 in
set_option maxHeartbeats 40000000 in
theorem ctEqS (l : Launch) (Z : State) (a0 : Array Value) (hw : ∀ d ∈ tables_1, d.before a0 Z = true) (a b : Addr) (h0 : Heap) (hne : a ≠ b) (E1 : Exa Z h0 b "java/lang/String") (hno : ∃ c t, Z.vm.findClass "java/lang/String" = some c ∧ Z.vm.findClass "com/example/nonce/nonce/reader/ModelError" = some t ∧ Z.vm.assignable c t = false) :
    W.Ct wd Z a0 el l (⟨"com/example/nonce/nonce/reader/ModelError", "equals", "(Ljava/lang/Object;)Z"⟩ : MethodName) prog_59_method_5_code 3 (some .boolean) ({ frames := 0, cells := 0, slots := 0, locals := 0 } : Room) #[(.ref a), (.ref b)] h0 [] (fun v h S => v = some (.int 0) ∧ h = h0) := by
  refine W.Ct.walk hwe (plainFor_of_name pn_com_example_nonce_nonce_reader_ModelError) ?_
  intro p e s m below meth c T hE0 X
  refine W.castG (show entryFrame m #[(.ref a), (.ref b)] 3 = mkF m 0 #[.val (.ref a), .val (.ref b), .unset] [] from by first | (simp [entryFrame, mkF, argsToLocals, Value.category]; done) | rfl) ?_
  refine W.o_aloadN X (pc' := 1) d_prog_59_method_5_0 rfl rfl rfl ?_
  refine W.o_aloadN X (pc' := 2) d_prog_59_method_5_1 rfl rfl rfl ?_
  refine W.o_if_acmpne X (pt := 7) (pf := 5) d_prog_59_method_5_2 rfl rfl ⟨by decide, by decide⟩ rfl (fun _ => ?_) (fun hc => absurd hc (fun q => hne (Value.ref.inj q)))
  refine W.o_aloadN X (pc' := 8) d_prog_59_method_5_7 rfl rfl rfl ?_
  refine W.o_instanceof_n X (pc' := 11) d_prog_59_method_5_8 rfl (hw _ (List.mem_of_getElem? (i := 50) rfl)) E1 hno (fun T X => ?_)
  refine W.o_ifne X (pt := 16) (pf := 14) d_prog_59_method_5_11 ⟨by decide, by decide⟩ rfl (fun hc => absurd rfl hc) (fun _ => ?_)
  refine W.o_iconst X (0 : Int32) (pc' := 15) d_prog_59_method_5_14 rfl rfl ?_
  exact W.o_ireturn X d_prog_59_method_5_15 rfl (Or.inl rfl) (v := 0) rfl (by decide) (by decide) fun P hP => ⟨rfl, rfl⟩
set_option maxRecDepth 65536 in
set_option maxHeartbeats 40000000 in
theorem ctEqM (l : Launch) (Z : State) (a0 : Array Value) (hw : ∀ d ∈ tables_1, d.before a0 Z = true) (a b ma mb ta tb : Addr) (la ka lb kb : Int32) (cs ds : List Int32) (cz : Int32) (h0 : Heap) (C0 : Sta Z Z.heap "java/lang/String" "COMPACT_STRINGS" "Z" (.int cz)) (hcz : ¬ cz = 0) (hne : a ≠ b) (hmn : ma ≠ mb) (E0 : Exa Z h0 a "com/example/nonce/nonce/reader/ModelError") (E1 : Exa Z h0 b "com/example/nonce/nonce/reader/ModelError") (F0 : Fld Z h0 a "com/example/nonce/nonce/reader/ModelError" "line" "I" (.int la)) (F1 : Fld Z h0 a "com/example/nonce/nonce/reader/ModelError" "column" "I" (.int ka)) (F2 : Fld Z h0 a "com/example/nonce/nonce/reader/ModelError" "message" "Ljava/lang/String;" (.ref ma)) (H0 : Fld Z h0 b "com/example/nonce/nonce/reader/ModelError" "line" "I" (.int lb)) (H1 : Fld Z h0 b "com/example/nonce/nonce/reader/ModelError" "column" "I" (.int kb)) (H2 : Fld Z h0 b "com/example/nonce/nonce/reader/ModelError" "message" "Ljava/lang/String;" (.ref mb)) (G0 : Str Z h0 ma ta cs) (G1 : Str Z h0 mb tb ds) :
    W.Ct wd Z a0 el l (⟨"com/example/nonce/nonce/reader/ModelError", "equals", "(Ljava/lang/Object;)Z"⟩ : MethodName) prog_59_method_5_code 3 (some .boolean) ({ frames := 2, cells := 0, slots := 0, locals := 28 } : Room) #[(.ref a), (.ref b)] h0 [] (fun v h S => v = some (.int (b2i (decide (la = lb) && (decide (ka = kb) && decide (cs = ds))))) ∧ h = h0) := by
  refine W.Ct.walk hwe (plainFor_of_name pn_com_example_nonce_nonce_reader_ModelError) ?_
  intro p e s m below meth c T hE0 X
  refine W.castG (show entryFrame m #[(.ref a), (.ref b)] 3 = mkF m 0 #[.val (.ref a), .val (.ref b), .unset] [] from by first | (simp [entryFrame, mkF, argsToLocals, Value.category]; done) | rfl) ?_
  refine W.o_aloadN X (pc' := 1) d_prog_59_method_5_0 rfl rfl rfl ?_
  refine W.o_aloadN X (pc' := 2) d_prog_59_method_5_1 rfl rfl rfl ?_
  refine W.o_if_acmpne X (pt := 7) (pf := 5) d_prog_59_method_5_2 rfl rfl ⟨by decide, by decide⟩ rfl (fun _ => ?_) (fun hc => absurd hc (fun q => hne (Value.ref.inj q)))
  refine W.o_aloadN X (pc' := 8) d_prog_59_method_5_7 rfl rfl rfl ?_
  refine W.o_instanceof_y X (pc' := 11) d_prog_59_method_5_8 rfl (hw _ (List.mem_of_getElem? (i := 50) rfl)) (Ins.self E1) (fun T X => ?_)
  refine W.o_ifne X (pt := 16) (pf := 14) d_prog_59_method_5_11 ⟨by decide, by decide⟩ rfl (fun _ => ?_) (fun hc => absurd hc (by decide))
  refine W.o_aloadN X (pc' := 17) d_prog_59_method_5_16 rfl rfl rfl ?_
  refine W.o_checkcast X (pc' := 20) d_prog_59_method_5_17 rfl (hw _ (List.mem_of_getElem? (i := 50) rfl)) (Ins.self E1) (fun T X => ?_)
  refine W.o_astoreN X (pc' := 21) d_prog_59_method_5_20 rfl (L' := #[.val (.ref a), .val (.ref b), .val (.ref b)]) rfl rfl ?_
  refine W.o_aloadN X (pc' := 22) d_prog_59_method_5_21 rfl rfl rfl ?_
  refine W.o_getfield X (pc' := 25) d_prog_59_method_5_22 rfl (hw _ (List.mem_of_getElem? (i := 33) rfl)) Via.refl F0 (fun T X => ?_)
  refine W.o_aloadN X (pc' := 26) d_prog_59_method_5_25 rfl rfl rfl ?_
  refine W.o_getfield X (pc' := 29) d_prog_59_method_5_26 rfl (hw _ (List.mem_of_getElem? (i := 33) rfl)) Via.refl H0 (fun T X => ?_)
  refine W.o_if_icmpne X (pt := 61) (pf := 32) d_prog_59_method_5_29 ⟨by decide, by decide⟩ rfl (fun h1 => ?_) (fun h1 => ?_)
  · refine W.o_iconst X (0 : Int32) (pc' := 62) d_prog_59_method_5_61 rfl rfl ?_
    exact W.o_ireturn X d_prog_59_method_5_62 rfl (Or.inl rfl) (v := 0) rfl (by decide) (by decide) fun P hP => ⟨by rw [decide_eq_false h1]; rfl, rfl⟩
  · refine W.o_aloadN X (pc' := 33) d_prog_59_method_5_32 rfl rfl rfl ?_
    refine W.o_getfield X (pc' := 36) d_prog_59_method_5_33 rfl (hw _ (List.mem_of_getElem? (i := 35) rfl)) Via.refl F1 (fun T X => ?_)
    refine W.o_aloadN X (pc' := 37) d_prog_59_method_5_36 rfl rfl rfl ?_
    refine W.o_getfield X (pc' := 40) d_prog_59_method_5_37 rfl (hw _ (List.mem_of_getElem? (i := 35) rfl)) Via.refl H1 (fun T X => ?_)
    refine W.o_if_icmpne X (pt := 61) (pf := 43) d_prog_59_method_5_40 ⟨by decide, by decide⟩ rfl (fun h2 => ?_) (fun h2 => ?_)
    · refine W.o_iconst X (0 : Int32) (pc' := 62) d_prog_59_method_5_61 rfl rfl ?_
      exact W.o_ireturn X d_prog_59_method_5_62 rfl (Or.inl rfl) (v := 0) rfl (by decide) (by decide) fun P hP => ⟨by rw [decide_eq_true h1, decide_eq_false h2]; rfl, rfl⟩
    · refine W.o_aloadN X (pc' := 44) d_prog_59_method_5_43 rfl rfl rfl ?_
      refine W.o_getfield X (pc' := 47) d_prog_59_method_5_44 rfl (hw _ (List.mem_of_getElem? (i := 43) rfl)) Via.refl F2 (fun T X => ?_)
      refine W.o_aloadN X (pc' := 48) d_prog_59_method_5_47 rfl rfl rfl ?_
      refine W.o_getfield X (pc' := 51) d_prog_59_method_5_48 rfl (hw _ (List.mem_of_getElem? (i := 43) rfl)) Via.refl H2 (fun T X => ?_)
      refine W.o_virtual X (pc' := 54) d_prog_59_method_5_51 rfl (u := (⟨"java/lang/String", "equals", "(Ljava/lang/Object;)Z"⟩ : MethodName)) (z := (⟨"java/lang/String", "equals", "(Ljava/lang/Object;)Z"⟩ : MethodName)) (hw _ (List.mem_of_getElem? (i := 52) rfl)) (hw _ (List.mem_of_getElem? (i := 53) rfl)) (fun s' hZ => notFace_of_selects (args := #[]) (mvT hZ (hw _ (List.mem_of_getElem? (i := 55) rfl)))) (hw _ (List.mem_of_getElem? (i := 55) rfl)) (hw _ (List.mem_of_getElem? (i := 54) rfl)) (hw _ (List.mem_of_getElem? (i := 9) rfl)) (hw _ (List.mem_of_getElem? (i := 56) rfl)) (by decide) G0.1 (ctSEq l Z a0 hw ma mb ta tb cs ds cz h0 C0 hcz (fun q => absurd q hmn) G0 G1) (fun _ q => nomatch q) [(.ref mb)] rfl (rest := []) rfl pd__Ljava_lang_Object__Z rfl rfl (by decide) (by exact Nat.le_of_ble_eq_true rfl) (by decide) (by decide) (fun v185 T q186 => ?_)
      obtain ⟨h189, S187, ⟨rfl, eh⟩, X188⟩ := q186
      have eh := eh.symm
      subst eh
      have X := X188 [] all0
      show W.Go _ _ _ _ _ _ _ _ _ _ _ (mkF m 54 #[.val (.ref a), .val (.ref b), .val (.ref b)] [(.int (b2i (decide (cs = ds))))])
      refine W.o_ifeq X (pt := 61) (pf := 57) d_prog_59_method_5_54 ⟨by decide, by decide⟩ rfl (fun h3 => ?_) (fun h3 => ?_)
      · refine W.o_iconst X (0 : Int32) (pc' := 62) d_prog_59_method_5_61 rfl rfl ?_
        exact W.o_ireturn X d_prog_59_method_5_62 rfl (Or.inl rfl) (v := 0) rfl (by decide) (by decide) fun P hP => ⟨by rw [decide_eq_true h1, decide_eq_true h2, b2i_0 h3]; rfl, rfl⟩
      · refine W.o_iconst X (1 : Int32) (pc' := 58) d_prog_59_method_5_57 rfl rfl ?_
        refine W.o_goto X (pc' := 62) d_prog_59_method_5_58 ⟨by decide, by decide⟩ ?_
        exact W.o_ireturn X d_prog_59_method_5_62 rfl (Or.inl rfl) (v := 1) rfl (by decide) (by decide) fun P hP => ⟨by rw [decide_eq_true h1, decide_eq_true h2, b2i_n h3]; rfl, rfl⟩
theorem lt12 {n : Int32} (h : n < 1) : n < 2 := by
  rw [Int32.lt_iff_toInt_lt] at h ⊢
  have z1 : (1 : Int32).toInt = 1 := rfl
  have z2 : (2 : Int32).toInt = 2 := rfl
  omega
theorem mk_n {n1 a1 b1 n3 a3 b3 : Int32} (h1 : l3 n1) (h3 : l3 n3) (g : ¬ n1 = n3) : ¬ mkcs n1 a1 b1 = mkcs n3 a3 b3 := by
  rcases h1 with rfl | rfl | rfl <;> rcases h3 with rfl | rfl | rfl <;> first | exact absurd rfl g | (simp [mkcs])
theorem mk_0 {n1 a1 b1 n3 a3 b3 : Int32} (h1 : l3 n1) (g : n1 = n3) (g4 : n1 < 1) : mkcs n1 a1 b1 = mkcs n3 a3 b3 := by
  subst g; rcases h1 with rfl | rfl | rfl
  · rfl
  · exact absurd g4 (by decide)
  · exact absurd g4 (by decide)
theorem mk_a {n1 a1 b1 n3 a3 b3 : Int32} (h1 : l3 n1) (g : n1 = n3) (g4 : ¬ n1 < 1) (g5 : ¬ a1 = a3) : ¬ mkcs n1 a1 b1 = mkcs n3 a3 b3 := by
  subst g; rcases h1 with rfl | rfl | rfl
  · exact absurd (by decide) g4
  · simpa [mkcs] using g5
  · intro q; simp [mkcs] at q; exact g5 q.1
theorem mk_1 {n1 a1 b1 n3 a3 b3 : Int32} (h1 : l3 n1) (g : n1 = n3) (g4 : ¬ n1 < 1) (g5 : a1 = a3) (g6 : n1 < 2) : mkcs n1 a1 b1 = mkcs n3 a3 b3 := by
  subst g g5; rcases h1 with rfl | rfl | rfl
  · rfl
  · rfl
  · exact absurd g6 (by decide)
theorem mk_b {n1 a1 b1 n3 a3 b3 : Int32} (h1 : l3 n1) (g : n1 = n3) (g4 : ¬ n1 < 1) (g6 : ¬ n1 < 2) (g7 : ¬ b1 = b3) : ¬ mkcs n1 a1 b1 = mkcs n3 a3 b3 := by
  subst g; rcases h1 with rfl | rfl | rfl
  · exact absurd (by decide) g4
  · exact absurd (by decide) g6
  · intro q; simp [mkcs] at q; exact g7 q.2
theorem mk_2 {n1 a1 b1 n3 a3 b3 : Int32} (g : n1 = n3) (g5 : a1 = a3) (g7 : b1 = b3) : mkcs n1 a1 b1 = mkcs n3 a3 b3 := by subst g g5 g7; rfl
set_option maxRecDepth 65536 in
set_option maxHeartbeats 40000000 in
theorem ctLaw (l : Launch) (Z : State) (a0 : Array Value) (hw : ∀ d ∈ tables_1, d.before a0 Z = true) (p0 p1 p2 p3 p4 p5 cz : Int32) (h0 : Heap) (C0 : Sta Z Z.heap "java/lang/String" "COMPACT_STRINGS" "Z" (.int cz)) (hcz : ¬ cz = 0) (hno : ∃ c t, Z.vm.findClass "java/lang/String" = some c ∧ Z.vm.findClass "com/example/nonce/nonce/reader/ModelError" = some t ∧ Z.vm.assignable c t = false) :
    W.Ct wd Z a0 el l x code maxLocals ret room_1 #[(.int p0), (.int p1), (.int p2), (.int p3), (.int p4), (.int p5)] h0 [] (fun v h S => v = some (.int 1)) := by
  refine W.Ct.walk hwe (plainFor_of_name pn_com_example_nonce_nonce_reader_ModelErrorEqualsPinLaw) ?_
  intro p e s m below meth c T hE0 X
  refine W.castG (show entryFrame m #[(.int p0), (.int p1), (.int p2), (.int p3), (.int p4), (.int p5)] maxLocals = mkF m 0 #[.val (.int p0), .val (.int p1), .val (.int p2), .val (.int p3), .val (.int p4), .val (.int p5), .unset, .unset, .unset, .unset, .unset, .unset, .unset, .unset, .unset, .unset] [] from by first | (simp [entryFrame, mkF, argsToLocals, Value.category, maxLocals]; done) | rfl) ?_
  refine W.o_iload X (pc' := 2) at_0 rfl rfl ?_
  refine W.o_sipush X (255 : Int32) (pc' := 5) at_2 rfl rfl ?_
  refine W.o_iand X (pc' := 6) at_5 rfl ?_
  generalize ha1 : (p4 &&& (255 : Int32)) = a1
  have qa1 : rg a1 := ha1 ▸ rg_and _
  refine W.o_istore X (pc' := 8) at_6 rfl (L' := #[.val (.int p0), .val (.int p1), .val (.int p2), .val (.int p3), .val (.int p4), .val (.int p5), .val (.int a1), .unset, .unset, .unset, .unset, .unset, .unset, .unset, .unset, .unset]) rfl ?_
  refine W.o_iload X (pc' := 10) at_8 rfl rfl ?_
  refine W.o_bipush X (8 : Int32) (pc' := 12) at_10 rfl rfl ?_
  refine W.o_iushr X (pc' := 13) at_12 rfl ?_
  refine W.o_sipush X (255 : Int32) (pc' := 16) at_13 rfl rfl ?_
  refine W.o_iand X (pc' := 17) at_16 rfl ?_
  generalize hb1 : (((p4.toUInt32 >>> ((8 : Int32) &&& 31).toUInt32).toInt32) &&& (255 : Int32)) = b1
  have qb1 : rg b1 := hb1 ▸ rg_and _
  refine W.o_istore X (pc' := 19) at_17 rfl (L' := #[.val (.int p0), .val (.int p1), .val (.int p2), .val (.int p3), .val (.int p4), .val (.int p5), .val (.int a1), .val (.int b1), .unset, .unset, .unset, .unset, .unset, .unset, .unset, .unset]) rfl ?_
  refine W.o_iload X (pc' := 21) at_19 rfl rfl ?_
  refine W.o_bipush X (16 : Int32) (pc' := 23) at_21 rfl rfl ?_
  refine W.o_iushr X (pc' := 24) at_23 rfl ?_
  refine W.o_sipush X (255 : Int32) (pc' := 27) at_24 rfl rfl ?_
  refine W.o_iand X (pc' := 28) at_27 rfl ?_
  generalize ha2 : (((p4.toUInt32 >>> ((16 : Int32) &&& 31).toUInt32).toInt32) &&& (255 : Int32)) = a2
  have qa2 : rg a2 := ha2 ▸ rg_and _
  refine W.o_istore X (pc' := 30) at_28 rfl (L' := #[.val (.int p0), .val (.int p1), .val (.int p2), .val (.int p3), .val (.int p4), .val (.int p5), .val (.int a1), .val (.int b1), .val (.int a2), .unset, .unset, .unset, .unset, .unset, .unset, .unset]) rfl ?_
  refine W.o_iload X (pc' := 32) at_30 rfl rfl ?_
  refine W.o_bipush X (24 : Int32) (pc' := 34) at_32 rfl rfl ?_
  refine W.o_iushr X (pc' := 35) at_34 rfl ?_
  refine W.o_sipush X (255 : Int32) (pc' := 38) at_35 rfl rfl ?_
  refine W.o_iand X (pc' := 39) at_38 rfl ?_
  generalize hb2 : (((p4.toUInt32 >>> ((24 : Int32) &&& 31).toUInt32).toInt32) &&& (255 : Int32)) = b2
  have qb2 : rg b2 := hb2 ▸ rg_and _
  refine W.o_istore X (pc' := 41) at_39 rfl (L' := #[.val (.int p0), .val (.int p1), .val (.int p2), .val (.int p3), .val (.int p4), .val (.int p5), .val (.int a1), .val (.int b1), .val (.int a2), .val (.int b2), .unset, .unset, .unset, .unset, .unset, .unset]) rfl ?_
  refine W.o_iload X (pc' := 43) at_41 rfl rfl ?_
  refine W.o_iconst X (5 : Int32) (pc' := 44) at_43 rfl rfl ?_
  refine W.o_iushr X (pc' := 45) at_44 rfl ?_
  refine W.o_iconst X (3 : Int32) (pc' := 46) at_45 rfl rfl ?_
  refine W.o_iand X (pc' := 47) at_46 rfl ?_
  refine W.o_iconst X (3 : Int32) (pc' := 48) at_47 rfl rfl ?_
  refine W.o_irem X (pc' := 49) at_48 rfl (by decide) ?_
  generalize hn1 : ((((p5.toUInt32 >>> ((5 : Int32) &&& 31).toUInt32).toInt32) &&& (3 : Int32)) % (3 : Int32)) = n1
  have qn1 : l3 n1 := hn1 ▸ l3_rem _
  refine W.o_istore X (pc' := 51) at_49 rfl (L' := #[.val (.int p0), .val (.int p1), .val (.int p2), .val (.int p3), .val (.int p4), .val (.int p5), .val (.int a1), .val (.int b1), .val (.int a2), .val (.int b2), .val (.int n1), .unset, .unset, .unset, .unset, .unset]) rfl ?_
  refine W.o_iload X (pc' := 53) at_51 rfl rfl ?_
  refine W.o_bipush X (7 : Int32) (pc' := 55) at_53 rfl rfl ?_
  refine W.o_iushr X (pc' := 56) at_55 rfl ?_
  refine W.o_iconst X (3 : Int32) (pc' := 57) at_56 rfl rfl ?_
  refine W.o_iand X (pc' := 58) at_57 rfl ?_
  refine W.o_iconst X (3 : Int32) (pc' := 59) at_58 rfl rfl ?_
  refine W.o_irem X (pc' := 60) at_59 rfl (by decide) ?_
  generalize hn2 : ((((p5.toUInt32 >>> ((7 : Int32) &&& 31).toUInt32).toInt32) &&& (3 : Int32)) % (3 : Int32)) = n2
  have qn2 : l3 n2 := hn2 ▸ l3_rem _
  refine W.o_istore X (pc' := 62) at_60 rfl (L' := #[.val (.int p0), .val (.int p1), .val (.int p2), .val (.int p3), .val (.int p4), .val (.int p5), .val (.int a1), .val (.int b1), .val (.int a2), .val (.int b2), .val (.int n1), .val (.int n2), .unset, .unset, .unset, .unset]) rfl ?_
  have J : ∀ (l2 k2 a3 b3 n3 : Int32), rg a3 → rg b3 → l3 n3 → W.Go wd Z el room_1.cells room_1.slots (fun v h S => v = some (.int 1)) p e s below T (mkF m 99 #[.val (.int p0), .val (.int p1), .val (.int l2), .val (.int k2), .val (.int p4), .val (.int p5), .val (.int a1), .val (.int b1), .val (.int a3), .val (.int b3), .val (.int n1), .val (.int n3), .unset, .unset, .unset, .unset] []) := by
    intro l2 k2 a3 b3 n3 qa3 qb3 qn3
    refine W.o_iload X (pc' := 101) at_99 rfl rfl ?_
    refine W.o_iconst X (3 : Int32) (pc' := 102) at_101 rfl rfl ?_
    refine W.o_iushr X (pc' := 103) at_102 rfl ?_
    refine W.o_iconst X (3 : Int32) (pc' := 104) at_103 rfl rfl ?_
    refine W.o_iand X (pc' := 105) at_104 rfl ?_
    refine W.o_istore X (pc' := 107) at_105 rfl (L' := #[.val (.int p0), .val (.int p1), .val (.int l2), .val (.int k2), .val (.int p4), .val (.int p5), .val (.int a1), .val (.int b1), .val (.int a3), .val (.int b3), .val (.int n1), .val (.int n3), .val (.int (((p5.toUInt32 >>> ((3 : Int32) &&& 31).toUInt32).toInt32) &&& (3 : Int32))), .unset, .unset, .unset]) rfl ?_
    refine W.o_new X (pc' := 110) at_107 rfl (hw _ (List.mem_of_getElem? (i := 0) rfl)) (hw _ (List.mem_of_getElem? (i := 1) rfl)) (hw _ (List.mem_of_getElem? (i := 2) rfl)) (by decide) (by decide) (fun T h190 b191 g192 z193 e194 a195 D196 X => ?_)
    have f197 : Fld Z h190 b191 "com/example/nonce/nonce/reader/ModelError" "line" "I" (.int (0 : Int32)) := D196 (Or.inr (hw _ (List.mem_of_getElem? (i := 34) rfl))) (ty := .int) (by decide)
    have f198 : Fld Z h190 b191 "com/example/nonce/nonce/reader/ModelError" "column" "I" (.int (0 : Int32)) := D196 (Or.inr (hw _ (List.mem_of_getElem? (i := 36) rfl))) (ty := .int) (by decide)
    have f199 : Fld Z h190 b191 "com/example/nonce/nonce/reader/ModelError" "message" "Ljava/lang/String;" .null := D196 (Or.inr (hw _ (List.mem_of_getElem? (i := 44) rfl))) (ty := (.object "java/lang/String")) (by decide)
    refine W.o_dup X (pc' := 111) at_110 rfl rfl ?_
    refine W.o_iloadN X (pc' := 112) at_111 rfl rfl ?_
    refine W.o_iloadN X (pc' := 113) at_112 rfl rfl ?_
    refine W.o_iload X (pc' := 115) at_113 rfl rfl ?_
    refine W.o_iload X (pc' := 117) at_115 rfl rfl ?_
    refine W.o_iload X (pc' := 119) at_117 rfl rfl ?_
    refine W.o_static X (pc' := 122) at_119 rfl (z := (⟨"com/example/nonce/nonce/reader/ModelErrorEqualsPinLaw", "mk", "(III)Ljava/lang/String;"⟩ : MethodName)) (hw _ (List.mem_of_getElem? (i := 3) rfl)) (hw _ (List.mem_of_getElem? (i := 4) rfl)) (hw _ (List.mem_of_getElem? (i := 5) rfl)) (hw _ (List.mem_of_getElem? (i := 6) rfl)) (by decide) (ctMk l Z a0 hw n1 a1 b1 cz h190 C0 hcz qa1 qb1) (fun _ q => nomatch q) [(.int n1), (.int a1), (.int b1)] rfl (rest := [(.int p1), (.int p0), (.ref b191), (.ref b191)]) rfl pd__III_Ljava_lang_String_ rfl rfl (by decide) (by exact Nat.le_of_ble_eq_true rfl) (by decide) (by decide) (fun v200 T q201 => ?_)
    obtain ⟨h204, S202, ⟨s1, u1, rfl, KM1, gm1, RM1⟩, X203⟩ := q201
    have X := X203 [] all0
    show W.Go _ _ _ _ _ _ _ _ _ _ _ (mkF m 122 #[.val (.int p0), .val (.int p1), .val (.int l2), .val (.int k2), .val (.int p4), .val (.int p5), .val (.int a1), .val (.int b1), .val (.int a3), .val (.int b3), .val (.int n1), .val (.int n3), .val (.int (((p5.toUInt32 >>> ((3 : Int32) &&& 31).toUInt32).toInt32) &&& (3 : Int32))), .unset, .unset, .unset] [(.ref s1), (.int p1), (.int p0), (.ref b191), (.ref b191)])
    have f206 := (a195.keep KM1)
    have f207 := (f197.keep KM1 nin0)
    have f208 := (f198.keep KM1 nin0)
    have f209 := (f199.keep KM1 nin0)
    refine W.o_special X (pc' := 125) at_122 rfl (z := (⟨"com/example/nonce/nonce/reader/ModelError", "<init>", "(IILjava/lang/String;)V"⟩ : MethodName)) rfl (hw _ (List.mem_of_getElem? (i := 29) rfl)) (hw _ (List.mem_of_getElem? (i := 30) rfl)) (hw _ (List.mem_of_getElem? (i := 2) rfl)) (hw _ (List.mem_of_getElem? (i := 31) rfl)) (by decide) (ctME l Z a0 hw b191 s1 p0 p1 h204 z193 f206 f207 f208 f209 RM1.1) (fun _ q => nomatch q) [(.int p0), (.int p1), (.ref s1)] rfl (rest := [(.ref b191)]) rfl pd__IILjava_lang_String__V rfl rfl (by decide) (by exact Nat.le_of_ble_eq_true rfl) (by decide) (by decide) (fun v210 T q211 => ?_)
    obtain ⟨h214, S212, ⟨rfl, KI205, EI205, FL205, FC205, FG205⟩, X213⟩ := q211
    have X := X213 [] all0
    show W.Go _ _ _ _ _ _ _ _ _ _ _ (mkF m 125 #[.val (.int p0), .val (.int p1), .val (.int l2), .val (.int k2), .val (.int p4), .val (.int p5), .val (.int a1), .val (.int b1), .val (.int a3), .val (.int b3), .val (.int n1), .val (.int n3), .val (.int (((p5.toUInt32 >>> ((3 : Int32) &&& 31).toUInt32).toInt32) &&& (3 : Int32))), .unset, .unset, .unset] [(.ref b191)])
    refine W.o_astore X (pc' := 127) at_125 rfl (L' := #[.val (.int p0), .val (.int p1), .val (.int l2), .val (.int k2), .val (.int p4), .val (.int p5), .val (.int a1), .val (.int b1), .val (.int a3), .val (.int b3), .val (.int n1), .val (.int n3), .val (.int (((p5.toUInt32 >>> ((3 : Int32) &&& 31).toUInt32).toInt32) &&& (3 : Int32))), .val (.ref b191), .unset, .unset]) rfl rfl ?_
    refine W.o_iload X (pc' := 129) at_127 rfl rfl ?_
    refine W.o_iconst X (1 : Int32) (pc' := 130) at_129 rfl rfl ?_
    refine W.o_if_icmpne X (pt := 141) (pf := 133) at_130 ⟨by decide, by decide⟩ rfl (fun hk1 => ?_) (fun hk1 => ?_)
    · refine W.o_iload X (pc' := 143) at_141 rfl rfl ?_
      refine W.o_iconst X (2 : Int32) (pc' := 144) at_143 rfl rfl ?_
      refine W.o_if_icmpne X (pt := 162) (pf := 147) at_144 ⟨by decide, by decide⟩ rfl (fun hk2 => ?_) (fun hk2 => ?_)
      · refine W.o_iload X (pc' := 164) at_162 rfl rfl ?_
        refine W.o_iconst X (3 : Int32) (pc' := 165) at_164 rfl rfl ?_
        refine W.o_if_icmpne X (pt := 195) (pf := 168) at_165 ⟨by decide, by decide⟩ rfl (fun hk3 => ?_) (fun hk3 => ?_)
        · refine W.o_new X (pc' := 198) at_195 rfl (hw _ (List.mem_of_getElem? (i := 0) rfl)) (hw _ (List.mem_of_getElem? (i := 1) rfl)) (hw _ (List.mem_of_getElem? (i := 2) rfl)) (by decide) (by decide) (fun T h236 b237 g238 z239 e240 a241 D242 X => ?_)
          have f243 : Fld Z h236 b237 "com/example/nonce/nonce/reader/ModelError" "line" "I" (.int (0 : Int32)) := D242 (Or.inr (hw _ (List.mem_of_getElem? (i := 34) rfl))) (ty := .int) (by decide)
          have f244 : Fld Z h236 b237 "com/example/nonce/nonce/reader/ModelError" "column" "I" (.int (0 : Int32)) := D242 (Or.inr (hw _ (List.mem_of_getElem? (i := 36) rfl))) (ty := .int) (by decide)
          have f245 : Fld Z h236 b237 "com/example/nonce/nonce/reader/ModelError" "message" "Ljava/lang/String;" .null := D242 (Or.inr (hw _ (List.mem_of_getElem? (i := 44) rfl))) (ty := (.object "java/lang/String")) (by decide)
          refine W.o_dup X (pc' := 199) at_198 rfl rfl ?_
          refine W.o_iloadN X (pc' := 200) at_199 rfl rfl ?_
          refine W.o_iloadN X (pc' := 201) at_200 rfl rfl ?_
          refine W.o_iload X (pc' := 203) at_201 rfl rfl ?_
          refine W.o_iload X (pc' := 205) at_203 rfl rfl ?_
          refine W.o_iload X (pc' := 207) at_205 rfl rfl ?_
          refine W.o_static X (pc' := 210) at_207 rfl (z := (⟨"com/example/nonce/nonce/reader/ModelErrorEqualsPinLaw", "mk", "(III)Ljava/lang/String;"⟩ : MethodName)) (hw _ (List.mem_of_getElem? (i := 3) rfl)) (hw _ (List.mem_of_getElem? (i := 4) rfl)) (hw _ (List.mem_of_getElem? (i := 5) rfl)) (hw _ (List.mem_of_getElem? (i := 6) rfl)) (by decide) (ctMk l Z a0 hw n3 a3 b3 cz h236 C0 hcz qa3 qb3) (fun _ q => nomatch q) [(.int n3), (.int a3), (.int b3)] rfl (rest := [(.int k2), (.int l2), (.ref b237), (.ref b237)]) rfl pd__III_Ljava_lang_String_ rfl rfl (by decide) (by exact Nat.le_of_ble_eq_true rfl) (by decide) (by decide) (fun v246 T q247 => ?_)
          obtain ⟨h250, S248, ⟨s3, u3, rfl, KM3, gm3, RM3⟩, X249⟩ := q247
          have X := X249 [] all0
          show W.Go _ _ _ _ _ _ _ _ _ _ _ (mkF m 210 #[.val (.int p0), .val (.int p1), .val (.int l2), .val (.int k2), .val (.int p4), .val (.int p5), .val (.int a1), .val (.int b1), .val (.int a3), .val (.int b3), .val (.int n1), .val (.int n3), .val (.int (((p5.toUInt32 >>> ((3 : Int32) &&& 31).toUInt32).toInt32) &&& (3 : Int32))), .val (.ref b191), .unset, .unset] [(.ref s3), (.int k2), (.int l2), (.ref b237), (.ref b237)])
          have f252 := (a241.keep KM3)
          have f253 := (f243.keep KM3 nin0)
          have f254 := (f244.keep KM3 nin0)
          have f255 := (f245.keep KM3 nin0)
          refine W.o_special X (pc' := 213) at_210 rfl (z := (⟨"com/example/nonce/nonce/reader/ModelError", "<init>", "(IILjava/lang/String;)V"⟩ : MethodName)) rfl (hw _ (List.mem_of_getElem? (i := 29) rfl)) (hw _ (List.mem_of_getElem? (i := 30) rfl)) (hw _ (List.mem_of_getElem? (i := 2) rfl)) (hw _ (List.mem_of_getElem? (i := 31) rfl)) (by decide) (ctME l Z a0 hw b237 s3 l2 k2 h250 z239 f252 f253 f254 f255 RM3.1) (fun _ q => nomatch q) [(.int l2), (.int k2), (.ref s3)] rfl (rest := [(.ref b237)]) rfl pd__IILjava_lang_String__V rfl rfl (by decide) (by exact Nat.le_of_ble_eq_true rfl) (by decide) (by decide) (fun v256 T q257 => ?_)
          obtain ⟨h260, S258, ⟨rfl, KI251, EI251, FL251, FC251, FG251⟩, X259⟩ := q257
          have X := X259 [] all0
          show W.Go _ _ _ _ _ _ _ _ _ _ _ (mkF m 213 #[.val (.int p0), .val (.int p1), .val (.int l2), .val (.int k2), .val (.int p4), .val (.int p5), .val (.int a1), .val (.int b1), .val (.int a3), .val (.int b3), .val (.int n1), .val (.int n3), .val (.int (((p5.toUInt32 >>> ((3 : Int32) &&& 31).toUInt32).toInt32) &&& (3 : Int32))), .val (.ref b191), .unset, .unset] [(.ref b237)])
          refine W.o_astore X (pc' := 215) at_213 rfl (L' := #[.val (.int p0), .val (.int p1), .val (.int l2), .val (.int k2), .val (.int p4), .val (.int p5), .val (.int a1), .val (.int b1), .val (.int a3), .val (.int b3), .val (.int n1), .val (.int n3), .val (.int (((p5.toUInt32 >>> ((3 : Int32) &&& 31).toUInt32).toInt32) &&& (3 : Int32))), .val (.ref b191), .val (.ref b237), .unset]) rfl rfl ?_
          refine W.o_iloadN X (pc' := 216) at_215 rfl rfl ?_
          refine W.o_iloadN X (pc' := 217) at_216 rfl rfl ?_
          have J2 : ∀ v5 : Int32, v5 = b2i (same p0 p1 l2 k2 n1 a1 b1 n3 a3 b3) → W.Go wd Z el room_1.cells room_1.slots (fun v h S => v = some (.int 1)) p e s below T (mkF m 263 #[.val (.int p0), .val (.int p1), .val (.int l2), .val (.int k2), .val (.int p4), .val (.int p5), .val (.int a1), .val (.int b1), .val (.int a3), .val (.int b3), .val (.int n1), .val (.int n3), .val (.int (((p5.toUInt32 >>> ((3 : Int32) &&& 31).toUInt32).toInt32) &&& (3 : Int32))), .val (.ref b191), .val (.ref b237), .unset] [(.int v5)]) := by
            intro v5 hv5
            refine W.o_istore X (pc' := 265) at_263 rfl (L' := #[.val (.int p0), .val (.int p1), .val (.int l2), .val (.int k2), .val (.int p4), .val (.int p5), .val (.int a1), .val (.int b1), .val (.int a3), .val (.int b3), .val (.int n1), .val (.int n3), .val (.int (((p5.toUInt32 >>> ((3 : Int32) &&& 31).toUInt32).toInt32) &&& (3 : Int32))), .val (.ref b191), .val (.ref b237), .val (.int v5)]) rfl ?_
            refine W.o_aload X (pc' := 267) at_265 rfl rfl rfl ?_
            refine W.o_aload X (pc' := 269) at_267 rfl rfl rfl ?_
            have f261 := (((EI205.ext e240).keep KM3).keep KI251)
            have f262 := (((FL205.ext e240).keep KM3 nin0).keep KI251 (ninS (Nat.ne_of_lt (Nat.lt_of_lt_of_le EI205.lt (Nat.le_of_eq g238.symm))) nin0))
            have f263 := (((FC205.ext e240).keep KM3 nin0).keep KI251 (ninS (Nat.ne_of_lt (Nat.lt_of_lt_of_le EI205.lt (Nat.le_of_eq g238.symm))) nin0))
            have f264 := (((FG205.ext e240).keep KM3 nin0).keep KI251 (ninS (Nat.ne_of_lt (Nat.lt_of_lt_of_le EI205.lt (Nat.le_of_eq g238.symm))) nin0))
            have f265 := ((((RM1.keep KI205 (ninS (Ne.symm (Nat.ne_of_lt (Nat.lt_of_lt_of_le a195.lt gm1))) nin0) (ninS (RM1.neObj (a195.keep KM1) (hw _ (List.mem_of_getElem? (i := 1) rfl))) nin0)).ext e240).keep KM3 nin0 nin0).keep KI251 (ninS (Nat.ne_of_lt (Nat.lt_of_lt_of_le (RM1.keep KI205 (ninS (Ne.symm (Nat.ne_of_lt (Nat.lt_of_lt_of_le a195.lt gm1))) nin0) (ninS (RM1.neObj (a195.keep KM1) (hw _ (List.mem_of_getElem? (i := 1) rfl))) nin0)).lt (Nat.le_of_eq g238.symm))) nin0) (ninS (Nat.ne_of_lt (Nat.lt_of_lt_of_le (RM1.keep KI205 (ninS (Ne.symm (Nat.ne_of_lt (Nat.lt_of_lt_of_le a195.lt gm1))) nin0) (ninS (RM1.neObj (a195.keep KM1) (hw _ (List.mem_of_getElem? (i := 1) rfl))) nin0)).lt' (Nat.le_of_eq g238.symm))) nin0))
            have f266 := (RM3.keep KI251 (ninS (Ne.symm (Nat.ne_of_lt (Nat.lt_of_lt_of_le a241.lt gm3))) nin0) (ninS (RM3.neObj (a241.keep KM3) (hw _ (List.mem_of_getElem? (i := 1) rfl))) nin0))
            refine W.o_virtual X (pc' := 272) at_269 rfl (u := (⟨"com/example/nonce/nonce/reader/ModelError", "equals", "(Ljava/lang/Object;)Z"⟩ : MethodName)) (z := (⟨"com/example/nonce/nonce/reader/ModelError", "equals", "(Ljava/lang/Object;)Z"⟩ : MethodName)) (hw _ (List.mem_of_getElem? (i := 45) rfl)) (hw _ (List.mem_of_getElem? (i := 46) rfl)) (fun s' hZ => notFace_of_selects (args := #[]) (mvT hZ (hw _ (List.mem_of_getElem? (i := 48) rfl)))) (hw _ (List.mem_of_getElem? (i := 48) rfl)) (hw _ (List.mem_of_getElem? (i := 47) rfl)) (hw _ (List.mem_of_getElem? (i := 2) rfl)) (hw _ (List.mem_of_getElem? (i := 49) rfl)) (by decide) f261 (ctEqM l Z a0 hw b191 b237 s1 s3 u1 u3 p0 p1 l2 k2 (mkcs n1 a1 b1) (mkcs n3 a3 b3) cz h260 C0 hcz (Nat.ne_of_lt (Nat.lt_of_lt_of_le EI205.lt (Nat.le_of_eq g238.symm))) (Nat.ne_of_lt (Nat.lt_of_lt_of_le ((RM1.keep KI205 (ninS (Ne.symm (Nat.ne_of_lt (Nat.lt_of_lt_of_le a195.lt gm1))) nin0) (ninS (RM1.neObj (a195.keep KM1) (hw _ (List.mem_of_getElem? (i := 1) rfl))) nin0)).ext e240).lt gm3)) f261 EI251 f262 f263 f264 FL251 FC251 FG251 f265 f266) (fun _ q => nomatch q) [(.ref b237)] rfl (rest := []) rfl pd__Ljava_lang_Object__Z rfl rfl (by decide) (by exact Nat.le_of_ble_eq_true rfl) (by decide) (by decide) (fun v267 T q268 => ?_)
            obtain ⟨h271, S269, ⟨rfl, eh⟩, X270⟩ := q268
            have eh := eh.symm
            subst eh
            have X := X270 [] all0
            show W.Go _ _ _ _ _ _ _ _ _ _ _ (mkF m 272 #[.val (.int p0), .val (.int p1), .val (.int l2), .val (.int k2), .val (.int p4), .val (.int p5), .val (.int a1), .val (.int b1), .val (.int a3), .val (.int b3), .val (.int n1), .val (.int n3), .val (.int (((p5.toUInt32 >>> ((3 : Int32) &&& 31).toUInt32).toInt32) &&& (3 : Int32))), .val (.ref b191), .val (.ref b237), .val (.int v5)] [(.int (b2i (same p0 p1 l2 k2 n1 a1 b1 n3 a3 b3)))])
            refine W.o_iload X (pc' := 274) at_272 rfl rfl ?_
            refine W.o_if_icmpne X (pt := 293) (pf := 277) at_274 ⟨by decide, by decide⟩ rfl (fun hc => absurd hv5.symm hc) (fun _ => ?_)
            refine W.o_aload X (pc' := 279) at_277 rfl rfl rfl ?_
            refine W.o_aload X (pc' := 281) at_279 rfl rfl rfl ?_
            refine W.o_virtual X (pc' := 284) at_281 rfl (u := (⟨"com/example/nonce/nonce/reader/ModelError", "equals", "(Ljava/lang/Object;)Z"⟩ : MethodName)) (z := (⟨"com/example/nonce/nonce/reader/ModelError", "equals", "(Ljava/lang/Object;)Z"⟩ : MethodName)) (hw _ (List.mem_of_getElem? (i := 45) rfl)) (hw _ (List.mem_of_getElem? (i := 46) rfl)) (fun s' hZ => notFace_of_selects (args := #[]) (mvT hZ (hw _ (List.mem_of_getElem? (i := 48) rfl)))) (hw _ (List.mem_of_getElem? (i := 48) rfl)) (hw _ (List.mem_of_getElem? (i := 47) rfl)) (hw _ (List.mem_of_getElem? (i := 2) rfl)) (hw _ (List.mem_of_getElem? (i := 49) rfl)) (by decide) EI251 (ctEqM l Z a0 hw b237 b191 s3 s1 u3 u1 l2 k2 p0 p1 (mkcs n3 a3 b3) (mkcs n1 a1 b1) cz h260 C0 hcz (Ne.symm (Nat.ne_of_lt (Nat.lt_of_lt_of_le EI205.lt (Nat.le_of_eq g238.symm)))) (Ne.symm (Nat.ne_of_lt (Nat.lt_of_lt_of_le ((RM1.keep KI205 (ninS (Ne.symm (Nat.ne_of_lt (Nat.lt_of_lt_of_le a195.lt gm1))) nin0) (ninS (RM1.neObj (a195.keep KM1) (hw _ (List.mem_of_getElem? (i := 1) rfl))) nin0)).ext e240).lt gm3))) EI251 f261 FL251 FC251 FG251 f262 f263 f264 f266 f265) (fun _ q => nomatch q) [(.ref b191)] rfl (rest := []) rfl pd__Ljava_lang_Object__Z rfl rfl (by decide) (by exact Nat.le_of_ble_eq_true rfl) (by decide) (by decide) (fun v272 T q273 => ?_)
            obtain ⟨h276, S274, ⟨rfl, eh⟩, X275⟩ := q273
            have eh := eh.symm
            subst eh
            have X := X275 [] all0
            show W.Go _ _ _ _ _ _ _ _ _ _ _ (mkF m 284 #[.val (.int p0), .val (.int p1), .val (.int l2), .val (.int k2), .val (.int p4), .val (.int p5), .val (.int a1), .val (.int b1), .val (.int a3), .val (.int b3), .val (.int n1), .val (.int n3), .val (.int (((p5.toUInt32 >>> ((3 : Int32) &&& 31).toUInt32).toInt32) &&& (3 : Int32))), .val (.ref b191), .val (.ref b237), .val (.int v5)] [(.int (b2i (same l2 k2 p0 p1 n3 a3 b3 n1 a1 b1)))])
            refine W.o_iload X (pc' := 286) at_284 rfl rfl ?_
            refine W.o_if_icmpne X (pt := 293) (pf := 289) at_286 ⟨by decide, by decide⟩ rfl (fun hc => absurd ((congrArg b2i (same_comm ..)).trans hv5.symm) hc) (fun _ => ?_)
            refine W.o_iconst X (1 : Int32) (pc' := 290) at_289 rfl rfl ?_
            refine W.o_goto X (pc' := 294) at_290 ⟨by decide, by decide⟩ ?_
            exact W.o_ireturn X at_294 rfl (Or.inl rfl) (v := 1) rfl (by decide) (by decide) fun P hP => rfl
          refine W.o_if_icmpne X (pt := 262) (pf := 220) at_217 ⟨by decide, by decide⟩ rfl (fun g1 => ?_) (fun g1 => ?_)
          · refine W.o_iconst X (0 : Int32) (pc' := 263) at_262 rfl rfl ?_
            exact J2 0 (by unfold same; rw [decide_eq_false g1]; rfl)
          · refine W.o_iloadN X (pc' := 221) at_220 rfl rfl ?_
            refine W.o_iloadN X (pc' := 222) at_221 rfl rfl ?_
            refine W.o_if_icmpne X (pt := 262) (pf := 225) at_222 ⟨by decide, by decide⟩ rfl (fun g2 => ?_) (fun g2 => ?_)
            · refine W.o_iconst X (0 : Int32) (pc' := 263) at_262 rfl rfl ?_
              exact J2 0 (by unfold same; rw [decide_eq_true g1, decide_eq_false g2]; rfl)
            · refine W.o_iload X (pc' := 227) at_225 rfl rfl ?_
              refine W.o_iload X (pc' := 229) at_227 rfl rfl ?_
              refine W.o_if_icmpne X (pt := 262) (pf := 232) at_229 ⟨by decide, by decide⟩ rfl (fun g3 => ?_) (fun g3 => ?_)
              · refine W.o_iconst X (0 : Int32) (pc' := 263) at_262 rfl rfl ?_
                exact J2 0 (by unfold same; rw [decide_eq_true g1, decide_eq_true g2, decide_eq_false (mk_n qn1 qn3 g3)]; rfl)
              · refine W.o_iload X (pc' := 234) at_232 rfl rfl ?_
                refine W.o_iconst X (1 : Int32) (pc' := 235) at_234 rfl rfl ?_
                refine W.o_if_icmplt X (pt := 245) (pf := 238) at_235 ⟨by decide, by decide⟩ rfl (fun g4 => ?_) (fun g4 => ?_)
                · refine W.o_iload X (pc' := 247) at_245 rfl rfl ?_
                  refine W.o_iconst X (2 : Int32) (pc' := 248) at_247 rfl rfl ?_
                  refine W.o_if_icmplt X (pt := 258) (pf := 251) at_248 ⟨by decide, by decide⟩ rfl (fun _ => ?_) (fun hc => absurd (lt12 g4) hc)
                  refine W.o_iconst X (1 : Int32) (pc' := 259) at_258 rfl rfl ?_
                  refine W.o_goto X (pc' := 263) at_259 ⟨by decide, by decide⟩ ?_
                  exact J2 1 (by unfold same; rw [decide_eq_true g1, decide_eq_true g2, decide_eq_true (mk_0 qn1 g3 g4)]; rfl)
                · refine W.o_iload X (pc' := 240) at_238 rfl rfl ?_
                  refine W.o_iload X (pc' := 242) at_240 rfl rfl ?_
                  refine W.o_if_icmpne X (pt := 262) (pf := 245) at_242 ⟨by decide, by decide⟩ rfl (fun g5 => ?_) (fun g5 => ?_)
                  · refine W.o_iconst X (0 : Int32) (pc' := 263) at_262 rfl rfl ?_
                    exact J2 0 (by unfold same; rw [decide_eq_true g1, decide_eq_true g2, decide_eq_false (mk_a qn1 g3 g4 g5)]; rfl)
                  · refine W.o_iload X (pc' := 247) at_245 rfl rfl ?_
                    refine W.o_iconst X (2 : Int32) (pc' := 248) at_247 rfl rfl ?_
                    refine W.o_if_icmplt X (pt := 258) (pf := 251) at_248 ⟨by decide, by decide⟩ rfl (fun g6 => ?_) (fun g6 => ?_)
                    · refine W.o_iconst X (1 : Int32) (pc' := 259) at_258 rfl rfl ?_
                      refine W.o_goto X (pc' := 263) at_259 ⟨by decide, by decide⟩ ?_
                      exact J2 1 (by unfold same; rw [decide_eq_true g1, decide_eq_true g2, decide_eq_true (mk_1 qn1 g3 g4 g5 g6)]; rfl)
                    · refine W.o_iload X (pc' := 253) at_251 rfl rfl ?_
                      refine W.o_iload X (pc' := 255) at_253 rfl rfl ?_
                      refine W.o_if_icmpne X (pt := 262) (pf := 258) at_255 ⟨by decide, by decide⟩ rfl (fun g7 => ?_) (fun g7 => ?_)
                      · refine W.o_iconst X (0 : Int32) (pc' := 263) at_262 rfl rfl ?_
                        exact J2 0 (by unfold same; rw [decide_eq_true g1, decide_eq_true g2, decide_eq_false (mk_b qn1 g3 g4 g6 g7)]; rfl)
                      · refine W.o_iconst X (1 : Int32) (pc' := 259) at_258 rfl rfl ?_
                        refine W.o_goto X (pc' := 263) at_259 ⟨by decide, by decide⟩ ?_
                        exact J2 1 (by unfold same; rw [decide_eq_true g1, decide_eq_true g2, decide_eq_true (mk_2 g3 g5 g7)]; rfl)
        · refine W.o_iload X (pc' := 170) at_168 rfl rfl ?_
          refine W.o_iload X (pc' := 172) at_170 rfl rfl ?_
          refine W.o_iload X (pc' := 174) at_172 rfl rfl ?_
          refine W.o_static X (pc' := 177) at_174 rfl (z := (⟨"com/example/nonce/nonce/reader/ModelErrorEqualsPinLaw", "mk", "(III)Ljava/lang/String;"⟩ : MethodName)) (hw _ (List.mem_of_getElem? (i := 3) rfl)) (hw _ (List.mem_of_getElem? (i := 4) rfl)) (hw _ (List.mem_of_getElem? (i := 5) rfl)) (hw _ (List.mem_of_getElem? (i := 6) rfl)) (by decide) (ctMk l Z a0 hw n1 a1 b1 cz h214 C0 hcz qa1 qb1) (fun _ q => nomatch q) [(.int n1), (.int a1), (.int b1)] rfl (rest := []) rfl pd__III_Ljava_lang_String_ rfl rfl (by decide) (by exact Nat.le_of_ble_eq_true rfl) (by decide) (by decide) (fun v225 T q226 => ?_)
          obtain ⟨h229, S227, ⟨s2, u2, rfl, KM2, gm2, RM2⟩, X228⟩ := q226
          have X := X228 [] all0
          show W.Go _ _ _ _ _ _ _ _ _ _ _ (mkF m 177 #[.val (.int p0), .val (.int p1), .val (.int l2), .val (.int k2), .val (.int p4), .val (.int p5), .val (.int a1), .val (.int b1), .val (.int a3), .val (.int b3), .val (.int n1), .val (.int n3), .val (.int (((p5.toUInt32 >>> ((3 : Int32) &&& 31).toUInt32).toInt32) &&& (3 : Int32))), .val (.ref b191), .unset, .unset] [(.ref s2)])
          refine W.o_astore X (pc' := 179) at_177 rfl (L' := #[.val (.int p0), .val (.int p1), .val (.int l2), .val (.int k2), .val (.int p4), .val (.int p5), .val (.int a1), .val (.int b1), .val (.int a3), .val (.int b3), .val (.int n1), .val (.int n3), .val (.int (((p5.toUInt32 >>> ((3 : Int32) &&& 31).toUInt32).toInt32) &&& (3 : Int32))), .val (.ref b191), .val (.ref s2), .unset]) rfl rfl ?_
          refine W.o_aload X (pc' := 181) at_179 rfl rfl rfl ?_
          refine W.o_aload X (pc' := 183) at_181 rfl rfl rfl ?_
          have f232 := (EI205.keep KM2)
          refine W.o_virtual X (pc' := 186) at_183 rfl (u := (⟨"com/example/nonce/nonce/reader/ModelError", "equals", "(Ljava/lang/Object;)Z"⟩ : MethodName)) (z := (⟨"com/example/nonce/nonce/reader/ModelError", "equals", "(Ljava/lang/Object;)Z"⟩ : MethodName)) (hw _ (List.mem_of_getElem? (i := 45) rfl)) (hw _ (List.mem_of_getElem? (i := 46) rfl)) (fun s' hZ => notFace_of_selects (args := #[]) (mvT hZ (hw _ (List.mem_of_getElem? (i := 48) rfl)))) (hw _ (List.mem_of_getElem? (i := 48) rfl)) (hw _ (List.mem_of_getElem? (i := 47) rfl)) (hw _ (List.mem_of_getElem? (i := 2) rfl)) (hw _ (List.mem_of_getElem? (i := 49) rfl)) (by decide) f232 (ctEqS l Z a0 hw b191 s2 h229 (Nat.ne_of_lt (Nat.lt_of_lt_of_le EI205.lt gm2)) RM2.1 hno) (fun _ q => nomatch q) [(.ref s2)] rfl (rest := []) rfl pd__Ljava_lang_Object__Z rfl rfl (by decide) (by exact Nat.le_of_ble_eq_true rfl) (by decide) (by decide) (fun v230 T q231 => ?_)
          obtain ⟨h235, S233, ⟨rfl, eh⟩, X234⟩ := q231
          have eh := eh.symm
          subst eh
          have X := X234 [] all0
          show W.Go _ _ _ _ _ _ _ _ _ _ _ (mkF m 186 #[.val (.int p0), .val (.int p1), .val (.int l2), .val (.int k2), .val (.int p4), .val (.int p5), .val (.int a1), .val (.int b1), .val (.int a3), .val (.int b3), .val (.int n1), .val (.int n3), .val (.int (((p5.toUInt32 >>> ((3 : Int32) &&& 31).toUInt32).toInt32) &&& (3 : Int32))), .val (.ref b191), .val (.ref s2), .unset] [(.int (0 : Int32))])
          refine W.o_ifne X (pt := 193) (pf := 189) at_186 ⟨by decide, by decide⟩ rfl (fun hc => absurd rfl hc) (fun _ => ?_)
          refine W.o_iconst X (1 : Int32) (pc' := 190) at_189 rfl rfl ?_
          refine W.o_goto X (pc' := 194) at_190 ⟨by decide, by decide⟩ ?_
          exact W.o_ireturn X at_194 rfl (Or.inl rfl) (v := 1) rfl (by decide) (by decide) fun P hP => rfl
      · refine W.o_aload X (pc' := 149) at_147 rfl rfl rfl ?_
        refine W.o_aconst_null X (pc' := 150) at_149 rfl ?_
        refine W.o_virtual X (pc' := 153) at_150 rfl (u := (⟨"com/example/nonce/nonce/reader/ModelError", "equals", "(Ljava/lang/Object;)Z"⟩ : MethodName)) (z := (⟨"com/example/nonce/nonce/reader/ModelError", "equals", "(Ljava/lang/Object;)Z"⟩ : MethodName)) (hw _ (List.mem_of_getElem? (i := 45) rfl)) (hw _ (List.mem_of_getElem? (i := 46) rfl)) (fun s' hZ => notFace_of_selects (args := #[]) (mvT hZ (hw _ (List.mem_of_getElem? (i := 48) rfl)))) (hw _ (List.mem_of_getElem? (i := 48) rfl)) (hw _ (List.mem_of_getElem? (i := 47) rfl)) (hw _ (List.mem_of_getElem? (i := 2) rfl)) (hw _ (List.mem_of_getElem? (i := 49) rfl)) (by decide) EI205 (ctEqN l Z a0 hw b191 h214) (fun _ q => nomatch q) [.null] rfl (rest := []) rfl pd__Ljava_lang_Object__Z rfl rfl (by decide) (by exact Nat.le_of_ble_eq_true rfl) (by decide) (by decide) (fun v220 T q221 => ?_)
        obtain ⟨h224, S222, ⟨rfl, eh⟩, X223⟩ := q221
        have eh := eh.symm
        subst eh
        have X := X223 [] all0
        show W.Go _ _ _ _ _ _ _ _ _ _ _ (mkF m 153 #[.val (.int p0), .val (.int p1), .val (.int l2), .val (.int k2), .val (.int p4), .val (.int p5), .val (.int a1), .val (.int b1), .val (.int a3), .val (.int b3), .val (.int n1), .val (.int n3), .val (.int (((p5.toUInt32 >>> ((3 : Int32) &&& 31).toUInt32).toInt32) &&& (3 : Int32))), .val (.ref b191), .unset, .unset] [(.int (0 : Int32))])
        refine W.o_ifne X (pt := 160) (pf := 156) at_153 ⟨by decide, by decide⟩ rfl (fun hc => absurd rfl hc) (fun _ => ?_)
        refine W.o_iconst X (1 : Int32) (pc' := 157) at_156 rfl rfl ?_
        refine W.o_goto X (pc' := 161) at_157 ⟨by decide, by decide⟩ ?_
        exact W.o_ireturn X at_161 rfl (Or.inl rfl) (v := 1) rfl (by decide) (by decide) fun P hP => rfl
    · refine W.o_aload X (pc' := 135) at_133 rfl rfl rfl ?_
      refine W.o_aload X (pc' := 137) at_135 rfl rfl rfl ?_
      refine W.o_virtual X (pc' := 140) at_137 rfl (u := (⟨"com/example/nonce/nonce/reader/ModelError", "equals", "(Ljava/lang/Object;)Z"⟩ : MethodName)) (z := (⟨"com/example/nonce/nonce/reader/ModelError", "equals", "(Ljava/lang/Object;)Z"⟩ : MethodName)) (hw _ (List.mem_of_getElem? (i := 45) rfl)) (hw _ (List.mem_of_getElem? (i := 46) rfl)) (fun s' hZ => notFace_of_selects (args := #[]) (mvT hZ (hw _ (List.mem_of_getElem? (i := 48) rfl)))) (hw _ (List.mem_of_getElem? (i := 48) rfl)) (hw _ (List.mem_of_getElem? (i := 47) rfl)) (hw _ (List.mem_of_getElem? (i := 2) rfl)) (hw _ (List.mem_of_getElem? (i := 49) rfl)) (by decide) EI205 (ctEqI l Z a0 hw b191 h214) (fun _ q => nomatch q) [(.ref b191)] rfl (rest := []) rfl pd__Ljava_lang_Object__Z rfl rfl (by decide) (by exact Nat.le_of_ble_eq_true rfl) (by decide) (by decide) (fun v215 T q216 => ?_)
      obtain ⟨h219, S217, ⟨rfl, eh⟩, X218⟩ := q216
      have eh := eh.symm
      subst eh
      have X := X218 [] all0
      show W.Go _ _ _ _ _ _ _ _ _ _ _ (mkF m 140 #[.val (.int p0), .val (.int p1), .val (.int l2), .val (.int k2), .val (.int p4), .val (.int p5), .val (.int a1), .val (.int b1), .val (.int a3), .val (.int b3), .val (.int n1), .val (.int n3), .val (.int (((p5.toUInt32 >>> ((3 : Int32) &&& 31).toUInt32).toInt32) &&& (3 : Int32))), .val (.ref b191), .unset, .unset] [(.int (1 : Int32))])
      exact W.o_ireturn X at_140 rfl (Or.inl rfl) (v := 1) rfl (by decide) (by decide) fun P hP => rfl
  refine W.o_iload X (pc' := 64) at_62 rfl rfl ?_
  refine W.o_iconst X (1 : Int32) (pc' := 65) at_64 rfl rfl ?_
  refine W.o_iand X (pc' := 66) at_65 rfl ?_
  refine W.o_ifeq X (pt := 71) (pf := 69) at_66 ⟨by decide, by decide⟩ rfl (fun hf0 => ?_) (fun hf0 => ?_)
  · refine W.o_iload X (pc' := 73) at_71 rfl rfl ?_
    refine W.o_iconst X (2 : Int32) (pc' := 74) at_73 rfl rfl ?_
    refine W.o_iand X (pc' := 75) at_74 rfl ?_
    refine W.o_ifeq X (pt := 80) (pf := 78) at_75 ⟨by decide, by decide⟩ rfl (fun hf1 => ?_) (fun hf1 => ?_)
    · refine W.o_iload X (pc' := 82) at_80 rfl rfl ?_
      refine W.o_iconst X (4 : Int32) (pc' := 83) at_82 rfl rfl ?_
      refine W.o_iand X (pc' := 84) at_83 rfl ?_
      refine W.o_ifeq X (pt := 99) (pf := 87) at_84 ⟨by decide, by decide⟩ rfl (fun hf2 => ?_) (fun hf2 => ?_)
      · exact J p2 p3 a2 b2 n2 qa2 qb2 qn2
      · refine W.o_iload X (pc' := 89) at_87 rfl rfl ?_
        refine W.o_istore X (pc' := 91) at_89 rfl (L' := #[.val (.int p0), .val (.int p1), .val (.int p2), .val (.int p3), .val (.int p4), .val (.int p5), .val (.int a1), .val (.int b1), .val (.int a2), .val (.int b2), .val (.int n1), .val (.int n1), .unset, .unset, .unset, .unset]) rfl ?_
        refine W.o_iload X (pc' := 93) at_91 rfl rfl ?_
        refine W.o_istore X (pc' := 95) at_93 rfl (L' := #[.val (.int p0), .val (.int p1), .val (.int p2), .val (.int p3), .val (.int p4), .val (.int p5), .val (.int a1), .val (.int b1), .val (.int a1), .val (.int b2), .val (.int n1), .val (.int n1), .unset, .unset, .unset, .unset]) rfl ?_
        refine W.o_iload X (pc' := 97) at_95 rfl rfl ?_
        refine W.o_istore X (pc' := 99) at_97 rfl (L' := #[.val (.int p0), .val (.int p1), .val (.int p2), .val (.int p3), .val (.int p4), .val (.int p5), .val (.int a1), .val (.int b1), .val (.int a1), .val (.int b1), .val (.int n1), .val (.int n1), .unset, .unset, .unset, .unset]) rfl ?_
        exact J p2 p3 a1 b1 n1 qa1 qb1 qn1
    · refine W.o_iloadN X (pc' := 79) at_78 rfl rfl ?_
      refine W.o_istoreN X (pc' := 80) at_79 rfl (L' := #[.val (.int p0), .val (.int p1), .val (.int p2), .val (.int p1), .val (.int p4), .val (.int p5), .val (.int a1), .val (.int b1), .val (.int a2), .val (.int b2), .val (.int n1), .val (.int n2), .unset, .unset, .unset, .unset]) rfl ?_
      refine W.o_iload X (pc' := 82) at_80 rfl rfl ?_
      refine W.o_iconst X (4 : Int32) (pc' := 83) at_82 rfl rfl ?_
      refine W.o_iand X (pc' := 84) at_83 rfl ?_
      refine W.o_ifeq X (pt := 99) (pf := 87) at_84 ⟨by decide, by decide⟩ rfl (fun hf2 => ?_) (fun hf2 => ?_)
      · exact J p2 p1 a2 b2 n2 qa2 qb2 qn2
      · refine W.o_iload X (pc' := 89) at_87 rfl rfl ?_
        refine W.o_istore X (pc' := 91) at_89 rfl (L' := #[.val (.int p0), .val (.int p1), .val (.int p2), .val (.int p1), .val (.int p4), .val (.int p5), .val (.int a1), .val (.int b1), .val (.int a2), .val (.int b2), .val (.int n1), .val (.int n1), .unset, .unset, .unset, .unset]) rfl ?_
        refine W.o_iload X (pc' := 93) at_91 rfl rfl ?_
        refine W.o_istore X (pc' := 95) at_93 rfl (L' := #[.val (.int p0), .val (.int p1), .val (.int p2), .val (.int p1), .val (.int p4), .val (.int p5), .val (.int a1), .val (.int b1), .val (.int a1), .val (.int b2), .val (.int n1), .val (.int n1), .unset, .unset, .unset, .unset]) rfl ?_
        refine W.o_iload X (pc' := 97) at_95 rfl rfl ?_
        refine W.o_istore X (pc' := 99) at_97 rfl (L' := #[.val (.int p0), .val (.int p1), .val (.int p2), .val (.int p1), .val (.int p4), .val (.int p5), .val (.int a1), .val (.int b1), .val (.int a1), .val (.int b1), .val (.int n1), .val (.int n1), .unset, .unset, .unset, .unset]) rfl ?_
        exact J p2 p1 a1 b1 n1 qa1 qb1 qn1
  · refine W.o_iloadN X (pc' := 70) at_69 rfl rfl ?_
    refine W.o_istoreN X (pc' := 71) at_70 rfl (L' := #[.val (.int p0), .val (.int p1), .val (.int p0), .val (.int p3), .val (.int p4), .val (.int p5), .val (.int a1), .val (.int b1), .val (.int a2), .val (.int b2), .val (.int n1), .val (.int n2), .unset, .unset, .unset, .unset]) rfl ?_
    refine W.o_iload X (pc' := 73) at_71 rfl rfl ?_
    refine W.o_iconst X (2 : Int32) (pc' := 74) at_73 rfl rfl ?_
    refine W.o_iand X (pc' := 75) at_74 rfl ?_
    refine W.o_ifeq X (pt := 80) (pf := 78) at_75 ⟨by decide, by decide⟩ rfl (fun hf1 => ?_) (fun hf1 => ?_)
    · refine W.o_iload X (pc' := 82) at_80 rfl rfl ?_
      refine W.o_iconst X (4 : Int32) (pc' := 83) at_82 rfl rfl ?_
      refine W.o_iand X (pc' := 84) at_83 rfl ?_
      refine W.o_ifeq X (pt := 99) (pf := 87) at_84 ⟨by decide, by decide⟩ rfl (fun hf2 => ?_) (fun hf2 => ?_)
      · exact J p0 p3 a2 b2 n2 qa2 qb2 qn2
      · refine W.o_iload X (pc' := 89) at_87 rfl rfl ?_
        refine W.o_istore X (pc' := 91) at_89 rfl (L' := #[.val (.int p0), .val (.int p1), .val (.int p0), .val (.int p3), .val (.int p4), .val (.int p5), .val (.int a1), .val (.int b1), .val (.int a2), .val (.int b2), .val (.int n1), .val (.int n1), .unset, .unset, .unset, .unset]) rfl ?_
        refine W.o_iload X (pc' := 93) at_91 rfl rfl ?_
        refine W.o_istore X (pc' := 95) at_93 rfl (L' := #[.val (.int p0), .val (.int p1), .val (.int p0), .val (.int p3), .val (.int p4), .val (.int p5), .val (.int a1), .val (.int b1), .val (.int a1), .val (.int b2), .val (.int n1), .val (.int n1), .unset, .unset, .unset, .unset]) rfl ?_
        refine W.o_iload X (pc' := 97) at_95 rfl rfl ?_
        refine W.o_istore X (pc' := 99) at_97 rfl (L' := #[.val (.int p0), .val (.int p1), .val (.int p0), .val (.int p3), .val (.int p4), .val (.int p5), .val (.int a1), .val (.int b1), .val (.int a1), .val (.int b1), .val (.int n1), .val (.int n1), .unset, .unset, .unset, .unset]) rfl ?_
        exact J p0 p3 a1 b1 n1 qa1 qb1 qn1
    · refine W.o_iloadN X (pc' := 79) at_78 rfl rfl ?_
      refine W.o_istoreN X (pc' := 80) at_79 rfl (L' := #[.val (.int p0), .val (.int p1), .val (.int p0), .val (.int p1), .val (.int p4), .val (.int p5), .val (.int a1), .val (.int b1), .val (.int a2), .val (.int b2), .val (.int n1), .val (.int n2), .unset, .unset, .unset, .unset]) rfl ?_
      refine W.o_iload X (pc' := 82) at_80 rfl rfl ?_
      refine W.o_iconst X (4 : Int32) (pc' := 83) at_82 rfl rfl ?_
      refine W.o_iand X (pc' := 84) at_83 rfl ?_
      refine W.o_ifeq X (pt := 99) (pf := 87) at_84 ⟨by decide, by decide⟩ rfl (fun hf2 => ?_) (fun hf2 => ?_)
      · exact J p0 p1 a2 b2 n2 qa2 qb2 qn2
      · refine W.o_iload X (pc' := 89) at_87 rfl rfl ?_
        refine W.o_istore X (pc' := 91) at_89 rfl (L' := #[.val (.int p0), .val (.int p1), .val (.int p0), .val (.int p1), .val (.int p4), .val (.int p5), .val (.int a1), .val (.int b1), .val (.int a2), .val (.int b2), .val (.int n1), .val (.int n1), .unset, .unset, .unset, .unset]) rfl ?_
        refine W.o_iload X (pc' := 93) at_91 rfl rfl ?_
        refine W.o_istore X (pc' := 95) at_93 rfl (L' := #[.val (.int p0), .val (.int p1), .val (.int p0), .val (.int p1), .val (.int p4), .val (.int p5), .val (.int a1), .val (.int b1), .val (.int a1), .val (.int b2), .val (.int n1), .val (.int n1), .unset, .unset, .unset, .unset]) rfl ?_
        refine W.o_iload X (pc' := 97) at_95 rfl rfl ?_
        refine W.o_istore X (pc' := 99) at_97 rfl (L' := #[.val (.int p0), .val (.int p1), .val (.int p0), .val (.int p1), .val (.int p4), .val (.int p5), .val (.int a1), .val (.int b1), .val (.int a1), .val (.int b1), .val (.int n1), .val (.int n1), .unset, .unset, .unset, .unset]) rfl ?_
        exact J p0 p1 a1 b1 n1 qa1 qb1 qn1
/-- no subclass: from Object up -/
theorem nsRoot {Z : State} {a0 : Array Value} {O K : String} {k : Nat} (w2 : (Cond.noSuperclass O).before a0 Z = true) (w4 : (Cond.instantiable K k).before a0 Z = true) (h2 : O ≠ K) : NS Z O K := by
  obtain ⟨t, kt, g1, g2, g3, g4, -⟩ := Cond.instantiable_spec w4
  obtain ⟨c, k, h1, h2', h3, -, -⟩ := Cond.noSuperclass_spec w2
  have ne := ids_ne h1 g1 h2
  refine ⟨c, t, h1, g1, fun fuel => ?_⟩
  cases fuel with
  | zero => rfl
  | succ f => simp [Vm.isSubclassAux, ne, h2', h3]
theorem nsNo {Z : State} {a0 : Array Value} {D S K : String} {k : Nat} (w1 : (Cond.superclass D S).before a0 Z = true) (w4 : (Cond.instantiable K k).before a0 Z = true) (n : NS Z D K) (h1 : D ≠ K) : ∃ c t, Z.vm.findClass D = some c ∧ Z.vm.findClass K = some t ∧ Z.vm.assignable c t = false := by
  obtain ⟨t, kt, g1, g2, g3, g4, -⟩ := Cond.instantiable_spec w4
  obtain ⟨c, t', a1, a2, a3⟩ := n
  cases g1.symm.trans a2
  obtain ⟨p, k, kp, b1, b2, b3, b4, b5, -, b7⟩ := Cond.superclass_spec a1 w1
  have ne := ids_ne a1 g1 h1
  have gi : kt.isInterface = false := by simp at g4; exact g4.1
  refine ⟨c, t, a1, g1, ?_⟩
  show Z.vm.assignableAux (255 + 1) c t = false
  simp [Vm.assignableAux, ne, b2, g2, b5, g3, gi, Vm.isSubclass, a3]
/-- a class straight under Object is no subclass of another ordinary class -/
theorem notSub {Z : State} {a0 : Array Value} {D O K : String} {k : Nat} (w1 : (Cond.superclass D O).before a0 Z = true) (w2 : (Cond.noSuperclass O).before a0 Z = true) (w4 : (Cond.instantiable K k).before a0 Z = true) (h1 : D ≠ K) (h2 : O ≠ K) : ∃ c t, Z.vm.findClass D = some c ∧ Z.vm.findClass K = some t ∧ Z.vm.assignable c t = false :=
  nsNo w1 w4 (NS.step w1 (nsRoot w2 w4 h2) h1) h1
set_option maxRecDepth 65536 in
set_option maxHeartbeats 40000000 in
theorem comes_1 {Post : Tables → Env → Array Value → State → Outcome → State → Prop} (hpost : ∀ tb e args s v u, (limb_1_1.after args s (.returned v) u = true ∧ limb_1_2.after args s (.returned v) u = true ∧ True) → ReturnedEndW s (.returned v) u (Jvm.fieldLocs frame_1_writes args s ++ Jvm.arrayLocs frame_1_arrays args s ++ Jvm.staticLocs frame_1_statics s) 32 2176 → Post tb e args s (.returned v) u) :
    ArmFor flags0 classFile x code maxLocals ret World_1 tables_1 room_1 Calls_1 rest_1 Pre_1 Post := by
  intro l hfl _ _ p e ha hc hk s m args below hf hA hF happ hP
  obtain ⟨hcalls, hrest, hpre⟩ := hP
  obtain ⟨-, -, -, hnamed, -, -, -, hat⟩ := (Spec.applies_iff hf).mp happ
  obtain ⟨hg, hn⟩ := and_e (Cond.before_iff.mp (show (Jvm.Cond.and given_1 narrow_1).before args s = true from hpre))
  obtain ⟨g0, r0⟩ := and_e hg
  obtain ⟨g1, r1⟩ := and_e r0
  obtain ⟨g2, r2⟩ := and_e r1
  obtain ⟨g3, r3⟩ := and_e r2
  obtain ⟨g4, r4⟩ := and_e r3
  obtain ⟨g5, r5⟩ := and_e r4
  obtain ⟨w0, w1, w2, w3, w4, w5, rfl⟩ : ∃ w0 w1 w2 w3 w4 w5 : Value, args = #[w0, w1, w2, w3, w4, w5] := by
    have hs : args.size = 6 := by simpa [Cond.value, given_1] using g0
    obtain ⟨L⟩ := args
    match L, hs with
    | [w0, w1, w2, w3, w4, w5], _ => exact ⟨w0, w1, w2, w3, w4, w5, rfl⟩
  have hw := fun d (hd : d ∈ tables_1) => atoms_spec (ws := Jvm.Cond.code x code maxLocals ret :: tables_1) hat d (List.mem_cons_of_mem _ hd)
  obtain ⟨hsets, hown0⟩ := atoms_of _ (rest_1_c_eq ▸ (show rest_1_c.before _ s = true from hrest))
  obtain ⟨i0, ei0⟩ := is_v g1
  obtain rfl : w0 = (.int i0) := Option.some.inj ei0
  obtain ⟨i1, ei1⟩ := is_v g2
  obtain rfl : w1 = (.int i1) := Option.some.inj ei1
  obtain ⟨i2, ei2⟩ := is_v g3
  obtain rfl : w2 = (.int i2) := Option.some.inj ei2
  obtain ⟨i3, ei3⟩ := is_v g4
  obtain rfl : w3 = (.int i3) := Option.some.inj ei3
  obtain ⟨i4, ei4⟩ := is_v g5
  obtain rfl : w4 = (.int i4) := Option.some.inj ei4
  obtain ⟨i5, ei5⟩ := is_v r5
  obtain rfl : w5 = (.int i5) := Option.some.inj ei5
  have n3 := not_v (Cond.before_iff.mp (hsets _ (List.mem_of_getElem? (i := 2) rfl)))
  obtain ⟨cz, ecz⟩ := is_v (Cond.before_iff.mp (hsets _ (List.mem_of_getElem? (i := 1) rfl)))
  have C0 : Sta s s.heap "java/lang/String" "COMPACT_STRINGS" "Z" (.int cz) := Sta.start ecz (Or.inl (hsets _ (List.mem_of_getElem? (i := 0) rfl)))
  have hcz : ¬ (cz = (0 : Int32)) := gotF (Cond.eq_ints ecz (Term.int_eval (0))) n3
  have hno := notSub (hw _ (List.mem_of_getElem? (i := 73) rfl)) (hw _ (List.mem_of_getElem? (i := 74) rfl)) (hw _ (List.mem_of_getElem? (i := 1) rfl)) (by decide) (by decide)
  have hEx : Ext s.heap s.heap := ⟨Nat.le_refl _, fun _ _ q => q⟩
  have hEW : EW s #[(.int i0), (.int i1), (.int i2), (.int i3), (.int i4), (.int i5)] el := EW.cons (hw _ (List.mem_of_getElem? (i := 37) rfl)) (by decide) (EW.cons (hw _ (List.mem_of_getElem? (i := 21) rfl)) (by decide) (EW.nil))
  have hCH : CHv s el s.vm s.heap := CHv.start hEW (fun p hp => hcalls.1 p hp) (hsets _ (List.mem_of_getElem? (i := 2) rfl)) (hw _ (List.mem_of_getElem? (i := 22) rfl)) (hw _ (List.mem_of_getElem? (i := 8) rfl))
  obtain ⟨n, o, h1, h2, h3, v, L, rfl, ⟨N, -, -, rfl⟩, hq⟩ := ctLaw l s _ hw i0 i1 i2 i3 i4 i5 cz s.heap C0 hcz hno tables_1 hEW hEx p e ha hc hk s m _ below hf ((Spec.applies_iff_loose hf).mp happ).1 ⟨rfl, State.Warmed39.refl s, rfl, hCH, all0⟩ trivial
  have hq : ReturnedEndW s _ _ L room_1.cells room_1.slots := hq
  exact ⟨n, _, h1, h2, h3, hpost _ _ _ _ _ _ ⟨Cond.after_iff.mpr rfl, Cond.after_iff.mpr (eq_i res_at (Term.int_eval (1)) rfl), trivial⟩ ⟨hq.1, hq.2.1, hq.2.2.1, (hq.2.2.2.sift fun y hy => Or.inr (N y hy)).mono (by decide) (by decide)⟩⟩
theorem main_1_1 : Claimed_1_1 := comes_1 fun _ _ _ _ _ _ h hF => ⟨h.1, hF⟩
theorem main_1_2 : Claimed_1_2 := comes_1 fun _ _ _ _ _ _ h hF => ⟨h.2.1, hF⟩
end Jvm.Pilot.@@N@@
namespace Jvm.Pilot.@@N@@
open Jvm Jvm.ClassFile Sem Op Lib Jvm.Free Jvm.Stand Jvm.Pilot.@@N@@.Jvm.D
/-! MADE BY PROGRAM (witnessworld.py) out of the Statement's table words and the real class files: 21 classes; the members and pool entries that the words name. The judged class is class 1, her method 2. -/
namespace start1
open Jvm.ClassFile
def u (s : String) : CpInfo := .utf8 (stringToUtf16 s)
/-- a pool by its gaps: so many unusable entries, then the entry; so many at the end -/
def gap : Nat → List CpInfo → List CpInfo
  | 0, r => r
  | n + 1, r => .unusable :: gap n r
def poolList (es : List (Nat × CpInfo)) (last : Nat) : List CpInfo := es.foldr (fun e r => gap e.1 (e.2 :: r)) (gap last [])
def pool (es : List (Nat × CpInfo)) (last : Nat) : Array CpInfo := ⟨poolList es last⟩
def fileOf (pool : Array CpInfo) (this : Nat) (attrs : Array Attribute := #[]) (ms : Array MethodInfo := #[]) (fl : Nat := 33) (sup : Nat := 0) (ifs : Array Nat := #[]) (fds : Array FieldInfo := #[]) : ClassFile where
  minorVersion := 0
  majorVersion := 65
  constantPool := pool
  accessFlags := fl
  thisClass := this
  superClass := sup
  interfaces := ifs
  fields := fds
  methods := ms
  attributes := attrs
def plain (name : String) (sup : Option ClassId) : Class where
  name := name
  kind := .ordinary
  loader := none
  accessFlags := 33
  super := sup
  interfaces := #[]
  cf := none
  fields := #[]
  methods := #[]
  instanceTypes := #[]
  staticTypes := #[]
  resolved := #[]
  callSites := []
  init := .initialized
  statics := none
  mirror := none

def pool0 : Array CpInfo := pool [(5, u "<init>"), (0, u "()V"), (1, .class_ 10), (1, u "java/lang/Object")] 113

def k0c0 : Code := { maxStack := 0, maxLocals := 1, code := object_method_1_code, exceptionTable := #[], attributes := #[] }
def k0m0 : Method := { name := "<init>", desc := "()V", sig := { parameters := [], returnType := none }, accessFlags := 1, code := some k0c0 }
/-- java/lang/Object -/
def k0 : Class := { plain "java/lang/Object" none with
  accessFlags := 33
  interfaces := #[]
  cf := some (fileOf pool0 8 #[] #[{ accessFlags := 1, nameIndex := 5, descriptorIndex := 6, attributes := #[] }] 33 0 #[] #[])
  fields := #[]
  methods := #[k0m0]
  instanceTypes := #[]
  staticTypes := #[]
  resolved := Array.replicate 124 none
  statics := none }

def pool1 : Array CpInfo := pool [(2, .class_ 4), (1, u "java/lang/Object"), (0, u "<init>"), (0, u "()V"), (0, .class_ 8), (0, u "java/lang/String"), (0, .methodref 7 10), (0, .nameAndType 5 11), (0, u "([C)V"), (0, .class_ 13), (0, u "com/example/nonce/nonce/reader/ModelError"), (0, .methodref 15 16), (0, .class_ 17), (0, .nameAndType 18 19), (0, u "com/example/nonce/nonce/reader/ModelErrorEqualsPinLaw"), (0, u "mk"), (0, u "(III)Ljava/lang/String;"), (0, .methodref 12 21), (0, .nameAndType 5 22), (0, u "(IILjava/lang/String;)V"), (0, .methodref 12 24), (0, .nameAndType 25 26), (0, u "equals"), (0, u "(Ljava/lang/Object;)Z"), (3, u "law"), (0, u "(IIIIII)Z")] 2

def k1m0 : Method := { name := "<init>", desc := "()V", sig := { parameters := [], returnType := none }, accessFlags := 1, code := none }
def k1c1 : Code := { maxStack := 6, maxLocals := 3, code := method_2_code, exceptionTable := #[], attributes := #[] }
def k1m1 : Method := { name := "mk", desc := "(III)Ljava/lang/String;", sig := { parameters := [.int, .int, .int], returnType := some (.object "java/lang/String") }, accessFlags := 10, code := some k1c1 }
def k1c2 : Code := { maxStack := 7, maxLocals := 16, code := code, exceptionTable := #[], attributes := #[] }
def k1m2 : Method := { name := "law", desc := "(IIIIII)Z", sig := { parameters := [.int, .int, .int, .int, .int, .int], returnType := some .boolean }, accessFlags := 9, code := some k1c2 }
/-- com/example/nonce/nonce/reader/ModelErrorEqualsPinLaw -/
def k1 : Class := { plain "com/example/nonce/nonce/reader/ModelErrorEqualsPinLaw" (some 0) with
  accessFlags := 49
  interfaces := #[]
  cf := some (fileOf pool1 15 #[] #[{ accessFlags := 1, nameIndex := 5, descriptorIndex := 6, attributes := #[] }, { accessFlags := 10, nameIndex := 18, descriptorIndex := 19, attributes := #[] }, { accessFlags := 9, nameIndex := 30, descriptorIndex := 31, attributes := #[] }] 49 2 #[] #[])
  fields := #[]
  methods := #[k1m0, k1m1, k1m2]
  instanceTypes := #[]
  staticTypes := #[]
  resolved := Array.replicate 34 none
  statics := none }

def pool2 : Array CpInfo := pool [(1, .methodref 2 3), (0, .class_ 4), (0, .nameAndType 5 6), (0, u "java/lang/Object"), (0, u "<init>"), (0, u "()V"), (0, .fieldref 8 9), (0, .class_ 10), (0, .nameAndType 11 12), (0, u "com/example/nonce/nonce/reader/ModelError"), (0, u "line"), (0, u "I"), (0, .fieldref 8 14), (0, .nameAndType 15 12), (0, u "column"), (0, .string 17), (0, u "message"), (0, .methodref 19 20), (0, .class_ 21), (0, .nameAndType 22 23), (0, u "java/util/Objects"), (0, u "requireNonNull"), (0, u "(Ljava/lang/Object;Ljava/lang/String;)Ljava/lang/Object;"), (0, .class_ 25), (0, u "java/lang/String"), (0, .fieldref 8 27), (0, .nameAndType 17 28), (0, u "Ljava/lang/String;"), (0, .methodref 24 30), (0, .nameAndType 31 32), (0, u "equals"), (0, u "(Ljava/lang/Object;)Z"), (14, u "(IILjava/lang/String;)V")] 24

def k2c0 : Code := { maxStack := 3, maxLocals := 4, code := prog_59_method_1_code, exceptionTable := #[], attributes := #[] }
def k2m0 : Method := { name := "<init>", desc := "(IILjava/lang/String;)V", sig := { parameters := [.int, .int, (.object "java/lang/String")], returnType := none }, accessFlags := 0, code := some k2c0 }
def k2c1 : Code := { maxStack := 2, maxLocals := 3, code := prog_59_method_5_code, exceptionTable := #[], attributes := #[] }
def k2m1 : Method := { name := "equals", desc := "(Ljava/lang/Object;)Z", sig := { parameters := [(.object "java/lang/Object")], returnType := some .boolean }, accessFlags := 1, code := some k2c1 }
/-- com/example/nonce/nonce/reader/ModelError -/
def k2 : Class := { plain "com/example/nonce/nonce/reader/ModelError" (some 0) with
  accessFlags := 33
  interfaces := #[]
  cf := some (fileOf pool2 8 #[] #[{ accessFlags := 0, nameIndex := 5, descriptorIndex := 47, attributes := #[] }, { accessFlags := 1, nameIndex := 31, descriptorIndex := 32, attributes := #[] }] 33 2 #[] #[{ accessFlags := 18, nameIndex := 11, descriptorIndex := 12, attributes := #[] }, { accessFlags := 18, nameIndex := 15, descriptorIndex := 12, attributes := #[] }, { accessFlags := 18, nameIndex := 17, descriptorIndex := 28, attributes := #[] }])
  fields := #[{ name := "line", type := .int, accessFlags := 18, slot := 0, constantValue := 0 }, { name := "column", type := .int, accessFlags := 18, slot := 1, constantValue := 0 }, { name := "message", type := (.object "java/lang/String"), accessFlags := 18, slot := 2, constantValue := 0 }]
  methods := #[k2m0, k2m1]
  instanceTypes := #[.int, .int, (.object "java/lang/String")]
  staticTypes := #[]
  resolved := Array.replicate 72 none
  statics := none }

def pool3 : Array CpInfo := pool [(1, .class_ 2), (0, u "java/io/Serializable"), (0, .class_ 4), (0, u "java/lang/Object")] 2

/-- java/io/Serializable -/
def k3 : Class := { plain "java/io/Serializable" (some 0) with
  accessFlags := 1537
  interfaces := #[]
  cf := some (fileOf pool3 1 #[] #[] 1537 3 #[] #[])
  fields := #[]
  methods := #[]
  instanceTypes := #[]
  staticTypes := #[]
  resolved := Array.replicate 7 none
  statics := none }

def pool4 : Array CpInfo := pool [(1, .class_ 2), (0, u "java/lang/Comparable"), (0, .class_ 4), (0, u "java/lang/Object")] 7

/-- java/lang/Comparable -/
def k4 : Class := { plain "java/lang/Comparable" (some 0) with
  accessFlags := 1537
  interfaces := #[]
  cf := some (fileOf pool4 1 #[] #[] 1537 3 #[] #[])
  fields := #[]
  methods := #[]
  instanceTypes := #[]
  staticTypes := #[]
  resolved := Array.replicate 12 none
  statics := none }

def pool5 : Array CpInfo := pool [(2, .class_ 4), (1, u "java/lang/CharSequence"), (42, .class_ 48), (0, u "java/lang/CharSequence$1CodePointIterator"), (10, .class_ 60), (0, u "java/lang/CharSequence$1CharIterator"), (5, .class_ 67), (0, u "java/lang/Object")] 63

/-- java/lang/CharSequence -/
def k5 : Class := { plain "java/lang/CharSequence" (some 0) with
  accessFlags := 1537
  interfaces := #[]
  cf := some (fileOf pool5 2 #[.nestMembers #[47, 59]] #[] 1537 66 #[] #[])
  fields := #[]
  methods := #[]
  instanceTypes := #[]
  staticTypes := #[]
  resolved := Array.replicate 131 none
  statics := none }

def pool6 : Array CpInfo := pool [(1, .class_ 2), (0, u "java/lang/constant/Constable"), (0, .class_ 4), (0, u "java/lang/Object")] 6

/-- java/lang/constant/Constable -/
def k6 : Class := { plain "java/lang/constant/Constable" (some 0) with
  accessFlags := 1537
  interfaces := #[]
  cf := some (fileOf pool6 1 #[] #[] 1537 3 #[] #[])
  fields := #[]
  methods := #[]
  instanceTypes := #[]
  staticTypes := #[]
  resolved := Array.replicate 11 none
  statics := none }

def pool7 : Array CpInfo := pool [(1, .class_ 2), (0, u "java/lang/constant/ConstantDesc"), (0, .class_ 4), (0, u "java/lang/Object")] 32

/-- java/lang/constant/ConstantDesc -/
def k7 : Class := { plain "java/lang/constant/ConstantDesc" (some 0) with
  accessFlags := 1537
  interfaces := #[]
  cf := some (fileOf pool7 1 #[] #[] 1537 3 #[] #[])
  fields := #[]
  methods := #[]
  instanceTypes := #[]
  staticTypes := #[]
  resolved := Array.replicate 37 none
  statics := none }

def pool8 : Array CpInfo := pool [(1, .methodref 2 3), (0, .class_ 4), (0, .nameAndType 5 6), (0, u "java/lang/Object"), (0, u "<init>"), (0, u "()V"), (0, .string 8), (0, u ""), (0, .fieldref 10 11), (0, .class_ 12), (0, .nameAndType 13 14), (0, u "java/lang/String"), (0, u "value"), (0, u "[B"), (0, .fieldref 10 16), (0, .nameAndType 17 18), (0, u "coder"), (0, u "B"), (2, u "hash"), (0, u "I"), (2, u "hashIsZero"), (0, u "Z"), (0, .methodref 10 28), (0, .nameAndType 5 29), (0, u "([CIILjava/lang/Void;)V"), (8, .fieldref 10 39), (0, .nameAndType 40 26), (0, u "COMPACT_STRINGS"), (1, .class_ 44), (1, u "java/lang/StringUTF16"), (0, u "compress"), (1, .methodref 42 48), (0, .nameAndType 49 50), (0, u "coderFromArrayLen"), (0, u "([BI)B"), (56, .class_ 109), (1, u "java/lang/StringLatin1"), (67, .methodref 42 178), (0, .nameAndType 45 179), (0, u "([CII)[B"), (361, .methodref 107 542), (0, .nameAndType 543 544), (0, u "equals"), (0, u "([B[B)Z"), (28, u "(Ljava/lang/Object;)Z"), (1, .class_ 576), (0, u "java/lang/CharSequence"), (22, u "CASE_INSENSITIVE_ORDER"), (0, u "Ljava/util/Comparator;"), (409, u "([C)V"), (90, u "serialPersistentFields"), (0, u "[Ljava/io/ObjectStreamField;"), (0, .class_ 1104), (0, u "java/lang/String$CaseInsensitiveComparator"), (1, .class_ 1107), (0, u "java/io/Serializable"), (0, .class_ 1109), (0, u "java/lang/Comparable"), (0, .class_ 1111), (0, u "java/lang/constant/Constable"), (0, .class_ 1113), (0, u "java/lang/constant/ConstantDesc"), (2, u "serialVersionUID"), (0, u "J"), (3, u "REPL"), (0, u "C"), (2, u "LATIN1"), (1, u "UTF16")] 323

def k8m0 : Method := { name := "<init>", desc := "()V", sig := { parameters := [], returnType := none }, accessFlags := 1, code := none }
def k8c1 : Code := { maxStack := 5, maxLocals := 2, code := jdk_42_method_3_code, exceptionTable := #[], attributes := #[] }
def k8m1 : Method := { name := "<init>", desc := "([C)V", sig := { parameters := [(.array .char)], returnType := none }, accessFlags := 1, code := some k8c1 }
def k8c2 : Code := { maxStack := 2, maxLocals := 3, code := jdk_42_method_66_code, exceptionTable := #[], attributes := #[] }
def k8m2 : Method := { name := "equals", desc := "(Ljava/lang/Object;)Z", sig := { parameters := [(.object "java/lang/Object")], returnType := some .boolean }, accessFlags := 1, code := some k8c2 }
def k8c3 : Code := { maxStack := 4, maxLocals := 6, code := jdk_42_method_149_code, exceptionTable := #[], attributes := #[] }
def k8m3 : Method := { name := "<init>", desc := "([CIILjava/lang/Void;)V", sig := { parameters := [(.array .char), .int, .int, (.object "java/lang/Void")], returnType := none }, accessFlags := 2, code := some k8c3 }
/-- java/lang/String -/
def k8 : Class := { plain "java/lang/String" (some 0) with
  accessFlags := 49
  interfaces := #[3, 4, 5, 6, 7]
  cf := some (fileOf pool8 10 #[.nestMembers #[1103]] #[{ accessFlags := 1, nameIndex := 5, descriptorIndex := 6, attributes := #[] }, { accessFlags := 1, nameIndex := 5, descriptorIndex := 1010, attributes := #[] }, { accessFlags := 1, nameIndex := 543, descriptorIndex := 573, attributes := #[] }, { accessFlags := 2, nameIndex := 5, descriptorIndex := 29, attributes := #[] }] 49 2 #[1106, 1108, 575, 1110, 1112] #[{ accessFlags := 18, nameIndex := 13, descriptorIndex := 14, attributes := #[] }, { accessFlags := 18, nameIndex := 17, descriptorIndex := 18, attributes := #[] }, { accessFlags := 2, nameIndex := 21, descriptorIndex := 22, attributes := #[] }, { accessFlags := 2, nameIndex := 25, descriptorIndex := 26, attributes := #[] }, { accessFlags := 26, nameIndex := 1116, descriptorIndex := 1117, attributes := #[] }, { accessFlags := 24, nameIndex := 40, descriptorIndex := 26, attributes := #[] }, { accessFlags := 26, nameIndex := 1101, descriptorIndex := 1102, attributes := #[] }, { accessFlags := 26, nameIndex := 1121, descriptorIndex := 1122, attributes := #[] }, { accessFlags := 25, nameIndex := 599, descriptorIndex := 600, attributes := #[] }, { accessFlags := 24, nameIndex := 1125, descriptorIndex := 18, attributes := #[] }, { accessFlags := 24, nameIndex := 1127, descriptorIndex := 18, attributes := #[] }])
  fields := #[{ name := "value", type := (.array .byte), accessFlags := 18, slot := 0, constantValue := 0 }, { name := "coder", type := .byte, accessFlags := 18, slot := 1, constantValue := 0 }, { name := "hash", type := .int, accessFlags := 2, slot := 2, constantValue := 0 }, { name := "hashIsZero", type := .boolean, accessFlags := 2, slot := 3, constantValue := 0 }, { name := "serialVersionUID", type := .long, accessFlags := 26, slot := 0, constantValue := 0 }, { name := "COMPACT_STRINGS", type := .boolean, accessFlags := 24, slot := 1, constantValue := 0 }, { name := "serialPersistentFields", type := (.array (.object "java/io/ObjectStreamField")), accessFlags := 26, slot := 2, constantValue := 0 }, { name := "REPL", type := .char, accessFlags := 26, slot := 3, constantValue := 0 }, { name := "CASE_INSENSITIVE_ORDER", type := (.object "java/util/Comparator"), accessFlags := 25, slot := 4, constantValue := 0 }, { name := "LATIN1", type := .byte, accessFlags := 24, slot := 5, constantValue := 0 }, { name := "UTF16", type := .byte, accessFlags := 24, slot := 6, constantValue := 0 }]
  methods := #[k8m0, k8m1, k8m2, k8m3]
  instanceTypes := #[(.array .byte), .byte, .int, .boolean]
  staticTypes := #[.long, .boolean, (.array (.object "java/io/ObjectStreamField")), .char, (.object "java/util/Comparator"), .byte, .byte]
  resolved := Array.replicate 1451 none
  statics := some 0 }

def pool9 : Array CpInfo := pool [(2, .class_ 4), (1, u "java/lang/Object"), (0, u "<init>"), (0, u "()V"), (35, .class_ 44), (1, u "java/util/Objects"), (0, u "requireNonNull"), (48, u "(Ljava/lang/Object;Ljava/lang/String;)Ljava/lang/Object;")] 89

def k9m0 : Method := { name := "<init>", desc := "()V", sig := { parameters := [], returnType := none }, accessFlags := 2, code := none }
def k9c1 : Code := { maxStack := 3, maxLocals := 2, code := jdk_31_method_11_code, exceptionTable := #[], attributes := #[] }
def k9m1 : Method := { name := "requireNonNull", desc := "(Ljava/lang/Object;Ljava/lang/String;)Ljava/lang/Object;", sig := { parameters := [(.object "java/lang/Object"), (.object "java/lang/String")], returnType := some (.object "java/lang/Object") }, accessFlags := 9, code := some k9c1 }
/-- java/util/Objects -/
def k9 : Class := { plain "java/util/Objects" (some 0) with
  accessFlags := 49
  interfaces := #[]
  cf := some (fileOf pool9 42 #[] #[{ accessFlags := 2, nameIndex := 5, descriptorIndex := 6, attributes := #[] }, { accessFlags := 9, nameIndex := 45, descriptorIndex := 94, attributes := #[] }] 49 2 #[] #[])
  fields := #[]
  methods := #[k9m0, k9m1]
  instanceTypes := #[]
  staticTypes := #[]
  resolved := Array.replicate 184 none
  statics := none }

def pool10 : Array CpInfo := pool [(4, .class_ 6), (1, u "java/lang/Object"), (0, u "<init>"), (0, u "()V"), (5, .class_ 16), (1, u "java/lang/StringLatin1"), (104, u "$assertionsDisabled"), (0, u "Z"), (98, .class_ 223), (1, u "java/lang/StringLatin1$LinesSpliterator"), (57, u "equals"), (0, u "([B[B)Z"), (107, .class_ 391), (0, u "java/lang/StringLatin1$CharsSpliterator")] 3

def k10m0 : Method := { name := "<init>", desc := "()V", sig := { parameters := [], returnType := none }, accessFlags := 0, code := none }
def k10c1 : Code := { maxStack := 3, maxLocals := 3, code := jdk_43_method_13_code, exceptionTable := #[], attributes := #[] }
def k10m1 : Method := { name := "equals", desc := "([B[B)Z", sig := { parameters := [(.array .byte), (.array .byte)], returnType := some .boolean }, accessFlags := 9, code := some k10c1 }
/-- java/lang/StringLatin1 -/
def k10 : Class := { plain "java/lang/StringLatin1" (some 0) with
  accessFlags := 48
  interfaces := #[]
  cf := some (fileOf pool10 14 #[.nestMembers #[390, 221]] #[{ accessFlags := 0, nameIndex := 7, descriptorIndex := 8, attributes := #[] }, { accessFlags := 9, nameIndex := 281, descriptorIndex := 282, attributes := #[] }] 48 4 #[] #[{ accessFlags := 4120, nameIndex := 121, descriptorIndex := 122, attributes := #[] }])
  fields := #[{ name := "$assertionsDisabled", type := .boolean, accessFlags := 4120, slot := 0, constantValue := 0 }]
  methods := #[k10m0, k10m1]
  instanceTypes := #[]
  staticTypes := #[.boolean]
  resolved := Array.replicate 395 none
  statics := none }

def pool11 : Array CpInfo := pool [(6, .class_ 8), (1, u "java/lang/Object"), (0, u "<init>"), (0, u "()V"), (1, .class_ 14), (1, u "java/lang/StringUTF16"), (31, u "$assertionsDisabled"), (0, u "Z"), (13, u "HI_BYTE_SHIFT"), (0, u "I"), (2, u "LO_BYTE_SHIFT"), (49, .methodref 12 116), (0, .nameAndType 117 118), (0, u "compress"), (0, u "([CI[BII)I"), (3, u "([CII)[B"), (138, u "coderFromArrayLen"), (0, u "([BI)B"), (106, .class_ 371), (1, u "java/lang/StringUTF16$LinesSpliterator"), (58, u "MAX_LENGTH"), (196, .class_ 628), (0, u "java/lang/StringUTF16$CodePointsSpliterator"), (0, .class_ 630), (0, u "java/lang/StringUTF16$CharsSpliterator")] 4

def k11m0 : Method := { name := "<init>", desc := "()V", sig := { parameters := [], returnType := none }, accessFlags := 0, code := none }
def k11c1 : Code := { maxStack := 2, maxLocals := 2, code := jdk_52_method_15_code, exceptionTable := #[], attributes := #[] }
def k11m1 : Method := { name := "coderFromArrayLen", desc := "([BI)B", sig := { parameters := [(.array .byte), .int], returnType := some .byte }, accessFlags := 8, code := some k11c1 }
def k11c2 : Code := { maxStack := 5, maxLocals := 6, code := jdk_52_method_16_code, exceptionTable := #[], attributes := #[] }
def k11m2 : Method := { name := "compress", desc := "([CII)[B", sig := { parameters := [(.array .char), .int, .int], returnType := some (.array .byte) }, accessFlags := 9, code := some k11c2 }
def k11c3 : Code := { maxStack := 3, maxLocals := 7, code := jdk_52_method_21_code, exceptionTable := #[], attributes := #[] }
def k11m3 : Method := { name := "compress", desc := "([CI[BII)I", sig := { parameters := [(.array .char), .int, (.array .byte), .int, .int], returnType := some .int }, accessFlags := 9, code := some k11c3 }
/-- java/lang/StringUTF16 -/
def k11 : Class := { plain "java/lang/StringUTF16" (some 0) with
  accessFlags := 48
  interfaces := #[]
  cf := some (fileOf pool11 12 #[.nestMembers #[627, 629, 369]] #[{ accessFlags := 0, nameIndex := 9, descriptorIndex := 10, attributes := #[] }, { accessFlags := 8, nameIndex := 261, descriptorIndex := 262, attributes := #[] }, { accessFlags := 9, nameIndex := 117, descriptorIndex := 122, attributes := #[] }, { accessFlags := 9, nameIndex := 117, descriptorIndex := 118, attributes := #[] }] 48 6 #[] #[{ accessFlags := 26, nameIndex := 61, descriptorIndex := 62, attributes := #[] }, { accessFlags := 26, nameIndex := 65, descriptorIndex := 62, attributes := #[] }, { accessFlags := 24, nameIndex := 430, descriptorIndex := 62, attributes := #[] }, { accessFlags := 4120, nameIndex := 46, descriptorIndex := 47, attributes := #[] }])
  fields := #[{ name := "HI_BYTE_SHIFT", type := .int, accessFlags := 26, slot := 0, constantValue := 0 }, { name := "LO_BYTE_SHIFT", type := .int, accessFlags := 26, slot := 1, constantValue := 0 }, { name := "MAX_LENGTH", type := .int, accessFlags := 24, slot := 2, constantValue := 0 }, { name := "$assertionsDisabled", type := .boolean, accessFlags := 4120, slot := 3, constantValue := 0 }]
  methods := #[k11m0, k11m1, k11m2, k11m3]
  instanceTypes := #[]
  staticTypes := #[.int, .int, .int, .boolean]
  resolved := Array.replicate 635 none
  statics := none }

def pool12 : Array CpInfo := pool [(2, .class_ 4), (1, u "java/lang/Object"), (0, u "<init>"), (0, u "()V"), (17, .class_ 26), (1, u "jdk/internal/util/Preconditions"), (28, .class_ 56), (0, u "jdk/internal/util/Preconditions$4"), (57, .class_ 115), (0, u "jdk/internal/util/Preconditions$1"), (7, u "SIOOBE_FORMATTER"), (0, u "Ljava/util/function/BiFunction;"), (0, .class_ 126), (0, u "jdk/internal/util/Preconditions$2"), (3, u "AIOOBE_FORMATTER"), (0, .class_ 132), (0, u "jdk/internal/util/Preconditions$3"), (3, u "IOOBE_FORMATTER")] 57

def k12m0 : Method := { name := "<init>", desc := "()V", sig := { parameters := [], returnType := none }, accessFlags := 1, code := none }
/-- jdk/internal/util/Preconditions -/
def k12 : Class := { plain "jdk/internal/util/Preconditions" (some 0) with
  accessFlags := 33
  interfaces := #[]
  cf := some (fileOf pool12 24 #[.nestMembers #[55, 131, 125, 114]] #[{ accessFlags := 1, nameIndex := 5, descriptorIndex := 6, attributes := #[] }] 33 2 #[] #[{ accessFlags := 25, nameIndex := 123, descriptorIndex := 124, attributes := #[] }, { accessFlags := 25, nameIndex := 130, descriptorIndex := 124, attributes := #[] }, { accessFlags := 25, nameIndex := 136, descriptorIndex := 124, attributes := #[] }])
  fields := #[{ name := "SIOOBE_FORMATTER", type := (.object "java/util/function/BiFunction"), accessFlags := 25, slot := 0, constantValue := 0 }, { name := "AIOOBE_FORMATTER", type := (.object "java/util/function/BiFunction"), accessFlags := 25, slot := 1, constantValue := 0 }, { name := "IOOBE_FORMATTER", type := (.object "java/util/function/BiFunction"), accessFlags := 25, slot := 2, constantValue := 0 }]
  methods := #[k12m0]
  instanceTypes := #[]
  staticTypes := #[(.object "java/util/function/BiFunction"), (.object "java/util/function/BiFunction"), (.object "java/util/function/BiFunction")]
  resolved := Array.replicate 194 none
  statics := some 1 }

def pool13 : Array CpInfo := pool [(9, u "<init>"), (6, .class_ 18), (1, u "java/lang/Object"), (0, u "()V"), (1, .class_ 23), (1, u "jdk/internal/util/ArraysSupport"), (0, u "LOG2_ARRAY_LONG_INDEX_SCALE"), (0, u "I"), (2, u "U"), (0, u "Ljdk/internal/misc/Unsafe;"), (8, u "BIG_ENDIAN"), (0, u "Z"), (8, u "LOG2_BYTE_BIT_SIZE"), (4, u "LOG2_ARRAY_INT_INDEX_SCALE"), (54, u "JLA"), (0, u "Ljdk/internal/access/JavaLangAccess;"), (11, u "LOG2_ARRAY_BOOLEAN_INDEX_SCALE"), (9, u "LOG2_ARRAY_BYTE_INDEX_SCALE"), (5, u "LOG2_ARRAY_CHAR_INDEX_SCALE"), (5, u "LOG2_ARRAY_SHORT_INDEX_SCALE"), (18, u "LOG2_ARRAY_FLOAT_INDEX_SCALE"), (24, u "LOG2_ARRAY_DOUBLE_INDEX_SCALE"), (89, u "T_BOOLEAN"), (2, u "T_CHAR"), (1, u "T_FLOAT"), (1, u "T_DOUBLE"), (1, u "T_BYTE"), (1, u "T_SHORT"), (1, u "T_INT"), (1, u "T_LONG"), (1, u "SOFT_MAX_ARRAY_LENGTH")] 83

def k13m0 : Method := { name := "<init>", desc := "()V", sig := { parameters := [], returnType := none }, accessFlags := 2, code := none }
/-- jdk/internal/util/ArraysSupport -/
def k13 : Class := { plain "jdk/internal/util/ArraysSupport" (some 0) with
  accessFlags := 33
  interfaces := #[]
  cf := some (fileOf pool13 21 #[] #[{ accessFlags := 2, nameIndex := 9, descriptorIndex := 19, attributes := #[] }] 33 16 #[] #[{ accessFlags := 24, nameIndex := 28, descriptorIndex := 29, attributes := #[] }, { accessFlags := 26, nameIndex := 38, descriptorIndex := 39, attributes := #[] }, { accessFlags := 25, nameIndex := 121, descriptorIndex := 25, attributes := #[] }, { accessFlags := 25, nameIndex := 131, descriptorIndex := 25, attributes := #[] }, { accessFlags := 25, nameIndex := 137, descriptorIndex := 25, attributes := #[] }, { accessFlags := 25, nameIndex := 143, descriptorIndex := 25, attributes := #[] }, { accessFlags := 25, nameIndex := 53, descriptorIndex := 25, attributes := #[] }, { accessFlags := 25, nameIndex := 24, descriptorIndex := 25, attributes := #[] }, { accessFlags := 25, nameIndex := 162, descriptorIndex := 25, attributes := #[] }, { accessFlags := 25, nameIndex := 187, descriptorIndex := 25, attributes := #[] }, { accessFlags := 26, nameIndex := 48, descriptorIndex := 25, attributes := #[] }, { accessFlags := 25, nameIndex := 277, descriptorIndex := 25, attributes := #[] }, { accessFlags := 25, nameIndex := 280, descriptorIndex := 25, attributes := #[] }, { accessFlags := 25, nameIndex := 282, descriptorIndex := 25, attributes := #[] }, { accessFlags := 25, nameIndex := 284, descriptorIndex := 25, attributes := #[] }, { accessFlags := 25, nameIndex := 286, descriptorIndex := 25, attributes := #[] }, { accessFlags := 25, nameIndex := 288, descriptorIndex := 25, attributes := #[] }, { accessFlags := 25, nameIndex := 290, descriptorIndex := 25, attributes := #[] }, { accessFlags := 25, nameIndex := 292, descriptorIndex := 25, attributes := #[] }, { accessFlags := 26, nameIndex := 108, descriptorIndex := 109, attributes := #[] }, { accessFlags := 25, nameIndex := 294, descriptorIndex := 25, attributes := #[] }])
  fields := #[{ name := "U", type := (.object "jdk/internal/misc/Unsafe"), accessFlags := 24, slot := 0, constantValue := 0 }, { name := "BIG_ENDIAN", type := .boolean, accessFlags := 26, slot := 1, constantValue := 0 }, { name := "LOG2_ARRAY_BOOLEAN_INDEX_SCALE", type := .int, accessFlags := 25, slot := 2, constantValue := 0 }, { name := "LOG2_ARRAY_BYTE_INDEX_SCALE", type := .int, accessFlags := 25, slot := 3, constantValue := 0 }, { name := "LOG2_ARRAY_CHAR_INDEX_SCALE", type := .int, accessFlags := 25, slot := 4, constantValue := 0 }, { name := "LOG2_ARRAY_SHORT_INDEX_SCALE", type := .int, accessFlags := 25, slot := 5, constantValue := 0 }, { name := "LOG2_ARRAY_INT_INDEX_SCALE", type := .int, accessFlags := 25, slot := 6, constantValue := 0 }, { name := "LOG2_ARRAY_LONG_INDEX_SCALE", type := .int, accessFlags := 25, slot := 7, constantValue := 0 }, { name := "LOG2_ARRAY_FLOAT_INDEX_SCALE", type := .int, accessFlags := 25, slot := 8, constantValue := 0 }, { name := "LOG2_ARRAY_DOUBLE_INDEX_SCALE", type := .int, accessFlags := 25, slot := 9, constantValue := 0 }, { name := "LOG2_BYTE_BIT_SIZE", type := .int, accessFlags := 26, slot := 10, constantValue := 0 }, { name := "T_BOOLEAN", type := .int, accessFlags := 25, slot := 11, constantValue := 0 }, { name := "T_CHAR", type := .int, accessFlags := 25, slot := 12, constantValue := 0 }, { name := "T_FLOAT", type := .int, accessFlags := 25, slot := 13, constantValue := 0 }, { name := "T_DOUBLE", type := .int, accessFlags := 25, slot := 14, constantValue := 0 }, { name := "T_BYTE", type := .int, accessFlags := 25, slot := 15, constantValue := 0 }, { name := "T_SHORT", type := .int, accessFlags := 25, slot := 16, constantValue := 0 }, { name := "T_INT", type := .int, accessFlags := 25, slot := 17, constantValue := 0 }, { name := "T_LONG", type := .int, accessFlags := 25, slot := 18, constantValue := 0 }, { name := "JLA", type := (.object "jdk/internal/access/JavaLangAccess"), accessFlags := 26, slot := 19, constantValue := 0 }, { name := "SOFT_MAX_ARRAY_LENGTH", type := .int, accessFlags := 25, slot := 20, constantValue := 0 }]
  methods := #[k13m0]
  instanceTypes := #[]
  staticTypes := #[(.object "jdk/internal/misc/Unsafe"), .boolean, .int, .int, .int, .int, .int, .int, .int, .int, .int, .int, .int, .int, .int, .int, .int, .int, .int, (.object "jdk/internal/access/JavaLangAccess"), .int]
  resolved := Array.replicate 378 none
  statics := none }

def pool14 : Array CpInfo := pool [(1, u "java/lang/Cloneable"), (0, .class_ 1), (0, u "java/lang/Object"), (0, .class_ 3)] 3

/-- java/lang/Cloneable -/
def k14 : Class := { plain "java/lang/Cloneable" (some 0) with
  accessFlags := 1537
  interfaces := #[]
  cf := some (fileOf pool14 2 #[] #[] 1537 4 #[] #[])
  fields := #[]
  methods := #[]
  instanceTypes := #[]
  staticTypes := #[]
  resolved := Array.replicate 8 none
  statics := none }

/-- the primitive byte -/
def k15 : Class := { plain "byte" none with kind := .primitive 'B', accessFlags := 0x411 }
/-- [B -/
def k16 : Class := { plain "[B" (some 0) with kind := .array 15 .byte, interfaces := #[14, 3], accessFlags := 1041 }

/-- the primitive char -/
def k17 : Class := { plain "char" none with kind := .primitive 'C', accessFlags := 0x411 }
/-- [C -/
def k18 : Class := { plain "[C" (some 0) with kind := .array 17 .char, interfaces := #[14, 3], accessFlags := 1041 }

/-- the primitive int -/
def k19 : Class := { plain "int" none with kind := .primitive 'I', accessFlags := 0x411 }
/-- [I -/
def k20 : Class := { plain "[I" (some 0) with kind := .array 19 .int, interfaces := #[14, 3], accessFlags := 1041 }

def heap : Heap := #[{ cls := 8, slots := #[.long 0, .int 1, .null, .int 0, .null, .int 0, .int 0], vm := .statics 8 },
  { cls := 12, slots := #[.null, .null, .null], vm := .statics 12 }]
def classes : Array Class := #[k0, k1, k2, k3, k4, k5, k6, k7, k8, k9, k10, k11, k12, k13, k14, k15, k16, k17, k18, k19, k20]
def interned : List (Array UInt16 × Addr) := []
def slotsUsed : Nat := 10
def theMethod : MethodId := ⟨1, 2⟩
def args0 : Array Value := #[.int 5, .int 5, .int 5, .int 5, .int 5, .int 5]
def aboutOver (below : List Frame) : State where
  vm := { classes := classes, interned := interned.toArray }
  heap := heap
  slotsUsed := slotsUsed
  threads := #[{ frames := .invoking theMethod args0 :: below }]
def below0 : List Frame := [.native { method := ⟨0, 0⟩, args := #[] }]
def about1 : State := aboutOver below0
def p0 : Program := .bare "" "" ""
def e0 : Env := launch0.env 0 0 0
theorem w_frames : about1.frames = Frame.invoking theMethod args0 :: below0 := rfl
set_option maxRecDepth 65536 in
theorem w_args : argsFit about1.vm theMethod args0 = true := by decide +kernel
set_option maxRecDepth 65536 in
theorem w_heap : heapFits about1 = true := by decide +kernel
set_option maxRecDepth 65536 in
theorem w_runnable : about1.curStatus? = some .runnable := by decide +kernel
set_option maxRecDepth 65536 in
theorem w_alone : about1.alone = true := by decide +kernel
set_option maxRecDepth 65536 in
theorem w_named : about1.methodNamed? x = some theMethod := by decide +kernel
set_option maxRecDepth 65536 in
theorem w_hears : about1.hears theMethod below0 = true := by decide +kernel
set_option maxRecDepth 65536 in
theorem w_ripe : about1.ripe theMethod args0 below0 = true := by decide +kernel
theorem w_running : about1.status = .running := rfl
set_option maxRecDepth 65536 in
theorem w_room : about1.hasRoom e0.platform room_1 = true :=
  launch0.hasRoom_least _ room_1 (by decide +kernel) (by decide +kernel) (by decide +kernel) (by decide +kernel) (by decide +kernel) (by decide +kernel)
theorem allAtoms_all (ts : List Jvm.Cond) (a : Array Jvm.Value) (st : Jvm.State) : (allAtoms ts).before a st = ts.all (fun c => c.before a st) := by
  induction ts with
  | nil => rfl
  | cons c t ih =>
    show (Jvm.Cond.and c (allAtoms t)).before a st = _
    rw [Jvm.Cond.before_and, ih, List.all_cons]
def words1 : List Jvm.Cond := Jvm.Cond.code x code maxLocals ret :: tables_1
/-- a 'code' word, met by the world's own term for the bytes: nothing is compared byte by byte -/
theorem code_word {y : MethodName} {bytes : ByteArray} {mx : Nat} {rt : Option FieldType} {a : Array Value} {s : State} {m : MethodId} {meth : Method} {c : Code} (h1 : s.methodNamed? y = some m) (h2 : s.vm.method? m = some meth) (h3 : meth.code = some c) (h4 : c.code = bytes)
    (h5 : (c.maxLocals == mx && c.exceptionTable.isEmpty && decide (c.maxStack ≤ mostOperands) && decide (meth.sig.returnType = rt) && !meth.locks && decide (parseMethodDescriptor y.desc = some meth.sig)) = true) : (Jvm.Cond.code y bytes mx rt).before a s = true := by
  simp only [Bool.and_eq_true, beq_iff_eq, Bool.not_eq_true', decide_eq_true_eq] at h5
  obtain ⟨⟨⟨⟨⟨g1, g2⟩, g3⟩, g4⟩, g5⟩, g6⟩ := h5
  simp [Cond.before, Cond.holds, Cond.value, h1, h2, h3, h4, g1, g2, g3, g4, g5, g6]
def isCode : Jvm.Cond → Bool
  | .code _ _ _ _ => true
  | _ => false
theorem all_split {L : List Jvm.Cond} {P : Jvm.Cond → Bool} (h1 : L.all (fun c => isCode c || P c) = true) (h2 : ∀ c ∈ L.filter isCode, P c = true) : L.all P = true := by
  refine List.all_eq_true.mpr fun c hc => ?_
  have h := List.all_eq_true.mp h1 c hc
  rcases Bool.eq_false_or_eq_true (isCode c) with hi | hi
  · exact h2 c (List.mem_filter.mpr ⟨hc, hi⟩)
  · simpa [hi] using h
set_option maxRecDepth 65536 in
theorem w_c0 : (Jvm.Cond.code x code maxLocals ret).before args0 about1 = true := code_word (m := ⟨1, 2⟩) (meth := k1m2) (c := k1c2) (by decide +kernel) rfl rfl rfl (by decide +kernel)
set_option maxRecDepth 65536 in
theorem w_c1 : (Jvm.Cond.code ({ cls := "com/example/nonce/nonce/reader/ModelErrorEqualsPinLaw", name := "mk", desc := "(III)Ljava/lang/String;" } : Jvm.MethodName) method_2_code (3 : Nat) (Option.some (Jvm.ClassFile.FieldType.object "java/lang/String"))).before args0 about1 = true := code_word (m := ⟨1, 1⟩) (meth := k1m1) (c := k1c1) (by decide +kernel) rfl rfl rfl (by decide +kernel)
set_option maxRecDepth 65536 in
theorem w_c2 : (Jvm.Cond.code ({ cls := "java/lang/String", name := "<init>", desc := "([C)V" } : Jvm.MethodName) jdk_42_method_3_code (2 : Nat) (Option.none : Option Jvm.ClassFile.FieldType)).before args0 about1 = true := code_word (m := ⟨8, 1⟩) (meth := k8m1) (c := k8c1) (by decide +kernel) rfl rfl rfl (by decide +kernel)
set_option maxRecDepth 65536 in
theorem w_c3 : (Jvm.Cond.code ({ cls := "java/lang/String", name := "<init>", desc := "([CIILjava/lang/Void;)V" } : Jvm.MethodName) jdk_42_method_149_code (6 : Nat) (Option.none : Option Jvm.ClassFile.FieldType)).before args0 about1 = true := code_word (m := ⟨8, 3⟩) (meth := k8m3) (c := k8c3) (by decide +kernel) rfl rfl rfl (by decide +kernel)
set_option maxRecDepth 65536 in
theorem w_c4 : (Jvm.Cond.code ({ cls := "java/lang/Object", name := "<init>", desc := "()V" } : Jvm.MethodName) object_method_1_code (1 : Nat) (Option.none : Option Jvm.ClassFile.FieldType)).before args0 about1 = true := code_word (m := ⟨0, 0⟩) (meth := k0m0) (c := k0c0) (by decide +kernel) rfl rfl rfl (by decide +kernel)
set_option maxRecDepth 65536 in
theorem w_c5 : (Jvm.Cond.code ({ cls := "com/example/nonce/nonce/reader/ModelError", name := "<init>", desc := "(IILjava/lang/String;)V" } : Jvm.MethodName) prog_59_method_1_code (4 : Nat) (Option.none : Option Jvm.ClassFile.FieldType)).before args0 about1 = true := code_word (m := ⟨2, 0⟩) (meth := k2m0) (c := k2c0) (by decide +kernel) rfl rfl rfl (by decide +kernel)
set_option maxRecDepth 65536 in
theorem w_c6 : (Jvm.Cond.code ({ cls := "java/util/Objects", name := "requireNonNull", desc := "(Ljava/lang/Object;Ljava/lang/String;)Ljava/lang/Object;" } : Jvm.MethodName) jdk_31_method_11_code (2 : Nat) (Option.some (Jvm.ClassFile.FieldType.object "java/lang/Object"))).before args0 about1 = true := code_word (m := ⟨9, 1⟩) (meth := k9m1) (c := k9c1) (by decide +kernel) rfl rfl rfl (by decide +kernel)
set_option maxRecDepth 65536 in
theorem w_c7 : (Jvm.Cond.code ({ cls := "com/example/nonce/nonce/reader/ModelError", name := "equals", desc := "(Ljava/lang/Object;)Z" } : Jvm.MethodName) prog_59_method_5_code (3 : Nat) (Option.some Jvm.ClassFile.FieldType.boolean)).before args0 about1 = true := code_word (m := ⟨2, 1⟩) (meth := k2m1) (c := k2c1) (by decide +kernel) rfl rfl rfl (by decide +kernel)
set_option maxRecDepth 65536 in
theorem w_c8 : (Jvm.Cond.code ({ cls := "java/lang/String", name := "equals", desc := "(Ljava/lang/Object;)Z" } : Jvm.MethodName) jdk_42_method_66_code (3 : Nat) (Option.some Jvm.ClassFile.FieldType.boolean)).before args0 about1 = true := code_word (m := ⟨8, 2⟩) (meth := k8m2) (c := k8c2) (by decide +kernel) rfl rfl rfl (by decide +kernel)
set_option maxRecDepth 65536 in
theorem w_c9 : (Jvm.Cond.code ({ cls := "java/lang/StringLatin1", name := "equals", desc := "([B[B)Z" } : Jvm.MethodName) jdk_43_method_13_code (3 : Nat) (Option.some Jvm.ClassFile.FieldType.boolean)).before args0 about1 = true := code_word (m := ⟨10, 1⟩) (meth := k10m1) (c := k10c1) (by decide +kernel) rfl rfl rfl (by decide +kernel)
set_option maxRecDepth 65536 in
theorem w_c10 : (Jvm.Cond.code ({ cls := "java/lang/StringUTF16", name := "compress", desc := "([CII)[B" } : Jvm.MethodName) jdk_52_method_16_code (6 : Nat) (Option.some (Jvm.ClassFile.FieldType.array Jvm.ClassFile.FieldType.byte))).before args0 about1 = true := code_word (m := ⟨11, 2⟩) (meth := k11m2) (c := k11c2) (by decide +kernel) rfl rfl rfl (by decide +kernel)
set_option maxRecDepth 65536 in
theorem w_c11 : (Jvm.Cond.code ({ cls := "java/lang/StringUTF16", name := "compress", desc := "([CI[BII)I" } : Jvm.MethodName) jdk_52_method_21_code (7 : Nat) (Option.some Jvm.ClassFile.FieldType.int)).before args0 about1 = true := code_word (m := ⟨11, 3⟩) (meth := k11m3) (c := k11c3) (by decide +kernel) rfl rfl rfl (by decide +kernel)
set_option maxRecDepth 65536 in
theorem w_c12 : (Jvm.Cond.code ({ cls := "java/lang/StringUTF16", name := "coderFromArrayLen", desc := "([BI)B" } : Jvm.MethodName) jdk_52_method_15_code (2 : Nat) (Option.some Jvm.ClassFile.FieldType.byte)).before args0 about1 = true := code_word (m := ⟨11, 1⟩) (meth := k11m1) (c := k11c1) (by decide +kernel) rfl rfl rfl (by decide +kernel)
def codes1 : List Jvm.Cond := [Jvm.Cond.code x code maxLocals ret, Jvm.Cond.code ({ cls := "com/example/nonce/nonce/reader/ModelErrorEqualsPinLaw", name := "mk", desc := "(III)Ljava/lang/String;" } : Jvm.MethodName) method_2_code (3 : Nat) (Option.some (Jvm.ClassFile.FieldType.object "java/lang/String")), Jvm.Cond.code ({ cls := "java/lang/String", name := "<init>", desc := "([C)V" } : Jvm.MethodName) jdk_42_method_3_code (2 : Nat) (Option.none : Option Jvm.ClassFile.FieldType), Jvm.Cond.code ({ cls := "java/lang/String", name := "<init>", desc := "([CIILjava/lang/Void;)V" } : Jvm.MethodName) jdk_42_method_149_code (6 : Nat) (Option.none : Option Jvm.ClassFile.FieldType), Jvm.Cond.code ({ cls := "java/lang/Object", name := "<init>", desc := "()V" } : Jvm.MethodName) object_method_1_code (1 : Nat) (Option.none : Option Jvm.ClassFile.FieldType), Jvm.Cond.code ({ cls := "com/example/nonce/nonce/reader/ModelError", name := "<init>", desc := "(IILjava/lang/String;)V" } : Jvm.MethodName) prog_59_method_1_code (4 : Nat) (Option.none : Option Jvm.ClassFile.FieldType), Jvm.Cond.code ({ cls := "java/util/Objects", name := "requireNonNull", desc := "(Ljava/lang/Object;Ljava/lang/String;)Ljava/lang/Object;" } : Jvm.MethodName) jdk_31_method_11_code (2 : Nat) (Option.some (Jvm.ClassFile.FieldType.object "java/lang/Object")), Jvm.Cond.code ({ cls := "com/example/nonce/nonce/reader/ModelError", name := "equals", desc := "(Ljava/lang/Object;)Z" } : Jvm.MethodName) prog_59_method_5_code (3 : Nat) (Option.some Jvm.ClassFile.FieldType.boolean), Jvm.Cond.code ({ cls := "java/lang/String", name := "equals", desc := "(Ljava/lang/Object;)Z" } : Jvm.MethodName) jdk_42_method_66_code (3 : Nat) (Option.some Jvm.ClassFile.FieldType.boolean), Jvm.Cond.code ({ cls := "java/lang/StringLatin1", name := "equals", desc := "([B[B)Z" } : Jvm.MethodName) jdk_43_method_13_code (3 : Nat) (Option.some Jvm.ClassFile.FieldType.boolean), Jvm.Cond.code ({ cls := "java/lang/StringUTF16", name := "compress", desc := "([CII)[B" } : Jvm.MethodName) jdk_52_method_16_code (6 : Nat) (Option.some (Jvm.ClassFile.FieldType.array Jvm.ClassFile.FieldType.byte)), Jvm.Cond.code ({ cls := "java/lang/StringUTF16", name := "compress", desc := "([CI[BII)I" } : Jvm.MethodName) jdk_52_method_21_code (7 : Nat) (Option.some Jvm.ClassFile.FieldType.int), Jvm.Cond.code ({ cls := "java/lang/StringUTF16", name := "coderFromArrayLen", desc := "([BI)B" } : Jvm.MethodName) jdk_52_method_15_code (2 : Nat) (Option.some Jvm.ClassFile.FieldType.byte)]
set_option maxRecDepth 65536 in
theorem codes_eq : words1.filter isCode = codes1 := rfl
theorem w_codes : ∀ c ∈ words1.filter isCode, c.before args0 about1 = true := by
  rw [codes_eq]
  intro c hc
  simp only [codes1, List.mem_cons, List.not_mem_nil, or_false] at hc
  rcases hc with rfl | rfl | rfl | rfl | rfl | rfl | rfl | rfl | rfl | rfl | rfl | rfl | rfl
  · exact w_c0
  · exact w_c1
  · exact w_c2
  · exact w_c3
  · exact w_c4
  · exact w_c5
  · exact w_c6
  · exact w_c7
  · exact w_c8
  · exact w_c9
  · exact w_c10
  · exact w_c11
  · exact w_c12
set_option maxRecDepth 65536 in
theorem w_t1 : (words1.take 24).all (fun c => isCode c || c.before args0 about1) = true := by decide +kernel
set_option maxRecDepth 65536 in
theorem w_t2 : ((words1.drop 24).take 24).all (fun c => isCode c || c.before args0 about1) = true := by decide +kernel
set_option maxRecDepth 65536 in
theorem w_t3 : (((words1.drop 24).drop 24).take 24).all (fun c => isCode c || c.before args0 about1) = true := by decide +kernel
set_option maxRecDepth 65536 in
theorem w_t4 : (((words1.drop 24).drop 24).drop 24).all (fun c => isCode c || c.before args0 about1) = true := by decide +kernel
theorem w_tables : (allAtoms (Jvm.Cond.code x code maxLocals ret :: tables_1)).before args0 about1 = true := by
  rw [allAtoms_all]
  show words1.all (fun c => c.before args0 about1) = true
  refine all_split ?_ w_codes
  rw [← List.take_append_drop 24 words1, List.all_append, w_t1, ← List.take_append_drop 24 (words1.drop 24), List.all_append, w_t2, ← List.take_append_drop 24 ((words1.drop 24).drop 24), List.all_append, w_t3, w_t4]
  rfl
set_option maxRecDepth 65536 in
theorem w_rest : rest_1_c.before args0 about1 = true := by decide +kernel
set_option maxRecDepth 65536 in
theorem w_case : (Jvm.Cond.and given_1 narrow_1).before args0 about1 = true := by decide +kernel
set_option maxRecDepth 65536 in
theorem w_consts : constsHeld consts_1 about1 := Jvm.Lit.constsHeldB_iff.mp (by decide +kernel)
theorem w_applies : (headSpec (Jvm.Cond.code x code maxLocals ret :: tables_1) room_1).applies x e0.platform about1 = true :=
  (Spec.applies_iff w_frames).mpr ⟨w_running, w_runnable, w_alone, w_named, w_hears, w_ripe, w_room, w_tables⟩
theorem atStart : AtStart classFile x code maxLocals ret World_1 tables_1 room_1 Calls_1 rest_1 Pre_1 launch0 p0 e0 about1 theMethod args0 below0 :=
  ⟨lists_1, trivial, launch0.admits_env _ _ _, launch0.least_env, fairChoices_fair.cas, fairChoices_fair.clock, w_frames, w_args, w_heap, w_applies, ⟨w_consts, trivial⟩, w_rest, w_case⟩
end start1
theorem witness_1 : WitnessClaimed_1 := ⟨start1.p0, start1.e0, start1.about1, start1.theMethod, start1.args0, start1.below0, start1.atStart⟩
end Jvm.Pilot.@@N@@
