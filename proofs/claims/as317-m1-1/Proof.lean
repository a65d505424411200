import JvmDerived
import JvmDerived.Pilot.@@N@@Statement
import JvmDerived.Pilot.@@N@@Code
set_option linter.unusedVariables false
set_option linter.unusedSimpArgs false
namespace Jvm.Pilot.@@N@@
namespace W
open Jvm Jvm.ClassFile Sem Op Lib Jvm.Free Jvm.Stand Jvm.LawKit Jvm.RoadKit Bundle

/-- how a method's end is booked: wide (it may have interned) or plain -/
def EndAt (w : Bool) (s : State) (o : Outcome) (t : State) (L : List Loc) (k n : Nat) : Prop := if w = true then ReturnedEndW s o t L k n else FrameEnd s o t L k n
/-- the address may be written: it is no held literal's cell -/
def Ok (Z : State) (EL : List (String × Nat)) (h : Heap) (sf : List Addr) (x : Addr) : Prop :=
  EL = [] ∨ x ∈ sf ∨ (∃ C, Exa Z h x C ∧ C ≠ "java/lang/String" ∧ C ≠ "[B") ∨ ∃ (cl : Cell) (ty : FieldType), Arr Z h x cl ty ∧ ty ≠ .byte
theorem Ok.safe {Z : State} {EL : List (String × Nat)} {h : Heap} {sf : List Addr} {x : Addr} {vm : Vm} (K : Ok Z EL h sf x) (hal : Z.vm.Alike vm) (S : ∀ y ∈ sf, y < h.size ∧ Safe Z EL vm h y) : Safe Z EL vm h x := by
  rcases K with rfl | q | ⟨C, E, h1, h2⟩ | ⟨cl, ty, A, h1⟩
  · rintro ⟨p, hp, -⟩; cases hp
  · exact (S x q).2
  · exact Safe.exa hal E h1 h2
  · exact Safe.arr hal A h1
/-- the walk stands at T, over the heap h; k cells and n slots are made; sf may be written -/
def St (w : Bool) (Z : State) (a0 : Array Value) (EL : List (String × Nat)) (y : MethodName) (bytes : ByteArray) (maxL : Nat) (ret : Option FieldType) (p : Program) (l : Launch) (e : Env) (R : Room) (s : State) (m : MethodId) (args : Array Value) (below : List Frame) (meth : Method) (c : Code) (T : State) (h : Heap) (sf : List Addr) (k n : Nat) : Prop :=
  (p.tables.exec = Jvm.exec ∧ c.code = bytes ∧ c.maxLocals = maxL ∧ meth.sig.returnType = ret ∧ meth.locks = false ∧ meth.name = y.name ∧ EW Z a0 EL) ∧
  ∃ (vm0 : Vm) (k0 : Nat) (locs : List Loc), Stand p l e R (s.setVm vm0) m args below meth c T locs k n ∧ T.heap = h ∧ s.Since vm0 k0 ∧ k0 ≤ h.size ∧ Z.Warmed39 vm0 ∧ vm0.findClass y.cls = some m.cls ∧ Fr Z.heap.size locs ∧ Ext Z.heap h ∧ (w = false → vm0 = s.vm ∧ EL = []) ∧ CHr Z EL s.vm s.heap vm0 h ∧ ∀ x ∈ sf, x < h.size ∧ Safe Z EL vm0 h x
/-- from here the method comes to its end as Q wants it -/
def Go (w : Bool) (Z : State) (EL : List (String × Nat)) (C N : Nat) (Q : Option Value → Heap → (Addr → Prop) → Prop) (p : Program) (e : Env) (s : State) (below : List Frame) (T : State) (g : JFrame) : Prop :=
  ∃ (s₂ : State) (o : Outcome), Steps p.tables e below (T.setTop g) s₂ ∧ s₂.status = .running ∧ Ended s₂ below o ∧ ∃ v L, o = .returned v ∧ (Fr Z.heap.size L ∧ Ext Z.heap s₂.heap ∧ CHr Z EL s.vm s.heap s₂.vm s₂.heap ∧ Q v s₂.heap (Safe Z EL s₂.vm s₂.heap)) ∧ EndAt w s o s₂ L C N
/-- a method's contract, at arguments and a heap that are known -/
def Ct (w : Bool) (Z : State) (a0 : Array Value) (EL : List (String × Nat)) (l : Launch) (y : MethodName) (bytes : ByteArray) (maxL : Nat) (ret : Option FieldType) (rm : Room) (as : Array Value) (h0 : Heap) (sf0 : List Addr) (Q : Option Value → Heap → (Addr → Prop) → Prop) : Prop :=
  ∀ ws : List Jvm.Cond, EW Z a0 EL → Ext Z.heap h0 → MetFree l y (head1 (Cond.code y bytes maxL ret :: ws) rm) (fun a U => a = as ∧ Z.Warmed39 U.vm ∧ U.heap = h0 ∧ CHv Z EL U.vm h0 ∧ ∀ x ∈ sf0, x < h0.size ∧ Safe Z EL U.vm h0 x) (fun _ _ _ _ _ => True)
    (fun _ U o U' => ∃ v L, o = .returned v ∧ (Fr Z.heap.size L ∧ Ext Z.heap U'.heap ∧ CHr Z EL U.vm U.heap U'.vm U'.heap ∧ Q v U'.heap (Safe Z EL U'.vm U'.heap)) ∧ EndAt w U o U' L rm.cells rm.slots)

section
variable {w : Bool} {Z : State} {a0 : Array Value} {EL : List (String × Nat)} {y : MethodName} {bytes : ByteArray} {maxL : Nat} {ret : Option FieldType} {p : Program} {l : Launch} {e : Env} {R : Room} {s : State} {m : MethodId} {args : Array Value} {below : List Frame} {meth : Method} {c : Code} {T : State} {h : Heap} {sf : List Addr} {k n C N : Nat} {Q : Option Value → Heap → (Addr → Prop) → Prop} {rm : Room} {as : Array Value} {h0 : Heap} {sf0 : List Addr}

theorem Ct.walk (hwe : w = false → EL = []) (hpl : plainFor y = true) (body : ∀ (p : Program) (e : Env) (s : State) (m : MethodId) (below : List Frame) (meth : Method) (c : Code) (T : State), Ext Z.heap h0 → St w Z a0 EL y bytes maxL ret p l e rm s m as below meth c T h0 sf0 0 0 → Go w Z EL rm.cells rm.slots Q p e s below T (entryFrame m as maxL)) :
    Ct w Z a0 EL l y bytes maxL ret rm as h0 sf0 Q := by
  intro ws hEW hext
  refine MetFree.of_bodySF hpl hisR ?_
  intro p e s m args below meth c s₁ Bd hml hP hK
  obtain ⟨rfl, hZ, hh, hcv, hsf⟩ := hP
  have X0 : Stand p l e rm s m args below meth c s₁ [] 0 0 := Stand.of_body Bd
  have e0 : s₁.heap = h0 := by rw [← hh, Bd.state]; rfl
  refine body p e s m below meth c s₁ hext ⟨⟨Bd.exec, Bd.bytes, hml, Bd.returns, Bd.notSynchronized, (name_of_methodNamed Bd.named Bd.method).1, hEW⟩, s.vm, 0, [], X0, e0, ?_, Nat.zero_le _, hZ, findClass_of_methodNamed Bd.named, Fr.nil _, hext, fun q => ⟨rfl, hwe q⟩, ?_, hsf⟩
  · exact (State.WarmedH.refl s).since 0
  · rw [hh]; exact CHr.refl hcv

/-- a step that leaves the state as it is but for the top frame -/
theorem ps (X : St w Z a0 EL y bytes maxL ret p l e R s m args below meth c T h sf k n) {g g' : JFrame} (f : At T m c below → p.tables.exec = Jvm.exec → c.code = bytes → ∀ target, Steps p.tables e below (T.setTop g') target → Steps p.tables e below (T.setTop g) target) (kk : Go w Z EL C N Q p e s below T g') : Go w Z EL C N Q p e s below T g := by
  obtain ⟨⟨hx, hby, -⟩, vm0, k0, locs, X0, -⟩ := X
  obtain ⟨s₂, o, hs, r⟩ := kk
  exact ⟨s₂, o, f X0.here hx hby _ hs, r⟩
theorem castG {g g' : JFrame} (q : g = g') (kk : Go w Z EL C N Q p e s below T g') : Go w Z EL C N Q p e s below T g := q ▸ kk
theorem o_aloadN (X : St w Z a0 EL y bytes maxL ret p l e R s m args below meth c T h sf k n) {pc pc' : Nat} {L : Array Slot} {S : List Value} {i : Fin 4} {v : Value} (hd : decode bytes pc = .ok (.aload_n i, 1)) (hp : pc + 1 = pc') (hl : L[i.val]? = some (.val v)) (hv : v.isRef = true) (kk : Go w Z EL C N Q p e s below T (mkF m pc' L (v :: S))) : Go w Z EL C N Q p e s below T (mkF m pc L S) := by
  subst hp
  exact ps X (fun H hx hby _ q => XS.aloadN H hx rfl (hb hby hd) hl hv q) kk
theorem o_aload (X : St w Z a0 EL y bytes maxL ret p l e R s m args below meth c T h sf k n) {pc pc' : Nat} {L : Array Slot} {S : List Value} {i : Nat} {v : Value} (hd : decode bytes pc = .ok (.aload i, 2)) (hp : pc + 2 = pc') (hl : L[i]? = some (.val v)) (hv : v.isRef = true) (kk : Go w Z EL C N Q p e s below T (mkF m pc' L (v :: S))) : Go w Z EL C N Q p e s below T (mkF m pc L S) := by
  subst hp
  exact ps X (fun H hx hby _ q => XS.aload H hx rfl (hb hby hd) hl hv q) kk
theorem o_iloadN (X : St w Z a0 EL y bytes maxL ret p l e R s m args below meth c T h sf k n) {pc pc' : Nat} {L : Array Slot} {S : List Value} {i : Fin 4} {v : Int32} (hd : decode bytes pc = .ok (.iload_n i, 1)) (hp : pc + 1 = pc') (hl : L[i.val]? = some (.val (.int v))) (kk : Go w Z EL C N Q p e s below T (mkF m pc' L (.int v :: S))) : Go w Z EL C N Q p e s below T (mkF m pc L S) := by
  subst hp
  exact ps X (fun H hx hby _ q => XS.iloadN H hx rfl (hb hby hd) hl q) kk
theorem o_iload (X : St w Z a0 EL y bytes maxL ret p l e R s m args below meth c T h sf k n) {pc pc' : Nat} {L : Array Slot} {S : List Value} {i : Nat} {v : Int32} (hd : decode bytes pc = .ok (.iload i, 2)) (hp : pc + 2 = pc') (hl : L[i]? = some (.val (.int v))) (kk : Go w Z EL C N Q p e s below T (mkF m pc' L (.int v :: S))) : Go w Z EL C N Q p e s below T (mkF m pc L S) := by
  subst hp
  exact ps X (fun H hx hby _ q => XS.iload H hx rfl (hb hby hd) hl q) kk
theorem o_lloadN (X : St w Z a0 EL y bytes maxL ret p l e R s m args below meth c T h sf k n) {pc pc' : Nat} {L : Array Slot} {S : List Value} {i : Fin 4} {v : Int64} (hd : decode bytes pc = .ok (.lload_n i, 1)) (hp : pc + 1 = pc') (hl : L[i.val]? = some (.val (.long v))) (kk : Go w Z EL C N Q p e s below T (mkF m pc' L (.long v :: S))) : Go w Z EL C N Q p e s below T (mkF m pc L S) := by
  subst hp
  exact ps X (fun H hx hby _ q => XS.lloadN H hx rfl (hb hby hd) hl q) kk
theorem o_lload (X : St w Z a0 EL y bytes maxL ret p l e R s m args below meth c T h sf k n) {pc pc' : Nat} {L : Array Slot} {S : List Value} {i : Nat} {v : Int64} (hd : decode bytes pc = .ok (.lload i, 2)) (hp : pc + 2 = pc') (hl : L[i]? = some (.val (.long v))) (kk : Go w Z EL C N Q p e s below T (mkF m pc' L (.long v :: S))) : Go w Z EL C N Q p e s below T (mkF m pc L S) := by
  subst hp
  exact ps X (fun H hx hby _ q => XS.lload H hx rfl (hb hby hd) hl q) kk
theorem o_istoreN (X : St w Z a0 EL y bytes maxL ret p l e R s m args below meth c T h sf k n) {pc pc' : Nat} {L : Array Slot} {S : List Value} {i : Fin 4} {v : Int32} {L' : Array Slot} (hd : decode bytes pc = .ok (.istore_n i, 1)) (hp : pc + 1 = pc') (hl : storeLocals L i.val (.int v) = some L') (kk : Go w Z EL C N Q p e s below T (mkF m pc' L' S)) : Go w Z EL C N Q p e s below T (mkF m pc L (.int v :: S)) := by
  subst hp
  exact ps X (fun H hx hby _ q => XS.istoreN H hx rfl (hb hby hd) rfl hl q) kk
theorem o_istore (X : St w Z a0 EL y bytes maxL ret p l e R s m args below meth c T h sf k n) {pc pc' : Nat} {L : Array Slot} {S : List Value} {i : Nat} {v : Int32} {L' : Array Slot} (hd : decode bytes pc = .ok (.istore i, 2)) (hp : pc + 2 = pc') (hl : storeLocals L i (.int v) = some L') (kk : Go w Z EL C N Q p e s below T (mkF m pc' L' S)) : Go w Z EL C N Q p e s below T (mkF m pc L (.int v :: S)) := by
  subst hp
  exact ps X (fun H hx hby _ q => XS.istore H hx rfl (hb hby hd) rfl hl q) kk
theorem o_lstoreN (X : St w Z a0 EL y bytes maxL ret p l e R s m args below meth c T h sf k n) {pc pc' : Nat} {L : Array Slot} {S : List Value} {i : Fin 4} {v : Int64} {L' : Array Slot} (hd : decode bytes pc = .ok (.lstore_n i, 1)) (hp : pc + 1 = pc') (hl : storeLocals L i.val (.long v) = some L') (kk : Go w Z EL C N Q p e s below T (mkF m pc' L' S)) : Go w Z EL C N Q p e s below T (mkF m pc L (.long v :: S)) := by
  subst hp
  exact ps X (fun H hx hby _ q => XS.lstoreN H hx rfl (hb hby hd) rfl hl q) kk
theorem o_lstore (X : St w Z a0 EL y bytes maxL ret p l e R s m args below meth c T h sf k n) {pc pc' : Nat} {L : Array Slot} {S : List Value} {i : Nat} {v : Int64} {L' : Array Slot} (hd : decode bytes pc = .ok (.lstore i, 2)) (hp : pc + 2 = pc') (hl : storeLocals L i (.long v) = some L') (kk : Go w Z EL C N Q p e s below T (mkF m pc' L' S)) : Go w Z EL C N Q p e s below T (mkF m pc L (.long v :: S)) := by
  subst hp
  exact ps X (fun H hx hby _ q => XS.lstore H hx rfl (hb hby hd) rfl hl q) kk
theorem o_astoreN (X : St w Z a0 EL y bytes maxL ret p l e R s m args below meth c T h sf k n) {pc pc' : Nat} {L : Array Slot} {S : List Value} {i : Fin 4} {v : Value} {L' : Array Slot} (hd : decode bytes pc = .ok (.astore_n i, 1)) (hp : pc + 1 = pc') (hl : storeLocals L i.val v = some L') (hv : v.isRef = true) (kk : Go w Z EL C N Q p e s below T (mkF m pc' L' S)) : Go w Z EL C N Q p e s below T (mkF m pc L (v :: S)) := by
  subst hp
  exact ps X (fun H hx hby _ q => XS.astoreN H hx rfl (hb hby hd) rfl hv hl q) kk
theorem o_astore (X : St w Z a0 EL y bytes maxL ret p l e R s m args below meth c T h sf k n) {pc pc' : Nat} {L : Array Slot} {S : List Value} {i : Nat} {v : Value} {L' : Array Slot} (hd : decode bytes pc = .ok (.astore i, 2)) (hp : pc + 2 = pc') (hl : storeLocals L i v = some L') (hv : v.isRef = true) (kk : Go w Z EL C N Q p e s below T (mkF m pc' L' S)) : Go w Z EL C N Q p e s below T (mkF m pc L (v :: S)) := by
  subst hp
  exact ps X (fun H hx hby _ q => XS.astore H hx rfl (hb hby hd) rfl hv hl q) kk
theorem o_iconst (X : St w Z a0 EL y bytes maxL ret p l e R s m args below meth c T h sf k n) {pc pc' : Nat} {L : Array Slot} {S : List Value} {i : Int} (v : Int32) (hd : decode bytes pc = .ok (.iconst i, 1)) (hp : pc + 1 = pc') (hv : Int32.ofInt i = v) (kk : Go w Z EL C N Q p e s below T (mkF m pc' L (.int v :: S))) : Go w Z EL C N Q p e s below T (mkF m pc L S) := by
  subst hp
  exact ps X (fun H hx hby _ q => XT.iconstV H hx rfl v (hb hby hd) hv q) kk
theorem o_bipush (X : St w Z a0 EL y bytes maxL ret p l e R s m args below meth c T h sf k n) {pc pc' : Nat} {L : Array Slot} {S : List Value} {i : Int} (v : Int32) (hd : decode bytes pc = .ok (.bipush i, 2)) (hp : pc + 2 = pc') (hv : (Int8.ofInt i).toInt32 = v) (kk : Go w Z EL C N Q p e s below T (mkF m pc' L (.int v :: S))) : Go w Z EL C N Q p e s below T (mkF m pc L S) := by
  subst hp
  exact ps X (fun H hx hby _ q => XT.bipushV H hx rfl v (hb hby hd) hv q) kk
theorem o_sipush (X : St w Z a0 EL y bytes maxL ret p l e R s m args below meth c T h sf k n) {pc pc' : Nat} {L : Array Slot} {S : List Value} {i : Int} (v : Int32) (hd : decode bytes pc = .ok (.sipush i, 3)) (hp : pc + 3 = pc') (hv : (Int16.ofInt i).toInt32 = v) (kk : Go w Z EL C N Q p e s below T (mkF m pc' L (.int v :: S))) : Go w Z EL C N Q p e s below T (mkF m pc L S) := by
  subst hp
  exact ps X (fun H hx hby _ q => XT.sipushV H hx rfl v (hb hby hd) hv q) kk
theorem o_lconst (X : St w Z a0 EL y bytes maxL ret p l e R s m args below meth c T h sf k n) {pc pc' : Nat} {L : Array Slot} {S : List Value} {i : Fin 2} (v : Int64) (hd : decode bytes pc = .ok (.lconst i, 1)) (hp : pc + 1 = pc') (hv : Int64.ofNat i = v) (kk : Go w Z EL C N Q p e s below T (mkF m pc' L (.long v :: S))) : Go w Z EL C N Q p e s below T (mkF m pc L S) := by
  subst hp
  exact ps X (fun H hx hby _ q => XT.lconstV H hx rfl v (hb hby hd) hv q) kk
theorem o_aconst_null (X : St w Z a0 EL y bytes maxL ret p l e R s m args below meth c T h sf k n) {pc pc' : Nat} {L : Array Slot} {S : List Value}  (hd : decode bytes pc = .ok (.aconst_null, 1)) (hp : pc + 1 = pc')  (kk : Go w Z EL C N Q p e s below T (mkF m pc' L (.null :: S))) : Go w Z EL C N Q p e s below T (mkF m pc L S) := by
  subst hp
  exact ps X (fun H hx hby _ q => XS.aconstNull H hx rfl (hb hby hd)  q) kk
theorem o_iadd (X : St w Z a0 EL y bytes maxL ret p l e R s m args below meth c T h sf k n) {pc pc' : Nat} {L : Array Slot} {S : List Value} {x z : Int32} (hd : decode bytes pc = .ok (.iadd, 1)) (hp : pc + 1 = pc')  (kk : Go w Z EL C N Q p e s below T (mkF m pc' L (.int (x + z) :: S))) : Go w Z EL C N Q p e s below T (mkF m pc L (.int z :: .int x :: S)) := by
  subst hp
  exact ps X (fun H hx hby _ q => XS.iadd H hx rfl (hb hby hd) rfl q) kk
theorem o_ladd (X : St w Z a0 EL y bytes maxL ret p l e R s m args below meth c T h sf k n) {pc pc' : Nat} {L : Array Slot} {S : List Value} {x z : Int64} (hd : decode bytes pc = .ok (.ladd, 1)) (hp : pc + 1 = pc')  (kk : Go w Z EL C N Q p e s below T (mkF m pc' L (.long (x + z) :: S))) : Go w Z EL C N Q p e s below T (mkF m pc L (.long z :: .long x :: S)) := by
  subst hp
  exact ps X (fun H hx hby _ q => XS.ladd H hx rfl (hb hby hd) rfl q) kk
theorem o_isub (X : St w Z a0 EL y bytes maxL ret p l e R s m args below meth c T h sf k n) {pc pc' : Nat} {L : Array Slot} {S : List Value} {x z : Int32} (hd : decode bytes pc = .ok (.isub, 1)) (hp : pc + 1 = pc')  (kk : Go w Z EL C N Q p e s below T (mkF m pc' L (.int (x - z) :: S))) : Go w Z EL C N Q p e s below T (mkF m pc L (.int z :: .int x :: S)) := by
  subst hp
  exact ps X (fun H hx hby _ q => XS.isub H hx rfl (hb hby hd) rfl q) kk
theorem o_lsub (X : St w Z a0 EL y bytes maxL ret p l e R s m args below meth c T h sf k n) {pc pc' : Nat} {L : Array Slot} {S : List Value} {x z : Int64} (hd : decode bytes pc = .ok (.lsub, 1)) (hp : pc + 1 = pc')  (kk : Go w Z EL C N Q p e s below T (mkF m pc' L (.long (x - z) :: S))) : Go w Z EL C N Q p e s below T (mkF m pc L (.long z :: .long x :: S)) := by
  subst hp
  exact ps X (fun H hx hby _ q => XS.lsub H hx rfl (hb hby hd) rfl q) kk
theorem o_imul (X : St w Z a0 EL y bytes maxL ret p l e R s m args below meth c T h sf k n) {pc pc' : Nat} {L : Array Slot} {S : List Value} {x z : Int32} (hd : decode bytes pc = .ok (.imul, 1)) (hp : pc + 1 = pc')  (kk : Go w Z EL C N Q p e s below T (mkF m pc' L (.int (x * z) :: S))) : Go w Z EL C N Q p e s below T (mkF m pc L (.int z :: .int x :: S)) := by
  subst hp
  exact ps X (fun H hx hby _ q => XS.imul H hx rfl (hb hby hd) rfl q) kk
theorem o_lmul (X : St w Z a0 EL y bytes maxL ret p l e R s m args below meth c T h sf k n) {pc pc' : Nat} {L : Array Slot} {S : List Value} {x z : Int64} (hd : decode bytes pc = .ok (.lmul, 1)) (hp : pc + 1 = pc')  (kk : Go w Z EL C N Q p e s below T (mkF m pc' L (.long (x * z) :: S))) : Go w Z EL C N Q p e s below T (mkF m pc L (.long z :: .long x :: S)) := by
  subst hp
  exact ps X (fun H hx hby _ q => XS.lmul H hx rfl (hb hby hd) rfl q) kk
theorem o_iand (X : St w Z a0 EL y bytes maxL ret p l e R s m args below meth c T h sf k n) {pc pc' : Nat} {L : Array Slot} {S : List Value} {x z : Int32} (hd : decode bytes pc = .ok (.iand, 1)) (hp : pc + 1 = pc')  (kk : Go w Z EL C N Q p e s below T (mkF m pc' L (.int (x &&& z) :: S))) : Go w Z EL C N Q p e s below T (mkF m pc L (.int z :: .int x :: S)) := by
  subst hp
  exact ps X (fun H hx hby _ q => XS.iand H hx rfl (hb hby hd) rfl q) kk
theorem o_land (X : St w Z a0 EL y bytes maxL ret p l e R s m args below meth c T h sf k n) {pc pc' : Nat} {L : Array Slot} {S : List Value} {x z : Int64} (hd : decode bytes pc = .ok (.land, 1)) (hp : pc + 1 = pc')  (kk : Go w Z EL C N Q p e s below T (mkF m pc' L (.long (x &&& z) :: S))) : Go w Z EL C N Q p e s below T (mkF m pc L (.long z :: .long x :: S)) := by
  subst hp
  exact ps X (fun H hx hby _ q => XS.land H hx rfl (hb hby hd) rfl q) kk
theorem o_ior (X : St w Z a0 EL y bytes maxL ret p l e R s m args below meth c T h sf k n) {pc pc' : Nat} {L : Array Slot} {S : List Value} {x z : Int32} (hd : decode bytes pc = .ok (.ior, 1)) (hp : pc + 1 = pc')  (kk : Go w Z EL C N Q p e s below T (mkF m pc' L (.int (x ||| z) :: S))) : Go w Z EL C N Q p e s below T (mkF m pc L (.int z :: .int x :: S)) := by
  subst hp
  exact ps X (fun H hx hby _ q => XS.ior H hx rfl (hb hby hd) rfl q) kk
theorem o_lor (X : St w Z a0 EL y bytes maxL ret p l e R s m args below meth c T h sf k n) {pc pc' : Nat} {L : Array Slot} {S : List Value} {x z : Int64} (hd : decode bytes pc = .ok (.lor, 1)) (hp : pc + 1 = pc')  (kk : Go w Z EL C N Q p e s below T (mkF m pc' L (.long (x ||| z) :: S))) : Go w Z EL C N Q p e s below T (mkF m pc L (.long z :: .long x :: S)) := by
  subst hp
  exact ps X (fun H hx hby _ q => XS.lor H hx rfl (hb hby hd) rfl q) kk
theorem o_ixor (X : St w Z a0 EL y bytes maxL ret p l e R s m args below meth c T h sf k n) {pc pc' : Nat} {L : Array Slot} {S : List Value} {x z : Int32} (hd : decode bytes pc = .ok (.ixor, 1)) (hp : pc + 1 = pc')  (kk : Go w Z EL C N Q p e s below T (mkF m pc' L (.int (x ^^^ z) :: S))) : Go w Z EL C N Q p e s below T (mkF m pc L (.int z :: .int x :: S)) := by
  subst hp
  exact ps X (fun H hx hby _ q => XS.ixor H hx rfl (hb hby hd) rfl q) kk
theorem o_lxor (X : St w Z a0 EL y bytes maxL ret p l e R s m args below meth c T h sf k n) {pc pc' : Nat} {L : Array Slot} {S : List Value} {x z : Int64} (hd : decode bytes pc = .ok (.lxor, 1)) (hp : pc + 1 = pc')  (kk : Go w Z EL C N Q p e s below T (mkF m pc' L (.long (x ^^^ z) :: S))) : Go w Z EL C N Q p e s below T (mkF m pc L (.long z :: .long x :: S)) := by
  subst hp
  exact ps X (fun H hx hby _ q => XS.lxor H hx rfl (hb hby hd) rfl q) kk
theorem o_ishl (X : St w Z a0 EL y bytes maxL ret p l e R s m args below meth c T h sf k n) {pc pc' : Nat} {L : Array Slot} {S : List Value} {x z : Int32} (hd : decode bytes pc = .ok (.ishl, 1)) (hp : pc + 1 = pc')  (kk : Go w Z EL C N Q p e s below T (mkF m pc' L (.int (x <<< (z &&& 31)) :: S))) : Go w Z EL C N Q p e s below T (mkF m pc L (.int z :: .int x :: S)) := by
  subst hp
  exact ps X (fun H hx hby _ q => XS.ishl H hx rfl (hb hby hd) rfl q) kk
theorem o_ishr (X : St w Z a0 EL y bytes maxL ret p l e R s m args below meth c T h sf k n) {pc pc' : Nat} {L : Array Slot} {S : List Value} {x z : Int32} (hd : decode bytes pc = .ok (.ishr, 1)) (hp : pc + 1 = pc')  (kk : Go w Z EL C N Q p e s below T (mkF m pc' L (.int (x >>> (z &&& 31)) :: S))) : Go w Z EL C N Q p e s below T (mkF m pc L (.int z :: .int x :: S)) := by
  subst hp
  exact ps X (fun H hx hby _ q => XS.ishr H hx rfl (hb hby hd) rfl q) kk
theorem o_iushr (X : St w Z a0 EL y bytes maxL ret p l e R s m args below meth c T h sf k n) {pc pc' : Nat} {L : Array Slot} {S : List Value} {x z : Int32} (hd : decode bytes pc = .ok (.iushr, 1)) (hp : pc + 1 = pc')  (kk : Go w Z EL C N Q p e s below T (mkF m pc' L (.int ((x.toUInt32 >>> (z &&& 31).toUInt32).toInt32) :: S))) : Go w Z EL C N Q p e s below T (mkF m pc L (.int z :: .int x :: S)) := by
  subst hp
  exact ps X (fun H hx hby _ q => XS.iushr H hx rfl (hb hby hd) rfl q) kk
theorem o_idiv (X : St w Z a0 EL y bytes maxL ret p l e R s m args below meth c T h sf k n) {pc pc' : Nat} {L : Array Slot} {S : List Value} {x z : Int32} (hd : decode bytes pc = .ok (.idiv, 1)) (hp : pc + 1 = pc') (hz : z ≠ 0) (kk : Go w Z EL C N Q p e s below T (mkF m pc' L (.int (x / z) :: S))) : Go w Z EL C N Q p e s below T (mkF m pc L (.int z :: .int x :: S)) := by
  subst hp
  exact ps X (fun H hx hby _ q => XS.idiv H hx rfl (hb hby hd) rfl hz q) kk
theorem o_ineg (X : St w Z a0 EL y bytes maxL ret p l e R s m args below meth c T h sf k n) {pc pc' : Nat} {L : Array Slot} {S : List Value} {x : Int32} (hd : decode bytes pc = .ok (.ineg, 1)) (hp : pc + 1 = pc')  (kk : Go w Z EL C N Q p e s below T (mkF m pc' L (.int (-x) :: S))) : Go w Z EL C N Q p e s below T (mkF m pc L (.int x :: S)) := by
  subst hp
  exact ps X (fun H hx hby _ q => XS.ineg H hx rfl (hb hby hd) rfl q) kk
theorem o_i2c (X : St w Z a0 EL y bytes maxL ret p l e R s m args below meth c T h sf k n) {pc pc' : Nat} {L : Array Slot} {S : List Value} {x : Int32} (hd : decode bytes pc = .ok (.i2c, 1)) (hp : pc + 1 = pc')  (kk : Go w Z EL C N Q p e s below T (mkF m pc' L (.int (x.toUInt32.toUInt16.toUInt32.toInt32) :: S))) : Go w Z EL C N Q p e s below T (mkF m pc L (.int x :: S)) := by
  subst hp
  exact ps X (fun H hx hby _ q => XS.i2c H hx rfl (hb hby hd) rfl q) kk
theorem o_i2b (X : St w Z a0 EL y bytes maxL ret p l e R s m args below meth c T h sf k n) {pc pc' : Nat} {L : Array Slot} {S : List Value} {x : Int32} (hd : decode bytes pc = .ok (.i2b, 1)) (hp : pc + 1 = pc')  (kk : Go w Z EL C N Q p e s below T (mkF m pc' L (.int (x.toInt8.toInt32) :: S))) : Go w Z EL C N Q p e s below T (mkF m pc L (.int x :: S)) := by
  subst hp
  exact ps X (fun H hx hby _ q => XS.i2b H hx rfl (hb hby hd) rfl q) kk
theorem o_i2s (X : St w Z a0 EL y bytes maxL ret p l e R s m args below meth c T h sf k n) {pc pc' : Nat} {L : Array Slot} {S : List Value} {x : Int32} (hd : decode bytes pc = .ok (.i2s, 1)) (hp : pc + 1 = pc')  (kk : Go w Z EL C N Q p e s below T (mkF m pc' L (.int (x.toInt16.toInt32) :: S))) : Go w Z EL C N Q p e s below T (mkF m pc L (.int x :: S)) := by
  subst hp
  exact ps X (fun H hx hby _ q => XS.i2s H hx rfl (hb hby hd) rfl q) kk
theorem o_i2l (X : St w Z a0 EL y bytes maxL ret p l e R s m args below meth c T h sf k n) {pc pc' : Nat} {L : Array Slot} {S : List Value} {x : Int32} (hd : decode bytes pc = .ok (.i2l, 1)) (hp : pc + 1 = pc')  (kk : Go w Z EL C N Q p e s below T (mkF m pc' L (.long (x.toInt64) :: S))) : Go w Z EL C N Q p e s below T (mkF m pc L (.int x :: S)) := by
  subst hp
  exact ps X (fun H hx hby _ q => XS.i2l H hx rfl (hb hby hd) rfl q) kk
theorem o_l2i (X : St w Z a0 EL y bytes maxL ret p l e R s m args below meth c T h sf k n) {pc pc' : Nat} {L : Array Slot} {S : List Value} {x : Int64} (hd : decode bytes pc = .ok (.l2i, 1)) (hp : pc + 1 = pc')  (kk : Go w Z EL C N Q p e s below T (mkF m pc' L (.int (x.toInt32) :: S))) : Go w Z EL C N Q p e s below T (mkF m pc L (.long x :: S)) := by
  subst hp
  exact ps X (fun H hx hby _ q => XS.l2i H hx rfl (hb hby hd) rfl q) kk
theorem o_lcmp (X : St w Z a0 EL y bytes maxL ret p l e R s m args below meth c T h sf k n) {pc pc' : Nat} {L : Array Slot} {S : List Value} {x z : Int64} (hd : decode bytes pc = .ok (.lcmp, 1)) (hp : pc + 1 = pc')  (kk : Go w Z EL C N Q p e s below T (mkF m pc' L (.int (XT.cmpL x z) :: S))) : Go w Z EL C N Q p e s below T (mkF m pc L (.long z :: .long x :: S)) := by
  subst hp
  exact ps X (fun H hx hby _ q => XT.lcmp H hx rfl (hb hby hd) rfl q) kk
theorem o_dup (X : St w Z a0 EL y bytes maxL ret p l e R s m args below meth c T h sf k n) {pc pc' : Nat} {L : Array Slot} {S : List Value} {v : Value} (hd : decode bytes pc = .ok (.dup, 1)) (hp : pc + 1 = pc') (hv : v.category = 1) (kk : Go w Z EL C N Q p e s below T (mkF m pc' L (v :: v :: S))) : Go w Z EL C N Q p e s below T (mkF m pc L (v :: S)) := by
  subst hp
  exact ps X (fun H hx hby _ q => XS.dup H hx rfl (hb hby hd) rfl hv q) kk
theorem o_pop (X : St w Z a0 EL y bytes maxL ret p l e R s m args below meth c T h sf k n) {pc pc' : Nat} {L : Array Slot} {S : List Value} {v : Value} (hd : decode bytes pc = .ok (.pop, 1)) (hp : pc + 1 = pc') (hv : v.category = 1) (kk : Go w Z EL C N Q p e s below T (mkF m pc' L S)) : Go w Z EL C N Q p e s below T (mkF m pc L (v :: S)) := by
  subst hp
  exact ps X (fun H hx hby _ q => XS.pop H hx rfl (hb hby hd) rfl hv q) kk
theorem o_dup_x1 (X : St w Z a0 EL y bytes maxL ret p l e R s m args below meth c T h sf k n) {pc pc' : Nat} {L : Array Slot} {S : List Value} {u v : Value} (hd : decode bytes pc = .ok (.dup_x1, 1)) (hp : pc + 1 = pc') (hu : u.category = 1) (hv : v.category = 1) (kk : Go w Z EL C N Q p e s below T (mkF m pc' L (u :: v :: u :: S))) : Go w Z EL C N Q p e s below T (mkF m pc L (u :: v :: S)) := by
  subst hp
  exact ps X (fun H hx hby _ q => XT.dupX1 H hx rfl (hb hby hd) rfl hu hv q) kk
theorem o_dup2 (X : St w Z a0 EL y bytes maxL ret p l e R s m args below meth c T h sf k n) {pc pc' : Nat} {L : Array Slot} {S : List Value} {u v : Value} (hd : decode bytes pc = .ok (.dup2, 1)) (hp : pc + 1 = pc') (hu : u.category = 1) (hv : v.category = 1) (kk : Go w Z EL C N Q p e s below T (mkF m pc' L (u :: v :: u :: v :: S))) : Go w Z EL C N Q p e s below T (mkF m pc L (u :: v :: S)) := by
  subst hp
  exact ps X (fun H hx hby _ q => XT.dup2 H hx rfl (hb hby hd) rfl hu hv q) kk
theorem o_iinc (X : St w Z a0 EL y bytes maxL ret p l e R s m args below meth c T h sf k n) {pc pc' : Nat} {L : Array Slot} {S : List Value} {i : Nat} {cst : Int} {x : Int32} {L' : Array Slot} (v : Int32) (hd : decode bytes pc = .ok (.iinc i cst, 3)) (hp : pc + 3 = pc') (hv : Int32.ofInt cst = v) (hl : L[i]? = some (.val (.int x))) (hl' : storeLocals L i (.int (x + v)) = some L') (kk : Go w Z EL C N Q p e s below T (mkF m pc' L' S)) : Go w Z EL C N Q p e s below T (mkF m pc L S) := by
  subst hp
  exact ps X (fun H hx hby _ q => XS.iinc H hx rfl (hb hby hd) hl (by rw [hv]; exact hl') q) kk
theorem o_irem (X : St w Z a0 EL y bytes maxL ret p l e R s m args below meth c T h sf k n) {pc pc' : Nat} {L : Array Slot} {S : List Value} {x z : Int32} (hd : decode bytes pc = .ok (.irem, 1)) (hp : pc + 1 = pc') (hz : z ≠ 0) (kk : Go w Z EL C N Q p e s below T (mkF m pc' L (.int (x % z) :: S))) : Go w Z EL C N Q p e s below T (mkF m pc L (.int z :: .int x :: S)) := by
  subst hp
  exact ps X (fun H hx hby _ q => XS.irem H hx rfl (hb hby hd) rfl hz (by rw [irem_eq_mod]; exact q)) kk
theorem o_goto (X : St w Z a0 EL y bytes maxL ret p l e R s m args below meth c T h sf k n) {pc pc' : Nat} {L : Array Slot} {S : List Value} {o : Int} (hd : decode bytes pc = .ok (.goto o, 3)) (hp : 0 ≤ (pc : Int) + o ∧ ((pc : Int) + o).toNat = pc') (kk : Go w Z EL C N Q p e s below T (mkF m pc' L S)) : Go w Z EL C N Q p e s below T (mkF m pc L S) :=
  ps X (fun H hx hby _ q => XS.goto H hx rfl (pc0 := pc) rfl (hb hby hd) hp.1 hp.2 q) kk
theorem o_if_icmpeq (X : St w Z a0 EL y bytes maxL ret p l e R s m args below meth c T h sf k n) {pc pt pf : Nat} {L : Array Slot} {S : List Value} {x z : Int32} {o : Int} (hd : decode bytes pc = .ok (.if_icmp .eq o, 3)) (hp : 0 ≤ (pc : Int) + o ∧ ((pc : Int) + o).toNat = pt) (hf : pc + 3 = pf) (kt : x = z → Go w Z EL C N Q p e s below T (mkF m pt L S)) (kf : ¬ x = z → Go w Z EL C N Q p e s below T (mkF m pf L S)) : Go w Z EL C N Q p e s below T (mkF m pc L (.int z :: .int x :: S)) := by
  subst hf
  by_cases hc : x = z
  · exact ps X (fun H hx hby _ q => XS.icmpYes H hx rfl (pc0 := pc) rfl (hb hby hd) rfl (XT.ii_eq_t hc) hp.1 hp.2 q) (kt hc)
  · exact ps X (fun H hx hby _ q => XS.icmpNo H hx rfl (hb hby hd) rfl (XT.ii_eq_f hc) q) (kf hc)
theorem o_ifeq (X : St w Z a0 EL y bytes maxL ret p l e R s m args below meth c T h sf k n) {pc pt pf : Nat} {L : Array Slot} {S : List Value} {x : Int32} {o : Int} (hd : decode bytes pc = .ok (.ifCond .eq o, 3)) (hp : 0 ≤ (pc : Int) + o ∧ ((pc : Int) + o).toNat = pt) (hf : pc + 3 = pf) (kt : x = 0 → Go w Z EL C N Q p e s below T (mkF m pt L S)) (kf : ¬ x = 0 → Go w Z EL C N Q p e s below T (mkF m pf L S)) : Go w Z EL C N Q p e s below T (mkF m pc L (.int x :: S)) := by
  subst hf
  by_cases hc : x = 0
  · exact ps X (fun H hx hby _ q => XS.ifYes H hx rfl (pc0 := pc) rfl (hb hby hd) rfl (XT.i0_eq_t hc) hp.1 hp.2 q) (kt hc)
  · exact ps X (fun H hx hby _ q => XS.ifNo H hx rfl (hb hby hd) rfl (XT.i0_eq_f hc) q) (kf hc)
theorem o_if_icmpne (X : St w Z a0 EL y bytes maxL ret p l e R s m args below meth c T h sf k n) {pc pt pf : Nat} {L : Array Slot} {S : List Value} {x z : Int32} {o : Int} (hd : decode bytes pc = .ok (.if_icmp .ne o, 3)) (hp : 0 ≤ (pc : Int) + o ∧ ((pc : Int) + o).toNat = pt) (hf : pc + 3 = pf) (kt : ¬ x = z → Go w Z EL C N Q p e s below T (mkF m pt L S)) (kf : x = z → Go w Z EL C N Q p e s below T (mkF m pf L S)) : Go w Z EL C N Q p e s below T (mkF m pc L (.int z :: .int x :: S)) := by
  subst hf
  by_cases hc : x = z
  · exact ps X (fun H hx hby _ q => XS.icmpNo H hx rfl (hb hby hd) rfl (XT.ii_ne_f hc) q) (kf hc)
  · exact ps X (fun H hx hby _ q => XS.icmpYes H hx rfl (pc0 := pc) rfl (hb hby hd) rfl (XT.ii_ne_t hc) hp.1 hp.2 q) (kt hc)
theorem o_ifne (X : St w Z a0 EL y bytes maxL ret p l e R s m args below meth c T h sf k n) {pc pt pf : Nat} {L : Array Slot} {S : List Value} {x : Int32} {o : Int} (hd : decode bytes pc = .ok (.ifCond .ne o, 3)) (hp : 0 ≤ (pc : Int) + o ∧ ((pc : Int) + o).toNat = pt) (hf : pc + 3 = pf) (kt : ¬ x = 0 → Go w Z EL C N Q p e s below T (mkF m pt L S)) (kf : x = 0 → Go w Z EL C N Q p e s below T (mkF m pf L S)) : Go w Z EL C N Q p e s below T (mkF m pc L (.int x :: S)) := by
  subst hf
  by_cases hc : x = 0
  · exact ps X (fun H hx hby _ q => XS.ifNo H hx rfl (hb hby hd) rfl (XT.i0_ne_f hc) q) (kf hc)
  · exact ps X (fun H hx hby _ q => XS.ifYes H hx rfl (pc0 := pc) rfl (hb hby hd) rfl (XT.i0_ne_t hc) hp.1 hp.2 q) (kt hc)
theorem o_if_icmplt (X : St w Z a0 EL y bytes maxL ret p l e R s m args below meth c T h sf k n) {pc pt pf : Nat} {L : Array Slot} {S : List Value} {x z : Int32} {o : Int} (hd : decode bytes pc = .ok (.if_icmp .lt o, 3)) (hp : 0 ≤ (pc : Int) + o ∧ ((pc : Int) + o).toNat = pt) (hf : pc + 3 = pf) (kt : x < z → Go w Z EL C N Q p e s below T (mkF m pt L S)) (kf : ¬ x < z → Go w Z EL C N Q p e s below T (mkF m pf L S)) : Go w Z EL C N Q p e s below T (mkF m pc L (.int z :: .int x :: S)) := by
  subst hf
  by_cases hc : x < z
  · exact ps X (fun H hx hby _ q => XS.icmpYes H hx rfl (pc0 := pc) rfl (hb hby hd) rfl (XT.ii_lt_t hc) hp.1 hp.2 q) (kt hc)
  · exact ps X (fun H hx hby _ q => XS.icmpNo H hx rfl (hb hby hd) rfl (XT.ii_lt_f hc) q) (kf hc)
theorem o_iflt (X : St w Z a0 EL y bytes maxL ret p l e R s m args below meth c T h sf k n) {pc pt pf : Nat} {L : Array Slot} {S : List Value} {x : Int32} {o : Int} (hd : decode bytes pc = .ok (.ifCond .lt o, 3)) (hp : 0 ≤ (pc : Int) + o ∧ ((pc : Int) + o).toNat = pt) (hf : pc + 3 = pf) (kt : x < 0 → Go w Z EL C N Q p e s below T (mkF m pt L S)) (kf : ¬ x < 0 → Go w Z EL C N Q p e s below T (mkF m pf L S)) : Go w Z EL C N Q p e s below T (mkF m pc L (.int x :: S)) := by
  subst hf
  by_cases hc : x < 0
  · exact ps X (fun H hx hby _ q => XS.ifYes H hx rfl (pc0 := pc) rfl (hb hby hd) rfl (XT.i0_lt_t hc) hp.1 hp.2 q) (kt hc)
  · exact ps X (fun H hx hby _ q => XS.ifNo H hx rfl (hb hby hd) rfl (XT.i0_lt_f hc) q) (kf hc)
theorem o_if_icmpge (X : St w Z a0 EL y bytes maxL ret p l e R s m args below meth c T h sf k n) {pc pt pf : Nat} {L : Array Slot} {S : List Value} {x z : Int32} {o : Int} (hd : decode bytes pc = .ok (.if_icmp .ge o, 3)) (hp : 0 ≤ (pc : Int) + o ∧ ((pc : Int) + o).toNat = pt) (hf : pc + 3 = pf) (kt : ¬ x < z → Go w Z EL C N Q p e s below T (mkF m pt L S)) (kf : x < z → Go w Z EL C N Q p e s below T (mkF m pf L S)) : Go w Z EL C N Q p e s below T (mkF m pc L (.int z :: .int x :: S)) := by
  subst hf
  by_cases hc : x < z
  · exact ps X (fun H hx hby _ q => XS.icmpNo H hx rfl (hb hby hd) rfl (XT.ii_ge_f hc) q) (kf hc)
  · exact ps X (fun H hx hby _ q => XS.icmpYes H hx rfl (pc0 := pc) rfl (hb hby hd) rfl (XT.ii_ge_t hc) hp.1 hp.2 q) (kt hc)
theorem o_ifge (X : St w Z a0 EL y bytes maxL ret p l e R s m args below meth c T h sf k n) {pc pt pf : Nat} {L : Array Slot} {S : List Value} {x : Int32} {o : Int} (hd : decode bytes pc = .ok (.ifCond .ge o, 3)) (hp : 0 ≤ (pc : Int) + o ∧ ((pc : Int) + o).toNat = pt) (hf : pc + 3 = pf) (kt : ¬ x < 0 → Go w Z EL C N Q p e s below T (mkF m pt L S)) (kf : x < 0 → Go w Z EL C N Q p e s below T (mkF m pf L S)) : Go w Z EL C N Q p e s below T (mkF m pc L (.int x :: S)) := by
  subst hf
  by_cases hc : x < 0
  · exact ps X (fun H hx hby _ q => XS.ifNo H hx rfl (hb hby hd) rfl (XT.i0_ge_f hc) q) (kf hc)
  · exact ps X (fun H hx hby _ q => XS.ifYes H hx rfl (pc0 := pc) rfl (hb hby hd) rfl (XT.i0_ge_t hc) hp.1 hp.2 q) (kt hc)
theorem o_if_icmpgt (X : St w Z a0 EL y bytes maxL ret p l e R s m args below meth c T h sf k n) {pc pt pf : Nat} {L : Array Slot} {S : List Value} {x z : Int32} {o : Int} (hd : decode bytes pc = .ok (.if_icmp .gt o, 3)) (hp : 0 ≤ (pc : Int) + o ∧ ((pc : Int) + o).toNat = pt) (hf : pc + 3 = pf) (kt : z < x → Go w Z EL C N Q p e s below T (mkF m pt L S)) (kf : ¬ z < x → Go w Z EL C N Q p e s below T (mkF m pf L S)) : Go w Z EL C N Q p e s below T (mkF m pc L (.int z :: .int x :: S)) := by
  subst hf
  by_cases hc : z < x
  · exact ps X (fun H hx hby _ q => XS.icmpYes H hx rfl (pc0 := pc) rfl (hb hby hd) rfl (XT.ii_gt_t hc) hp.1 hp.2 q) (kt hc)
  · exact ps X (fun H hx hby _ q => XS.icmpNo H hx rfl (hb hby hd) rfl (XT.ii_gt_f hc) q) (kf hc)
theorem o_ifgt (X : St w Z a0 EL y bytes maxL ret p l e R s m args below meth c T h sf k n) {pc pt pf : Nat} {L : Array Slot} {S : List Value} {x : Int32} {o : Int} (hd : decode bytes pc = .ok (.ifCond .gt o, 3)) (hp : 0 ≤ (pc : Int) + o ∧ ((pc : Int) + o).toNat = pt) (hf : pc + 3 = pf) (kt : 0 < x → Go w Z EL C N Q p e s below T (mkF m pt L S)) (kf : ¬ 0 < x → Go w Z EL C N Q p e s below T (mkF m pf L S)) : Go w Z EL C N Q p e s below T (mkF m pc L (.int x :: S)) := by
  subst hf
  by_cases hc : 0 < x
  · exact ps X (fun H hx hby _ q => XS.ifYes H hx rfl (pc0 := pc) rfl (hb hby hd) rfl (XT.i0_gt_t hc) hp.1 hp.2 q) (kt hc)
  · exact ps X (fun H hx hby _ q => XS.ifNo H hx rfl (hb hby hd) rfl (XT.i0_gt_f hc) q) (kf hc)
theorem o_if_icmple (X : St w Z a0 EL y bytes maxL ret p l e R s m args below meth c T h sf k n) {pc pt pf : Nat} {L : Array Slot} {S : List Value} {x z : Int32} {o : Int} (hd : decode bytes pc = .ok (.if_icmp .le o, 3)) (hp : 0 ≤ (pc : Int) + o ∧ ((pc : Int) + o).toNat = pt) (hf : pc + 3 = pf) (kt : ¬ z < x → Go w Z EL C N Q p e s below T (mkF m pt L S)) (kf : z < x → Go w Z EL C N Q p e s below T (mkF m pf L S)) : Go w Z EL C N Q p e s below T (mkF m pc L (.int z :: .int x :: S)) := by
  subst hf
  by_cases hc : z < x
  · exact ps X (fun H hx hby _ q => XS.icmpNo H hx rfl (hb hby hd) rfl (XT.ii_le_f hc) q) (kf hc)
  · exact ps X (fun H hx hby _ q => XS.icmpYes H hx rfl (pc0 := pc) rfl (hb hby hd) rfl (XT.ii_le_t hc) hp.1 hp.2 q) (kt hc)
theorem o_ifle (X : St w Z a0 EL y bytes maxL ret p l e R s m args below meth c T h sf k n) {pc pt pf : Nat} {L : Array Slot} {S : List Value} {x : Int32} {o : Int} (hd : decode bytes pc = .ok (.ifCond .le o, 3)) (hp : 0 ≤ (pc : Int) + o ∧ ((pc : Int) + o).toNat = pt) (hf : pc + 3 = pf) (kt : ¬ 0 < x → Go w Z EL C N Q p e s below T (mkF m pt L S)) (kf : 0 < x → Go w Z EL C N Q p e s below T (mkF m pf L S)) : Go w Z EL C N Q p e s below T (mkF m pc L (.int x :: S)) := by
  subst hf
  by_cases hc : 0 < x
  · exact ps X (fun H hx hby _ q => XS.ifNo H hx rfl (hb hby hd) rfl (XT.i0_le_f hc) q) (kf hc)
  · exact ps X (fun H hx hby _ q => XS.ifYes H hx rfl (pc0 := pc) rfl (hb hby hd) rfl (XT.i0_le_t hc) hp.1 hp.2 q) (kt hc)
theorem o_ifnull_y (X : St w Z a0 EL y bytes maxL ret p l e R s m args below meth c T h sf k n) {pc pt : Nat} {L : Array Slot} {S : List Value} {o : Int} (hd : decode bytes pc = .ok (.ifnull o, 3)) (hp : 0 ≤ (pc : Int) + o ∧ ((pc : Int) + o).toNat = pt) (kk : Go w Z EL C N Q p e s below T (mkF m pt L S)) : Go w Z EL C N Q p e s below T (mkF m pc L (.null :: S)) :=
  ps X (fun H hx hby _ q => XS.ifnullYes H hx rfl (pc0 := pc) rfl (hb hby hd) rfl hp.1 hp.2 q) kk
theorem o_ifnull_n (X : St w Z a0 EL y bytes maxL ret p l e R s m args below meth c T h sf k n) {pc pf : Nat} {L : Array Slot} {S : List Value} {o : Int} {b : Addr} (hd : decode bytes pc = .ok (.ifnull o, 3)) (hf : pc + 3 = pf) (kk : Go w Z EL C N Q p e s below T (mkF m pf L S)) : Go w Z EL C N Q p e s below T (mkF m pc L (.ref b :: S)) := by
  subst hf
  exact ps X (fun H hx hby _ q => XS.ifnullNo H hx rfl (hb hby hd) rfl q) kk
theorem o_ifnonnull_y (X : St w Z a0 EL y bytes maxL ret p l e R s m args below meth c T h sf k n) {pc pt : Nat} {L : Array Slot} {S : List Value} {o : Int} {b : Addr} (hd : decode bytes pc = .ok (.ifnonnull o, 3)) (hp : 0 ≤ (pc : Int) + o ∧ ((pc : Int) + o).toNat = pt) (kk : Go w Z EL C N Q p e s below T (mkF m pt L S)) : Go w Z EL C N Q p e s below T (mkF m pc L (.ref b :: S)) :=
  ps X (fun H hx hby _ q => XS.ifnonnullYes H hx rfl (pc0 := pc) rfl (hb hby hd) rfl hp.1 hp.2 q) kk
theorem o_ifnonnull_n (X : St w Z a0 EL y bytes maxL ret p l e R s m args below meth c T h sf k n) {pc pf : Nat} {L : Array Slot} {S : List Value} {o : Int} (hd : decode bytes pc = .ok (.ifnonnull o, 3)) (hf : pc + 3 = pf) (kk : Go w Z EL C N Q p e s below T (mkF m pf L S)) : Go w Z EL C N Q p e s below T (mkF m pc L (.null :: S)) := by
  subst hf
  exact ps X (fun H hx hby _ q => XS.ifnonnullNo H hx rfl (hb hby hd) rfl q) kk
theorem o_if_acmpeq (X : St w Z a0 EL y bytes maxL ret p l e R s m args below meth c T h sf k n) {pc pt pf : Nat} {L : Array Slot} {S : List Value} {u v : Value} {o : Int} (hd : decode bytes pc = .ok (.if_acmp .eq o, 3)) (hu : u.isRef = true) (hv : v.isRef = true) (hp : 0 ≤ (pc : Int) + o ∧ ((pc : Int) + o).toNat = pt) (hf : pc + 3 = pf) (kt : u = v → Go w Z EL C N Q p e s below T (mkF m pt L S)) (kf : ¬ u = v → Go w Z EL C N Q p e s below T (mkF m pf L S)) : Go w Z EL C N Q p e s below T (mkF m pc L (v :: u :: S)) := by
  subst hf
  by_cases hc : u = v
  · exact ps X (fun H hx hby _ q => XT.acmpYes H hx rfl (pc0 := pc) rfl (hb hby hd) rfl hu hv (XT.aa_eq_t hc) hp.1 hp.2 q) (kt hc)
  · exact ps X (fun H hx hby _ q => XT.acmpNo H hx rfl (hb hby hd) rfl hu hv (XT.aa_eq_f hc) q) (kf hc)
theorem o_if_acmpne (X : St w Z a0 EL y bytes maxL ret p l e R s m args below meth c T h sf k n) {pc pt pf : Nat} {L : Array Slot} {S : List Value} {u v : Value} {o : Int} (hd : decode bytes pc = .ok (.if_acmp .ne o, 3)) (hu : u.isRef = true) (hv : v.isRef = true) (hp : 0 ≤ (pc : Int) + o ∧ ((pc : Int) + o).toNat = pt) (hf : pc + 3 = pf) (kt : ¬ u = v → Go w Z EL C N Q p e s below T (mkF m pt L S)) (kf : u = v → Go w Z EL C N Q p e s below T (mkF m pf L S)) : Go w Z EL C N Q p e s below T (mkF m pc L (v :: u :: S)) := by
  subst hf
  by_cases hc : u = v
  · exact ps X (fun H hx hby _ q => XT.acmpNo H hx rfl (hb hby hd) rfl hu hv (XT.aa_ne_f hc) q) (kf hc)
  · exact ps X (fun H hx hby _ q => XT.acmpYes H hx rfl (pc0 := pc) rfl (hb hby hd) rfl hu hv (XT.aa_ne_t hc) hp.1 hp.2 q) (kt hc)
theorem St.ext (X : St w Z a0 EL y bytes maxL ret p l e R s m args below meth c T h sf k n) : Ext Z.heap h := by
  obtain ⟨-, vm0, k0, locs, X0, eT, hS, hk, hZ, hown, N, E, -⟩ := X; exact E
theorem St.drop (X : St w Z a0 EL y bytes maxL ret p l e R s m args below meth c T h sf k n) {sf' : List Addr} (q : ∀ x ∈ sf', x ∈ sf) : St w Z a0 EL y bytes maxL ret p l e R s m args below meth c T h sf' k n := by
  obtain ⟨c0, vm0, k0, locs, X0, eT, hS, hk, hZ, hown, N, E, hw, hC, hsf⟩ := X
  exact ⟨c0, vm0, k0, locs, X0, eT, hS, hk, hZ, hown, N, E, hw, hC, fun x hx => hsf x (q x hx)⟩
theorem o_getfield (X : St w Z a0 EL y bytes maxL ret p l e R s m args below meth c T h sf k n) {pc pc' : Nat} {L : Array Slot} {S : List Value} {idx : Nat} {R0 O nm d : String} {a : Addr} {v : Value} (hd : decode bytes pc = .ok (.getfield idx, 3)) (hp : pc + 3 = pc') (w1 : (Cond.fieldLink y.cls idx R0 nm d).before a0 Z = true) (via : Via Z R0 O nm d) (F : Fld Z h a O nm d v)
    (kk : ∀ T', St w Z a0 EL y bytes maxL ret p l e R s m args below meth c T' h sf k n → Go w Z EL C N Q p e s below T' (mkF m pc' L (v :: S))) : Go w Z EL C N Q p e s below T (mkF m pc L (.ref a :: S)) := by
  subst hp
  obtain ⟨⟨hx, hby, c1⟩, vm0, k0, locs, X0, eT, hS, hk, hZ, hown, N, E, hw, hC, hsf⟩ := X
  obtain ⟨T', X', e', st⟩ := getF (s := s.setVm vm0) X0 hx hZ hown (host := "") (Or.inl w1) via eT F (g := mkF m pc L (.ref a :: S)) rfl rfl (hb hby hd)
  obtain ⟨s₂, o, hs, r⟩ := kk T' ⟨⟨hx, hby, c1⟩, vm0, k0, locs, X', e', hS, hk, hZ, hown, N, E, hw, hC, hsf⟩
  exact ⟨s₂, o, st _ hs, r⟩
theorem o_getfieldNest (X : St w Z a0 EL y bytes maxL ret p l e R s m args below meth c T h sf k n) {pc pc' : Nat} {L : Array Slot} {S : List Value} {idx : Nat} {R0 O nm d host : String} {a : Addr} {v : Value} (hd : decode bytes pc = .ok (.getfield idx, 3)) (hp : pc + 3 = pc') (w1 : (Cond.fieldLinkNest y.cls idx R0 nm d host).before a0 Z = true) (via : Via Z R0 O nm d) (F : Fld Z h a O nm d v)
    (kk : ∀ T', St w Z a0 EL y bytes maxL ret p l e R s m args below meth c T' h sf k n → Go w Z EL C N Q p e s below T' (mkF m pc' L (v :: S))) : Go w Z EL C N Q p e s below T (mkF m pc L (.ref a :: S)) := by
  subst hp
  obtain ⟨⟨hx, hby, c1⟩, vm0, k0, locs, X0, eT, hS, hk, hZ, hown, N, E, hw, hC, hsf⟩ := X
  obtain ⟨T', X', e', st⟩ := getF (s := s.setVm vm0) X0 hx hZ hown (Or.inr w1) via eT F (g := mkF m pc L (.ref a :: S)) rfl rfl (hb hby hd)
  obtain ⟨s₂, o, hs, r⟩ := kk T' ⟨⟨hx, hby, c1⟩, vm0, k0, locs, X', e', hS, hk, hZ, hown, N, E, hw, hC, hsf⟩
  exact ⟨s₂, o, st _ hs, r⟩
theorem o_getstatic (X : St w Z a0 EL y bytes maxL ret p l e R s m args below meth c T h sf k n) {pc pc' : Nat} {L : Array Slot} {S : List Value} {idx : Nat} {R0 O nm d : String} {v : Value} (hd : decode bytes pc = .ok (.getstatic idx, 3)) (hp : pc + 3 = pc') (w1 : (Cond.fieldLink y.cls idx R0 nm d).before a0 Z = true) (via : Via Z R0 O nm d) (F : Sta Z Z.heap O nm d v)
    (kk : ∀ T', St w Z a0 EL y bytes maxL ret p l e R s m args below meth c T' h sf k n → Go w Z EL C N Q p e s below T' (mkF m pc' L (v :: S))) : Go w Z EL C N Q p e s below T (mkF m pc L S) := by
  subst hp
  obtain ⟨⟨hx, hby, c1⟩, vm0, k0, locs, X0, eT, hS, hk, hZ, hown, N, E, hw, hC, hsf⟩ := X
  obtain ⟨T', X', e', st⟩ := getS (s := s.setVm vm0) X0 hx hZ hown (host := "") w1 via eT (F.ext E) (g := mkF m pc L S) rfl (hb hby hd)
  obtain ⟨s₂, o, hs, r⟩ := kk T' ⟨⟨hx, hby, c1⟩, vm0, k0, locs, X', e', hS, hk, hZ, hown, N, E, hw, hC, hsf⟩
  exact ⟨s₂, o, st _ hs, r⟩
/-- behind a write of one slot -/
theorem St.wrote {vm0 : Vm} {k0 : Nat} {locs : List Loc} {T' : State} {h' : Heap} {a : Addr} {sl : Nat} {v : Value} (c1 : p.tables.exec = Jvm.exec ∧ c.code = bytes ∧ c.maxLocals = maxL ∧ meth.sig.returnType = ret ∧ meth.locks = false ∧ meth.name = y.name ∧ EW Z a0 EL)
    (X' : Stand p l e R (s.setVm vm0) m args below meth c T' (locs ++ [⟨a, sl⟩]) k n) (e' : T'.heap = h') (hS : s.Since vm0 k0) (hk : k0 ≤ h.size) (hZ : Z.Warmed39 vm0) (hown : vm0.findClass y.cls = some m.cls) (N : Fr Z.heap.size locs) (E : Ext Z.heap h) (hw : w = false → vm0 = s.vm ∧ EL = []) (hC : CHr Z EL s.vm s.heap vm0 h) (hsf : ∀ x ∈ sf, x < h.size ∧ Safe Z EL vm0 h x)
    (W : Wr h h' a sl v) (ha : Z.heap.size ≤ a) (ok : Ok Z EL h sf a) : St w Z a0 EL y bytes maxL ret p l e R s m args below meth c T' h' sf k n := by
  have S := ok.safe hZ.alike hsf
  refine ⟨c1, vm0, k0, _, X', e', hS, by rw [W.size]; exact hk, hZ, hown, Fr.snoc X' N ha, (Old.wr (Z := Z) (n0 := Z.heap.size) ⟨rfl, E⟩ W ha).2, hw, hC.trans (CHr.wr W S hC.1), fun x hx => ⟨by rw [W.size]; exact (hsf x hx).1, Safe.wr W S hC.1 (hsf x hx).2⟩⟩
theorem o_putfield (X : St w Z a0 EL y bytes maxL ret p l e R s m args below meth c T h sf k n) {pc pc' : Nat} {L : Array Slot} {S : List Value} {idx kk0 : Nat} {R0 O nm d K : String} {ty : FieldType} {a : Addr} {v old : Value} (hd : decode bytes pc = .ok (.putfield idx, 3)) (hp : pc + 3 = pc') (w1 : (Cond.fieldLink y.cls idx R0 nm d).before a0 Z = true) (via : Via Z R0 O nm d) (F : Fld Z h a O nm d old) (E0 : Exa Z h a K)
    (L0 : (Cond.lays K O nm d).before a0 Z = true ∨ ((Cond.laysFinal K O nm d).before a0 Z = true ∧ y.cls = O ∧ y.name = "<init>")) (wi : (Cond.instantiable K kk0).before a0 Z = true) (hty : parseFieldDescriptor d = some ty) (hn : narrow ty v = v) (hf : fits ty v = true) (ha : Z.heap.size ≤ a) (ok : Ok Z EL h sf a)
    (kk : ∀ T' h', Wr h h' a (Jvm.RoadKit.slotOf Z O nm d) v → St w Z a0 EL y bytes maxL ret p l e R s m args below meth c T' h' sf k n → Go w Z EL C N Q p e s below T' (mkF m pc' L S)) : Go w Z EL C N Q p e s below T (mkF m pc L (v :: .ref a :: S)) := by
  subst hp
  obtain ⟨c1, vm0, k0, locs, X0, eT, hS, hk, hZ, hown, N, E, hw, hC, hsf⟩ := X
  obtain ⟨T', h', X', e', W, st⟩ := putF (s := s.setVm vm0) X0 c1.1 hZ hown (host := "") (Or.inl w1) via eT F E0 (L0.imp id fun q => ⟨q.1, q.2.1, c1.2.2.2.2.2.1.trans q.2.2⟩) wi hty hn hf (g := mkF m pc L (v :: .ref a :: S)) rfl rfl (hb c1.2.1 hd)
  obtain ⟨s₂, o, hs, r⟩ := kk T' h' W (St.wrote c1 X' e' hS hk hZ hown N E hw hC hsf W ha ok)
  exact ⟨s₂, o, st _ hs, r⟩
theorem o_putfieldN (X : St w Z a0 EL y bytes maxL ret p l e R s m args below meth c T h sf k n) {pc pc' : Nat} {L : Array Slot} {S : List Value} {idx kk0 : Nat} {R0 O nm d K : String} {ty : FieldType} {a : Addr} {v v' old : Value} (hd : decode bytes pc = .ok (.putfield idx, 3)) (hp : pc + 3 = pc') (w1 : (Cond.fieldLink y.cls idx R0 nm d).before a0 Z = true) (via : Via Z R0 O nm d) (F : Fld Z h a O nm d old) (E0 : Exa Z h a K)
    (L0 : (Cond.lays K O nm d).before a0 Z = true ∨ ((Cond.laysFinal K O nm d).before a0 Z = true ∧ y.cls = O ∧ y.name = "<init>")) (wi : (Cond.instantiable K kk0).before a0 Z = true) (hty : parseFieldDescriptor d = some ty) (hn : narrow ty v = v') (hf : fits ty v' = true) (ha : Z.heap.size ≤ a) (ok : Ok Z EL h sf a)
    (kk : ∀ T' h', Wr h h' a (Jvm.RoadKit.slotOf Z O nm d) v' → St w Z a0 EL y bytes maxL ret p l e R s m args below meth c T' h' sf k n → Go w Z EL C N Q p e s below T' (mkF m pc' L S)) : Go w Z EL C N Q p e s below T (mkF m pc L (v :: .ref a :: S)) := by
  subst hp
  obtain ⟨c1, vm0, k0, locs, X0, eT, hS, hk, hZ, hown, N, E, hw, hC, hsf⟩ := X
  obtain ⟨T', h', X', e', W, st⟩ := putFN (s := s.setVm vm0) X0 c1.1 hZ hown w1 via eT F E0 (L0.imp id fun q => ⟨q.1, q.2.1, c1.2.2.2.2.2.1.trans q.2.2⟩) wi hty hn hf (g := mkF m pc L (v :: .ref a :: S)) rfl rfl (hb c1.2.1 hd)
  obtain ⟨s₂, o, hs, r⟩ := kk T' h' W (St.wrote c1 X' e' hS hk hZ hown N E hw hC hsf W ha ok)
  exact ⟨s₂, o, st _ hs, r⟩
/-- behind an instruction that made one cell -/
theorem St.made {vm0 : Vm} {k0 : Nat} {locs : List Loc} {T' : State} {h' : Heap} {k1 n1 : Nat} (c1 : p.tables.exec = Jvm.exec ∧ c.code = bytes ∧ c.maxLocals = maxL ∧ meth.sig.returnType = ret ∧ meth.locks = false ∧ meth.name = y.name ∧ EW Z a0 EL)
    (X' : Stand p l e R (s.setVm vm0) m args below meth c T' locs k1 n1) (e' : T'.heap = h') (hS : s.Since vm0 k0) (hk : k0 ≤ h.size) (hZ : Z.Warmed39 vm0) (hown : vm0.findClass y.cls = some m.cls) (N : Fr Z.heap.size locs) (E : Ext Z.heap h) (hw : w = false → vm0 = s.vm ∧ EL = []) (hC : CHr Z EL s.vm s.heap vm0 h) (hsf : ∀ x ∈ sf, x < h.size ∧ Safe Z EL vm0 h x)
    (E2 : Ext h h') (hlt : h.size < h'.size) : St w Z a0 EL y bytes maxL ret p l e R s m args below meth c T' h' (h.size :: sf) k1 n1 := by
  refine ⟨c1, vm0, k0, locs, X', e', hS, Nat.le_trans hk E2.1, hZ, hown, N, ⟨Nat.le_trans E.1 E2.1, fun a q r => E2.2 _ _ (E.2 _ _ r)⟩, hw, hC.trans (CHr.ext E2 hC.1), fun x hx => ?_⟩
  rcases List.mem_cons.mp hx with rfl | hx
  · exact ⟨hlt, Safe.ext E2 hC.1 (Safe.new (Nat.le_refl _))⟩
  · exact ⟨Nat.lt_of_lt_of_le (hsf x hx).1 E2.1, Safe.ext E2 hC.1 (hsf x hx).2⟩
theorem o_new (X : St w Z a0 EL y bytes maxL ret p l e R s m args below meth c T h sf k n) {pc pc' : Nat} {L : Array Slot} {S : List Value} {idx nn : Nat} {K : String} (hd : decode bytes pc = .ok (.new idx, 3)) (hp : pc + 3 = pc') (w1 : (Cond.classLink y.cls idx K).before a0 Z = true) (wi : (Cond.instantiable K nn).before a0 Z = true) (wz : (Cond.initialized K).before a0 Z = true) (hc : k + 1 ≤ R.cells) (hl : n + nn ≤ R.slots)
    (kk : ∀ T' h' a, a = h.size → Z.heap.size ≤ a → Ext h h' → Exa Z h' a K → (∀ {O nm d : String} {ty : FieldType}, Laid Z a0 K O nm d → parseFieldDescriptor d = some ty → Fld Z h' a O nm d (defaultValue ty)) → St w Z a0 EL y bytes maxL ret p l e R s m args below meth c T' h' (a :: sf) (k + 1) (n + nn) → Go w Z EL C N Q p e s below T' (mkF m pc' L (.ref a :: S))) : Go w Z EL C N Q p e s below T (mkF m pc L S) := by
  subst hp
  obtain ⟨c1, vm0, k0, locs, X0, eT, hS, hk, hZ, hown, N, E, hw, hC, hsf⟩ := X
  obtain ⟨T', h', X', e', E2, A2, D2, -, st⟩ := newO (s := s.setVm vm0) X0 c1.1 hZ hown w1 wi wz eT (g := mkF m pc L S) rfl (hb c1.2.1 hd) hc hl
  obtain ⟨s₂, o, hs, r⟩ := kk T' h' h.size rfl E.1 E2 A2 D2 (St.made c1 X' e' hS hk hZ hown N E hw hC hsf E2 A2.lt)
  exact ⟨s₂, o, st _ hs, r⟩
theorem o_newarray (X : St w Z a0 EL y bytes maxL ret p l e R s m args below meth c T h sf k n) {pc pc' : Nat} {L : Array Slot} {S : List Value} {aty : ArrayType} {z : Int32} (hd : decode bytes pc = .ok (.newarray aty, 2)) (hp : pc + 2 = pc') (w1 : (Cond.arrayClass (newarray.typeOf aty)).before a0 Z = true) (hz : ¬ z < 0) {cap : Nat} (hcap : z.toNatClampNeg ≤ cap) (hb8 : cap * 8 ≤ 536870912) (hc : k + 1 ≤ R.cells) (hl : n + cap ≤ R.slots)
    (kk : ∀ T' h' a kA, a = h.size → Z.heap.size ≤ a → Ext h h' → Arv Z h' a kA (newarray.typeOf aty) z [] (defaultValue (newarray.typeOf aty)) → St w Z a0 EL y bytes maxL ret p l e R s m args below meth c T' h' (a :: sf) (k + 1) (n + cap) → Go w Z EL C N Q p e s below T' (mkF m pc' L (.ref a :: S))) : Go w Z EL C N Q p e s below T (mkF m pc L (.int z :: S)) := by
  subst hp
  obtain ⟨c1, vm0, k0, locs, X0, eT, hS, hk, hZ, hown, N, E, hw, hC, hsf⟩ := X
  obtain ⟨T', h', kA, X', e', E2, A2, st⟩ := newP (s := s.setVm vm0) X0 c1.1 hZ w1 eT (g := mkF m pc L (.int z :: S)) rfl (hb c1.2.1 hd) rfl hz hcap hb8 hc hl
  obtain ⟨s₂, o, hs, r⟩ := kk T' h' h.size kA rfl E.1 E2 (Arv.new A2 hz) (St.made c1 X' e' hS hk hZ hown N E hw hC hsf E2 A2.lt)
  exact ⟨s₂, o, st _ hs, r⟩
theorem o_newarrayE (X : St w Z a0 EL y bytes maxL ret p l e R s m args below meth c T h sf k n) {pc pc' : Nat} {L : Array Slot} {S : List Value} {aty : ArrayType} {z : Int32} (hd : decode bytes pc = .ok (.newarray aty, 2)) (hp : pc + 2 = pc') (w1 : (Cond.arrayClass (newarray.typeOf aty)).before a0 Z = true) (hz : ¬ z < 0) {cap : Nat} (hcap : z.toNatClampNeg ≤ cap) (hb8 : cap * 8 ≤ 536870912) (hc : k + 1 ≤ R.cells) (hl : n + cap ≤ R.slots) {ad : String} (had : "[" ++ (newarray.typeOf aty).toString = ad)
    (kk : ∀ T' h' a kA, a = h.size → Z.heap.size ≤ a → Ext h h' → Arv Z h' a kA (newarray.typeOf aty) z [] (defaultValue (newarray.typeOf aty)) → Exa Z h' a ad → St w Z a0 EL y bytes maxL ret p l e R s m args below meth c T' h' (a :: sf) (k + 1) (n + cap) → Go w Z EL C N Q p e s below T' (mkF m pc' L (.ref a :: S))) : Go w Z EL C N Q p e s below T (mkF m pc L (.int z :: S)) := by
  subst hp
  obtain ⟨c1, vm0, k0, locs, X0, eT, hS, hk, hZ, hown, N, E, hw, hC, hsf⟩ := X
  obtain ⟨T', h', kA, X', e', E2, A2, D2, st⟩ := newPE (s := s.setVm vm0) X0 c1.1 hZ w1 eT (g := mkF m pc L (.int z :: S)) rfl (hb c1.2.1 hd) rfl hz hcap hb8 hc hl had
  obtain ⟨s₂, o, hs, r⟩ := kk T' h' h.size kA rfl E.1 E2 (Arv.new A2 hz) D2 (St.made c1 X' e' hS hk hZ hown N E hw hC hsf E2 A2.lt)
  exact ⟨s₂, o, st _ hs, r⟩
theorem o_lookHit (X : St w Z a0 EL y bytes maxL ret p l e R s m args below meth c T h sf k n) {pc pc' len : Nat} {L : Array Slot} {S : List Value} {i : Int32} {dflt : Int} {pairs : Array (Int × Int)} (hd : decode bytes pc = .ok (.lookupswitch dflt pairs, len)) (hso : (pairs.toList.zip (pairs.toList.drop 1)).all (fun (a, next) => a.1 < next.1) = true) {u off : Int} (hf : pairs.find? (·.1 == i.toInt) = some (u, off)) (hp : 0 ≤ (pc : Int) + off ∧ ((pc : Int) + off).toNat = pc') (kk : Go w Z EL C N Q p e s below T (mkF m pc' L S)) : Go w Z EL C N Q p e s below T (mkF m pc L (.int i :: S)) := by
  obtain ⟨hp0, rfl⟩ := hp
  obtain ⟨c1, vm0, k0, locs, X0, -⟩ := X
  obtain ⟨s₂, o, hs, r⟩ := kk
  exact ⟨s₂, o, X0.lookupswitchHit c1.1 (g := mkF m pc L (.int i :: S)) rfl rfl (hb c1.2.1 hd) hso hf hp0 _ hs, r⟩
theorem o_lookMiss (X : St w Z a0 EL y bytes maxL ret p l e R s m args below meth c T h sf k n) {pc pc' len : Nat} {L : Array Slot} {S : List Value} {i : Int32} {dflt : Int} {pairs : Array (Int × Int)} (hd : decode bytes pc = .ok (.lookupswitch dflt pairs, len)) (hso : (pairs.toList.zip (pairs.toList.drop 1)).all (fun (a, next) => a.1 < next.1) = true) (hf : pairs.find? (·.1 == i.toInt) = none) (hp : 0 ≤ (pc : Int) + dflt ∧ ((pc : Int) + dflt).toNat = pc') (kk : Go w Z EL C N Q p e s below T (mkF m pc' L S)) : Go w Z EL C N Q p e s below T (mkF m pc L (.int i :: S)) := by
  obtain ⟨hp0, rfl⟩ := hp
  obtain ⟨c1, vm0, k0, locs, X0, -⟩ := X
  obtain ⟨s₂, o, hs, r⟩ := kk
  exact ⟨s₂, o, X0.lookupswitchMiss c1.1 (g := mkF m pc L (.int i :: S)) rfl rfl (hb c1.2.1 hd) hso hf hp0 _ hs, r⟩
theorem o_tswIn (X : St w Z a0 EL y bytes maxL ret p l e R s m args below meth c T h sf k n) {pc pc' len : Nat} {L : Array Slot} {S : List Value} {i : Int32} {dflt low high : Int} {offs : Array Int} (hd : decode bytes pc = .ok (.tableswitch dflt low high offs, len)) (hin : ¬ (i.toInt < low ∨ i.toInt > high)) {off : Int} (hf : offs[(i.toInt - low).toNat]? = some off) (hp : 0 ≤ (pc : Int) + off ∧ ((pc : Int) + off).toNat = pc') (kk : Go w Z EL C N Q p e s below T (mkF m pc' L S)) : Go w Z EL C N Q p e s below T (mkF m pc L (.int i :: S)) := by
  obtain ⟨hp0, rfl⟩ := hp
  obtain ⟨c1, vm0, k0, locs, X0, -⟩ := X
  obtain ⟨s₂, o, hs, r⟩ := kk
  exact ⟨s₂, o, X0.tableswitchIn c1.1 (g := mkF m pc L (.int i :: S)) rfl rfl (hb c1.2.1 hd) hin hf hp0 _ hs, r⟩
theorem o_tswOut (X : St w Z a0 EL y bytes maxL ret p l e R s m args below meth c T h sf k n) {pc pc' len : Nat} {L : Array Slot} {S : List Value} {i : Int32} {dflt low high : Int} {offs : Array Int} (hd : decode bytes pc = .ok (.tableswitch dflt low high offs, len)) (hout : i.toInt < low ∨ i.toInt > high) (hp : 0 ≤ (pc : Int) + dflt ∧ ((pc : Int) + dflt).toNat = pc') (kk : Go w Z EL C N Q p e s below T (mkF m pc' L S)) : Go w Z EL C N Q p e s below T (mkF m pc L (.int i :: S)) := by
  obtain ⟨hp0, rfl⟩ := hp
  obtain ⟨c1, vm0, k0, locs, X0, -⟩ := X
  obtain ⟨s₂, o, hs, r⟩ := kk
  exact ⟨s₂, o, X0.tableswitchOut c1.1 (g := mkF m pc L (.int i :: S)) rfl rfl (hb c1.2.1 hd) hout hp0 _ hs, r⟩
theorem o_anewarray (X : St w Z a0 EL y bytes maxL ret p l e R s m args below meth c T h sf k n) {pc pc' : Nat} {L : Array Slot} {S : List Value} {idx : Nat} {K : String} {z : Int32} (hd : decode bytes pc = .ok (.anewarray idx, 3)) (hp : pc + 3 = pc') (w1 : (Cond.classLink y.cls idx K).before a0 Z = true) (w2 : (Cond.arrayOver (.object K)).before a0 Z = true) (hz : ¬ z < 0) {cap : Nat} (hcap : z.toNatClampNeg ≤ cap) (hb8 : cap * 8 ≤ 536870912) (hc : k + 1 ≤ R.cells) (hl : n + cap ≤ R.slots)
    (kk : ∀ T' h' a kA, a = h.size → Z.heap.size ≤ a → Ext h h' → Arv Z h' a kA (.object K) z [] .null → Ovr Z kA K → St w Z a0 EL y bytes maxL ret p l e R s m args below meth c T' h' (a :: sf) (k + 1) (n + cap) → Go w Z EL C N Q p e s below T' (mkF m pc' L (.ref a :: S))) : Go w Z EL C N Q p e s below T (mkF m pc L (.int z :: S)) := by
  subst hp
  obtain ⟨c1, vm0, k0, locs, X0, eT, hS, hk, hZ, hown, N, E, hw, hC, hsf⟩ := X
  obtain ⟨T', h', kA, X', e', E2, A2, O2, st⟩ := newR (s := s.setVm vm0) X0 c1.1 hZ hown w1 w2 eT (g := mkF m pc L (.int z :: S)) rfl (hb c1.2.1 hd) rfl hz hcap hb8 hc hl
  obtain ⟨s₂, o, hs, r⟩ := kk T' h' h.size kA rfl E.1 E2 (Arv.new A2 hz) O2 (St.made c1 X' e' hS hk hZ hown N E hw hC hsf E2 A2.lt)
  exact ⟨s₂, o, st _ hs, r⟩
theorem o_castore (X : St w Z a0 EL y bytes maxL ret p l e R s m args below meth c T h sf k n) {pc pc' : Nat} {L : Array Slot} {S : List Value} {a : Addr} {kA : ClassId} {z j x : Int32} {vs : List Value} {d : Value} (hd : decode bytes pc = .ok (.castore, 1)) (hp : pc + 1 = pc') (A : Arv Z h a kA .char z vs d) (i : Nat) (hj : j.toNatClampNeg = i) (hjz : ¬ j < 0 ∧ j < z) (hi : i < vs.length) (ha : Z.heap.size ≤ a) (ok : Ok Z EL h sf a)
    (kk : ∀ T' h', Wr h h' a i (.int (nar .char x)) → Arv Z h' a kA .char z (vs.set i (.int (nar .char x))) d → St w Z a0 EL y bytes maxL ret p l e R s m args below meth c T' h' sf k n → Go w Z EL C N Q p e s below T' (mkF m pc' L S)) : Go w Z EL C N Q p e s below T (mkF m pc L (.int x :: .int j :: .ref a :: S)) := by
  subst hp
  obtain ⟨c1, vm0, k0, locs, X0, eT, hS, hk, hZ, hown, N, E, hw, hC, hsf⟩ := X
  obtain ⟨cl, Ar, q1, q2, q3, q4, q5⟩ := A
  have hin := inb_of (j := j) q2 hjz
  obtain ⟨T', h', X', e', W, st⟩ := stC (s := s.setVm vm0) X0 c1.1 hZ eT Ar hin (g := mkF m pc L (.int x :: .int j :: .ref a :: S)) rfl rfl (hb c1.2.1 hd)
  have V := Arv.set Ar q1 q2 q3 q4 q5 (fits_nar_char x) W i hj hi
  obtain ⟨s₂, o, hs, r⟩ := kk T' h' (hj ▸ W) V (St.wrote c1 X' e' hS hk hZ hown N E hw hC hsf W ha ok)
  exact ⟨s₂, o, st _ hs, r⟩
theorem o_bastore (X : St w Z a0 EL y bytes maxL ret p l e R s m args below meth c T h sf k n) {pc pc' : Nat} {L : Array Slot} {S : List Value} {a : Addr} {kA : ClassId} {z j x : Int32} {vs : List Value} {d : Value} (hd : decode bytes pc = .ok (.bastore, 1)) (hp : pc + 1 = pc') (A : Arv Z h a kA .byte z vs d) (i : Nat) (hj : j.toNatClampNeg = i) (hjz : ¬ j < 0 ∧ j < z) (hi : i < vs.length) (ha : Z.heap.size ≤ a) (ok : Ok Z EL h sf a)
    (kk : ∀ T' h', Wr h h' a i (.int (nar .byte x)) → Arv Z h' a kA .byte z (vs.set i (.int (nar .byte x))) d → St w Z a0 EL y bytes maxL ret p l e R s m args below meth c T' h' sf k n → Go w Z EL C N Q p e s below T' (mkF m pc' L S)) : Go w Z EL C N Q p e s below T (mkF m pc L (.int x :: .int j :: .ref a :: S)) := by
  subst hp
  obtain ⟨c1, vm0, k0, locs, X0, eT, hS, hk, hZ, hown, N, E, hw, hC, hsf⟩ := X
  obtain ⟨cl, Ar, q1, q2, q3, q4, q5⟩ := A
  have hin := inb_of (j := j) q2 hjz
  obtain ⟨T', h', X', e', W, st⟩ := stB (s := s.setVm vm0) X0 c1.1 hZ eT Ar hin (g := mkF m pc L (.int x :: .int j :: .ref a :: S)) rfl rfl (hb c1.2.1 hd)
  have V := Arv.set Ar q1 q2 q3 q4 q5 (fits_nar_byte x) W i hj hi
  obtain ⟨s₂, o, hs, r⟩ := kk T' h' (hj ▸ W) V (St.wrote c1 X' e' hS hk hZ hown N E hw hC hsf W ha ok)
  exact ⟨s₂, o, st _ hs, r⟩
theorem o_aastore (X : St w Z a0 EL y bytes maxL ret p l e R s m args below meth c T h sf k n) {pc pc' : Nat} {L : Array Slot} {S : List Value} {a b : Addr} {kA : ClassId} {K : String} {z j : Int32} {vs : List Value} {d : Value} (hd : decode bytes pc = .ok (.aastore, 1)) (hp : pc + 1 = pc') (A : Arv Z h a kA (.object K) z vs d) (O : Ovr Z kA K) (I : Ins Z h b K true) (i : Nat) (hj : j.toNatClampNeg = i) (hjz : ¬ j < 0 ∧ j < z) (hi : i < vs.length) (ha : Z.heap.size ≤ a) (ok : Ok Z EL h sf a)
    (kk : ∀ T' h', Wr h h' a i (.ref b) → Arv Z h' a kA (.object K) z (vs.set i (.ref b)) d → St w Z a0 EL y bytes maxL ret p l e R s m args below meth c T' h' sf k n → Go w Z EL C N Q p e s below T' (mkF m pc' L S)) : Go w Z EL C N Q p e s below T (mkF m pc L (.ref b :: .int j :: .ref a :: S)) := by
  subst hp
  obtain ⟨c1, vm0, k0, locs, X0, eT, hS, hk, hZ, hown, N, E, hw, hC, hsf⟩ := X
  obtain ⟨cl, Ar, q1, q2, q3, q4, q5⟩ := A
  have hin := inb_of (j := j) q2 hjz
  obtain ⟨T', h', X', e', W, st⟩ := stR (s := s.setVm vm0) X0 c1.1 hZ eT Ar hin rfl (Sto.ofV Ar q1 O I) (g := mkF m pc L (.ref b :: .int j :: .ref a :: S)) rfl rfl (hb c1.2.1 hd)
  have V := Arv.set Ar q1 q2 q3 q4 q5 rfl W i hj hi
  obtain ⟨s₂, o, hs, r⟩ := kk T' h' (hj ▸ W) V (St.wrote c1 X' e' hS hk hZ hown N E hw hC hsf W ha ok)
  exact ⟨s₂, o, st _ hs, r⟩
theorem o_caload (X : St w Z a0 EL y bytes maxL ret p l e R s m args below meth c T h sf k n) {pc pc' : Nat} {L : Array Slot} {S : List Value} {a : Addr} {kA : ClassId} {z j : Int32} {vs : List Value} {d v : Value} (hd : decode bytes pc = .ok (.caload, 1)) (hp : pc + 1 = pc') (A : Arv Z h a kA .char z vs d) (hjz : ¬ j < 0 ∧ j < z) (hv : vs.getD j.toNatClampNeg d = v)
    (kk : Go w Z EL C N Q p e s below T (mkF m pc' L (v :: S))) : Go w Z EL C N Q p e s below T (mkF m pc L (.int j :: .ref a :: S)) := by
  subst hp
  obtain ⟨c1, vm0, k0, locs, X0, eT, hS, hk, hZ, hown, N, E, hw, hC, hsf⟩ := X
  obtain ⟨cl, Ar, q1, q2, q3, q4, q5⟩ := A
  have hin := inb_of (j := j) q2 hjz
  obtain ⟨s₂, o, hs, r⟩ := kk
  exact ⟨s₂, o, X0.caload c1.1 (j := j) (v := v) (by rw [eT]; exact Ar.1) (State.isArrayOf_alike hZ.alike Ar.2.1) Ar.2.2 hin (q4.at hin hv) (g := mkF m pc L (.int j :: .ref a :: S)) rfl rfl (hb c1.2.1 hd) _ hs, r⟩
theorem o_baload (X : St w Z a0 EL y bytes maxL ret p l e R s m args below meth c T h sf k n) {pc pc' : Nat} {L : Array Slot} {S : List Value} {a : Addr} {kA : ClassId} {z j : Int32} {vs : List Value} {d v : Value} (hd : decode bytes pc = .ok (.baload, 1)) (hp : pc + 1 = pc') (A : Arv Z h a kA .byte z vs d) (hjz : ¬ j < 0 ∧ j < z) (hv : vs.getD j.toNatClampNeg d = v)
    (kk : Go w Z EL C N Q p e s below T (mkF m pc' L (v :: S))) : Go w Z EL C N Q p e s below T (mkF m pc L (.int j :: .ref a :: S)) := by
  subst hp
  obtain ⟨c1, vm0, k0, locs, X0, eT, hS, hk, hZ, hown, N, E, hw, hC, hsf⟩ := X
  obtain ⟨cl, Ar, q1, q2, q3, q4, q5⟩ := A
  have hin := inb_of (j := j) q2 hjz
  obtain ⟨s₂, o, hs, r⟩ := kk
  exact ⟨s₂, o, X0.baloadBytes c1.1 (j := j) (v := v) (by rw [eT]; exact Ar.1) (State.isArrayOf_alike hZ.alike Ar.2.1) Ar.2.2 hin (q4.at hin hv) (g := mkF m pc L (.int j :: .ref a :: S)) rfl rfl (hb c1.2.1 hd) _ hs, r⟩
theorem o_aaload (X : St w Z a0 EL y bytes maxL ret p l e R s m args below meth c T h sf k n) {pc pc' : Nat} {L : Array Slot} {S : List Value} {a : Addr} {kA : ClassId} {K : String} {z j : Int32} {vs : List Value} {d v : Value} (hd : decode bytes pc = .ok (.aaload, 1)) (hp : pc + 1 = pc') (A : Arv Z h a kA (.object K) z vs d) (hjz : ¬ j < 0 ∧ j < z) (hv : vs.getD j.toNatClampNeg d = v)
    (kk : Go w Z EL C N Q p e s below T (mkF m pc' L (v :: S))) : Go w Z EL C N Q p e s below T (mkF m pc L (.int j :: .ref a :: S)) := by
  subst hp
  obtain ⟨c1, vm0, k0, locs, X0, eT, hS, hk, hZ, hown, N, E, hw, hC, hsf⟩ := X
  obtain ⟨cl, Ar, q1, q2, q3, q4, q5⟩ := A
  have hin := inb_of (j := j) q2 hjz
  obtain ⟨s₂, o, hs, r⟩ := kk
  exact ⟨s₂, o, X0.aaload c1.1 (j := j) (v := v) (by rw [eT]; exact Ar.1) (State.isArrayOf_alike hZ.alike Ar.2.1) rfl Ar.2.2 hin (q4.at hin hv) (g := mkF m pc L (.int j :: .ref a :: S)) rfl rfl (hb c1.2.1 hd) _ hs, r⟩
theorem o_arraylength (X : St w Z a0 EL y bytes maxL ret p l e R s m args below meth c T h sf k n) {pc pc' : Nat} {L : Array Slot} {S : List Value} {a : Addr} {kA : ClassId} {ty : FieldType} {z : Int32} {vs : List Value} {d : Value} (hd : decode bytes pc = .ok (.arraylength, 1)) (hp : pc + 1 = pc') (A : Arv Z h a kA ty z vs d)
    (kk : Go w Z EL C N Q p e s below T (mkF m pc' L (.int z :: S))) : Go w Z EL C N Q p e s below T (mkF m pc L (.ref a :: S)) := by
  subst hp
  obtain ⟨c1, vm0, k0, locs, X0, eT, hS, hk, hZ, hown, N, E, hw, hC, hsf⟩ := X
  obtain ⟨cl, Ar, q1, q2, q3, q4, q5⟩ := A
  obtain ⟨s₂, o, hs, r⟩ := kk
  refine ⟨s₂, o, X0.arraylength c1.1 (by rw [eT]; exact Ar.1) (State.isArrayOf_alike hZ.alike Ar.2.1) (g := mkF m pc L (.ref a :: S)) rfl rfl (hb c1.2.1 hd) _ ?_, r⟩
  rw [len_of q2 q3]; exact hs
theorem o_checkcast (X : St w Z a0 EL y bytes maxL ret p l e R s m args below meth c T h sf k n) {pc pc' : Nat} {L : Array Slot} {S : List Value} {idx : Nat} {K : String} {a : Addr} (hd : decode bytes pc = .ok (.checkcast idx, 3)) (hp : pc + 3 = pc') (w1 : (Cond.classLink y.cls idx K).before a0 Z = true) (F : Ins Z h a K true)
    (kk : ∀ T', St w Z a0 EL y bytes maxL ret p l e R s m args below meth c T' h sf k n → Go w Z EL C N Q p e s below T' (mkF m pc' L (.ref a :: S))) : Go w Z EL C N Q p e s below T (mkF m pc L (.ref a :: S)) := by
  subst hp
  obtain ⟨⟨hx, hby, c1⟩, vm0, k0, locs, X0, eT, hS, hk, hZ, hown, N, E, hw, hC, hsf⟩ := X
  obtain ⟨T', X', e', st⟩ := castY (s := s.setVm vm0) X0 hx hZ hown w1 eT F (g := mkF m pc L (.ref a :: S)) rfl rfl (hb hby hd)
  obtain ⟨s₂, o, hs, r⟩ := kk T' ⟨⟨hx, hby, c1⟩, vm0, k0, locs, X', e', hS, hk, hZ, hown, N, E, hw, hC, hsf⟩
  exact ⟨s₂, o, st _ hs, r⟩
theorem o_instanceof_y (X : St w Z a0 EL y bytes maxL ret p l e R s m args below meth c T h sf k n) {pc pc' : Nat} {L : Array Slot} {S : List Value} {idx : Nat} {K : String} {a : Addr} (hd : decode bytes pc = .ok (.instanceof idx, 3)) (hp : pc + 3 = pc') (w1 : (Cond.classLink y.cls idx K).before a0 Z = true) (F : Ins Z h a K true)
    (kk : ∀ T', St w Z a0 EL y bytes maxL ret p l e R s m args below meth c T' h sf k n → Go w Z EL C N Q p e s below T' (mkF m pc' L (.int 1 :: S))) : Go w Z EL C N Q p e s below T (mkF m pc L (.ref a :: S)) := by
  subst hp
  obtain ⟨⟨hx, hby, c1⟩, vm0, k0, locs, X0, eT, hS, hk, hZ, hown, N, E, hw, hC, hsf⟩ := X
  obtain ⟨T', X', e', st⟩ := instY (s := s.setVm vm0) X0 hx hZ hown w1 eT F (g := mkF m pc L (.ref a :: S)) rfl rfl (hb hby hd)
  obtain ⟨s₂, o, hs, r⟩ := kk T' ⟨⟨hx, hby, c1⟩, vm0, k0, locs, X', e', hS, hk, hZ, hown, N, E, hw, hC, hsf⟩
  exact ⟨s₂, o, st _ hs, r⟩
theorem o_instanceof_n (X : St w Z a0 EL y bytes maxL ret p l e R s m args below meth c T h sf k n) {pc pc' : Nat} {L : Array Slot} {S : List Value} {idx : Nat} {K D : String} {a : Addr} (hd : decode bytes pc = .ok (.instanceof idx, 3)) (hp : pc + 3 = pc') (w1 : (Cond.classLink y.cls idx K).before a0 Z = true) (E0 : Exa Z h a D) (F : ∃ c t, Z.vm.findClass D = some c ∧ Z.vm.findClass K = some t ∧ Z.vm.assignable c t = false)
    (kk : ∀ T', St w Z a0 EL y bytes maxL ret p l e R s m args below meth c T' h sf k n → Go w Z EL C N Q p e s below T' (mkF m pc' L (.int 0 :: S))) : Go w Z EL C N Q p e s below T (mkF m pc L (.ref a :: S)) := by
  subst hp
  obtain ⟨⟨hx, hby, c1⟩, vm0, k0, locs, X0, eT, hS, hk, hZ, hown, N, E, hw, hC, hsf⟩ := X
  obtain ⟨T', X', e', st⟩ := instNo (s := s.setVm vm0) X0 hx hZ hown w1 eT E0 F (g := mkF m pc L (.ref a :: S)) rfl rfl (hb hby hd)
  obtain ⟨s₂, o, hs, r⟩ := kk T' ⟨⟨hx, hby, c1⟩, vm0, k0, locs, X', e', hS, hk, hZ, hown, N, E, hw, hC, hsf⟩
  exact ⟨s₂, o, st _ hs, r⟩
theorem o_instanceof_null (X : St w Z a0 EL y bytes maxL ret p l e R s m args below meth c T h sf k n) {pc pc' : Nat} {L : Array Slot} {S : List Value} {idx : Nat} (hd : decode bytes pc = .ok (.instanceof idx, 3)) (hp : pc + 3 = pc')
    (kk : Go w Z EL C N Q p e s below T (mkF m pc' L (.int 0 :: S))) : Go w Z EL C N Q p e s below T (mkF m pc L (.null :: S)) := by
  subst hp
  obtain ⟨⟨hx, hby, c1⟩, vm0, k0, locs, X0, -⟩ := X
  obtain ⟨s₂, o, hs, r⟩ := kk
  exact ⟨s₂, o, X0.instanceofNull hx (g := mkF m pc L (.null :: S)) rfl rfl (hb hby hd) _ hs, r⟩
theorem o_checkcast_null (X : St w Z a0 EL y bytes maxL ret p l e R s m args below meth c T h sf k n) {pc pc' : Nat} {L : Array Slot} {S : List Value} {idx : Nat} (hd : decode bytes pc = .ok (.checkcast idx, 3)) (hp : pc + 3 = pc')
    (kk : Go w Z EL C N Q p e s below T (mkF m pc' L (.null :: S))) : Go w Z EL C N Q p e s below T (mkF m pc L (.null :: S)) := by
  subst hp
  obtain ⟨⟨hx, hby, c1⟩, vm0, k0, locs, X0, -⟩ := X
  obtain ⟨s₂, o, hs, r⟩ := kk
  exact ⟨s₂, o, X0.checkcastNull hx (g := mkF m pc L (.null :: S)) rfl rfl (hb hby hd) _ hs, r⟩
theorem o_ldcI (X : St w Z a0 EL y bytes maxL ret p l e R s m args below meth c T h sf k n) {pc pc' : Nat} {L : Array Slot} {S : List Value} {idx : Nat} {v : Int32} (hd : decode bytes pc = .ok (.ldc idx, 2)) (hp : pc + 2 = pc') (w1 : (Cond.constant y.cls idx v).before a0 Z = true)
    (kk : Go w Z EL C N Q p e s below T (mkF m pc' L (.int v :: S))) : Go w Z EL C N Q p e s below T (mkF m pc L S) := by
  subst hp
  obtain ⟨⟨hx, hby, c1⟩, vm0, k0, locs, X0, eT, hS, hk, hZ, hown, -⟩ := X
  obtain ⟨s₂, o, hs, r⟩ := kk
  exact ⟨s₂, o, X0.ldcInt hx hown (mvT (s := s.setVm vm0) hZ w1) (g := mkF m pc L S) rfl (hb hby hd) _ hs, r⟩
/-- a String constant, its text not read -/
theorem o_ldcO (X : St w Z a0 EL y bytes maxL ret p l e R s m args below meth c T h sf k n) (hwt : w = true) {pc pc' : Nat} {L : Array Slot} {S : List Value} {idx nn : Nat} {text : String} (hd : decode bytes pc = .ok (.ldc idx, 2)) (hp : pc + 2 = pc') (w1 : (Cond.stringLink y.cls idx text).before a0 Z = true) (wS : ∀ a ∈ Bundle.stringAtoms, a.before a0 Z = true) (hn : 4 * text.toList.length ≤ nn) (hbig : nn ≤ 536870912) (hc : k + 2 ≤ R.cells) (hl : n + (nn + 4) ≤ R.slots)
    (kk : ∀ T' h' a, Ext h h' → St w Z a0 EL y bytes maxL ret p l e R s m args below meth c T' h' sf (k + 2) (n + (nn + 4)) → Go w Z EL C N Q p e s below T' (mkF m pc' L (.ref a :: S))) : Go w Z EL C N Q p e s below T (mkF m pc L S) := by
  subst hp
  obtain ⟨c1, vm0, k0, locs, X0, eT, hS, hk, hZ, hown, N, E, hw, hC, hsf⟩ := X
  obtain ⟨a, T', h', k1, X', e', E2, hS', hk', hZ', hown', hC', -, st⟩ := ldcOH X0 c1.1 hZ hown w1 wS eT hS hk c1.2.2.2.2.2.2 hC.1 (g := mkF m pc L S) rfl (hb c1.2.1 hd) hn hbig hc hl
  obtain ⟨s₂, o, hs, r⟩ := kk T' h' a E2 ⟨c1, T'.vm, k1, locs, X', e', hS', hk', hZ', hown', N, ⟨Nat.le_trans E.1 E2.1, fun a q r => E2.2 _ _ (E.2 _ _ r)⟩, (fun q => by rw [hwt] at q; cases q), hC.trans hC', fun x hx => ⟨Nat.lt_of_lt_of_le (hsf x hx).1 E2.1, hC'.safe (hsf x hx).1 (hsf x hx).2⟩⟩
  exact ⟨s₂, o, st _ hs, r⟩
/-- a String constant whose text is read -/
theorem o_ldcT (X : St w Z a0 EL y bytes maxL ret p l e R s m args below meth c T h sf k n) (hwt : w = true) {pc pc' : Nat} {L : Array Slot} {S : List Value} {idx nn : Nat} {text : String} (hd : decode bytes pc = .ok (.ldc idx, 2)) (hp : pc + 2 = pc') (w1 : (Cond.stringLink y.cls idx text).before a0 Z = true) (wS : ∀ a ∈ Bundle.stringAtoms, a.before a0 Z = true) (hmem : (y.cls, idx) ∈ EL) {vs : List Value} {z : Int32} (ht : (∀ c ∈ text.toList, c.toNat < 256) ∧ text.toList.map (fun c => Value.int (Jvm.Lit.byteI c.toNat.toUInt16)) = vs) (hz : ¬ z < 0) (hvl : z.toNatClampNeg = vs.length) (hn : 4 * text.toList.length ≤ nn) (hbig : nn ≤ 536870912) (hc : k + 2 ≤ R.cells) (hl : n + (nn + 4) ≤ R.slots)
    (kk : ∀ T' h' a b kA, Ext h h' → Exa Z h' a "java/lang/String" → Fld Z h' a "java/lang/String" "coder" "B" (.int 0) → Fld Z h' a "java/lang/String" "value" "[B" (.ref b) → Arv Z h' b kA .byte z vs (.int 0) → (∀ x ∈ sf, x ≠ a ∧ x ≠ b) → St w Z a0 EL y bytes maxL ret p l e R s m args below meth c T' h' sf (k + 2) (n + (nn + 4)) → Go w Z EL C N Q p e s below T' (mkF m pc' L (.ref a :: S))) : Go w Z EL C N Q p e s below T (mkF m pc L S) := by
  subst hp
  obtain ⟨c1, vm0, k0, locs, X0, eT, hS, hk, hZ, hown, N, E, hw, hC, hsf⟩ := X
  obtain ⟨a, T', h', k1, b, kA, X', e', E2, hS', hk', hZ', hown', hE, hF1, hF2, hA, -, -, hC', -, hne, st⟩ := ldcCH X0 c1.1 hZ hown w1 wS eT hS hk c1.2.2.2.2.2.2 hmem hC.1 ht hz hvl (g := mkF m pc L S) rfl (hb c1.2.1 hd) hn hbig hc hl
  have hsf' : ∀ x ∈ sf, x < h'.size ∧ Safe Z EL T'.vm h' x := fun x hx => ⟨Nat.lt_of_lt_of_le (hsf x hx).1 E2.1, hC'.safe (hsf x hx).1 (hsf x hx).2⟩
  obtain ⟨s₂, o, hs, r⟩ := kk T' h' a b kA E2 hE hF1 hF2 hA (fun x hx => hne x (hsf' x hx).2) ⟨c1, T'.vm, k1, locs, X', e', hS', hk', hZ', hown', N, ⟨Nat.le_trans E.1 E2.1, fun a q r => E2.2 _ _ (E.2 _ _ r)⟩, (fun q => by rw [hwt] at q; cases q), hC.trans hC', hsf'⟩
  exact ⟨s₂, o, st _ hs, r⟩
theorem o_initO (X : St w Z a0 EL y bytes maxL ret p l e R s m args below meth c T h sf k n) {pc pc' : Nat} {L : Array Slot} {S : List Value} {idx : Nat} {a : Addr} (hd : decode bytes pc = .ok (.invokespecial idx, 3)) (hp : pc + 3 = pc') (w1 : (Cond.methodLink y.cls idx Lib.objectInit).before a0 Z = true) (w2 : (Cond.instanceMethod Lib.objectInit).before a0 Z = true) (w3 : (Cond.code Lib.objectInit ⟨#[0xb1]⟩ 1 none).before a0 Z = true) (hsz : L.size = maxL) (hf : 1 ≤ R.frames) (hl : (S.map fun v => v.category).sum + 12 ≤ R.locals)
    (kk : ∀ T', St w Z a0 EL y bytes maxL ret p l e R s m args below meth c T' h sf k n → Go w Z EL C N Q p e s below T' (mkF m pc' L S)) : Go w Z EL C N Q p e s below T (mkF m pc L (.ref a :: S)) := by
  subst hp
  obtain ⟨c1, vm0, k0, locs, X0, eT, hS, hk, hZ, hown, N, E, hw, hC, hsf⟩ := X
  obtain ⟨T', X', e', st⟩ := initO (s := s.setVm vm0) X0 c1.1 hZ hown w1 w2 w3 eT (g := mkF m pc L (.ref a :: S)) rfl (hsz.trans c1.2.2.1.symm) rfl (hb c1.2.1 hd) hf (W := (S.map fun v => v.category).sum) (by show 2 * 0 + _ ≤ _; omega) hl
  obtain ⟨s₂, o, hs, r⟩ := kk T' ⟨c1, vm0, k0, locs, X', e', hS, hk, hZ, hown, N, E, hw, hC, hsf⟩
  exact ⟨s₂, o, st _ hs, r⟩
theorem EndAt.mono {o : Outcome} {t : State} {L : List Loc} {k1 n1 : Nat} (q : EndAt w s o t L k n) (hk : k ≤ k1) (hn : n ≤ n1) : EndAt w s o t L k1 n1 := by
  cases w
  · exact (show FrameEnd s o t L k1 n1 from ⟨(show FrameEnd s o t L k n from q).1, (show FrameEnd s o t L k n from q).2.1, (show FrameEnd s o t L k n from q).2.2.mono hk hn⟩)
  · obtain ⟨a, b, d, f⟩ := (show ReturnedEndW s o t L k n from q)
    exact (show ReturnedEndW s o t L k1 n1 from ⟨a, b, d, f.mono hk hn⟩)
/-- the way out, whatever is returned -/
theorem leaveG (X : St w Z a0 EL y bytes maxL ret p l e R s m args below meth c T h sf k n) {v : Option Value} {g : JFrame} (hv : ret = none → v = none) (hC : k ≤ C) (hN : n ≤ N) (q : ∀ P : Addr → Prop, (∀ x ∈ sf, P x) → Q v h P)
    (f : ∀ (vm0 : Vm) (locs : List Loc) (fs : List Frame), Stand p l e R (s.setVm vm0) m args below meth c T locs k n → p.tables.exec = Jvm.exec → meth.sig.returnType = ret → c.code = bytes → (∀ (f : JFrame) (acts : List Action), f.method = m → f.locked = none → f.entered = [] → (doReturn e (T.setTop f) acts v).1 = T.setFrames fs) → Steps p.tables e below (T.setTop g) (T.setFrames fs)) : Go w Z EL C N Q p e s below T g := by
  obtain ⟨⟨hx, hby, hml, hret, hlk, hnm, hEW⟩, vm0, k0, locs, X0, eT, hS, hk, hZ, hown, NN, E, hw, hCH, hsf⟩ := X
  have A := CHv.at X0 hZ hEW hCH.1
  have hq : Q v T.heap (Safe Z EL T.vm T.heap) := by
    rw [eT]; exact q _ fun x hx => A.safe (hsf x hx).1 (hsf x hx).2
  have hCe : CHr Z EL s.vm s.heap T.vm T.heap := by rw [eT]; exact hCH.trans A
  have hE : Ext Z.heap T.heap := by rw [eT]; exact E
  cases w with
  | true =>
    obtain ⟨fs, hr, hrun, hended, hW⟩ := X0.leaveW hS (by rw [eT]; exact hk) (v := v) (fun z => hv (hret.symm.trans z)) hlk
    exact ⟨_, _, f vm0 locs fs X0 hx hret hby hr, hrun, hended, v, locs, rfl, ⟨NN, hE, hCe, hq⟩, EndAt.mono (w := true) hW hC hN⟩
  | false =>
    have e0 := (hw rfl).1
    subst e0
    obtain ⟨fs, hr, hrun, hended, hW, hsame⟩ := Stand.leave (s := s) X0 (v := v) (fun z => hv (hret.symm.trans z)) hlk
    exact ⟨_, _, f s.vm locs fs X0 hx hret hby hr, hrun, hended, v, locs, rfl, ⟨NN, hE, hCe, hq⟩, EndAt.mono (w := false) (show FrameEnd s _ _ _ _ _ from ⟨⟨v, rfl⟩, hW, hsame⟩) hC hN⟩
theorem o_return (X : St w Z a0 EL y bytes maxL none p l e R s m args below meth c T h sf k n) {pc : Nat} {L : Array Slot} (hd : decode bytes pc = .ok (.return_, 1)) (hC : k ≤ C) (hN : n ≤ N) (q : ∀ P : Addr → Prop, (∀ x ∈ sf, P x) → Q none h P) : Go w Z EL C N Q p e s below T (mkF m pc L []) :=
  leaveG X (v := none) (fun _ => rfl) hC hN q fun vm0 locs fs X0 hx hret hby hr => X0.returnOut hx hret (hb hby hd) hr
theorem o_areturn (X : St w Z a0 EL y bytes maxL ret p l e R s m args below meth c T h sf k n) {pc : Nat} {L : Array Slot} {v : Value} {S : List Value} {t : FieldType} (hd : decode bytes pc = .ok (.areturn, 1)) (ht : ret = some t) (htr : t.isReference = true) (hv : v.isRef = true) (hC : k ≤ C) (hN : n ≤ N) (q : ∀ P : Addr → Prop, (∀ x ∈ sf, P x) → Q (some v) h P) : Go w Z EL C N Q p e s below T (mkF m pc L (v :: S)) :=
  leaveG X (v := some v) (fun z => by rw [ht] at z; cases z) hC hN q fun vm0 locs fs X0 hx hret hby hr => retOut X0 hx (hret.trans ht) (by cases t <;> cases v <;> first | rfl | (simp [FieldType.isReference] at htr; done) | (simp [Value.isRef] at hv; done)) (Or.inr (Or.inr (Or.inr (Or.inr ⟨rfl, htr, hv⟩)))) (hb hby hd) hr
theorem o_ireturn (X : St w Z a0 EL y bytes maxL ret p l e R s m args below meth c T h sf k n) {pc : Nat} {L : Array Slot} {x v : Int32} {S : List Value} {t : FieldType} (hd : decode bytes pc = .ok (.ireturn, 1)) (ht : ret = some t) (htr : t = .boolean ∨ t = .byte ∨ t = .char ∨ t = .short) (hv : nar t x = v) (hC : k ≤ C) (hN : n ≤ N) (q : ∀ P : Addr → Prop, (∀ x ∈ sf, P x) → Q (some (.int v)) h P) : Go w Z EL C N Q p e s below T (mkF m pc L (.int x :: S)) := by
  subst hv
  exact leaveG X (v := some (.int (nar t x))) (fun z => by rw [ht] at z; cases z) hC hN q fun vm0 locs fs X0 hx hret hby hr => retN X0 hx (hret.trans ht) htr (hb hby hd) hr
theorem o_ireturnI (X : St w Z a0 EL y bytes maxL ret p l e R s m args below meth c T h sf k n) {pc : Nat} {L : Array Slot} {x : Int32} {S : List Value} (hd : decode bytes pc = .ok (.ireturn, 1)) (ht : ret = some .int) (hC : k ≤ C) (hN : n ≤ N) (q : ∀ P : Addr → Prop, (∀ x ∈ sf, P x) → Q (some (.int x)) h P) : Go w Z EL C N Q p e s below T (mkF m pc L (.int x :: S)) :=
  leaveG X (v := some (.int x)) (fun z => by rw [ht] at z; cases z) hC hN q fun vm0 locs fs X0 hx hret hby hr => retOut X0 hx (hret.trans ht) rfl (Or.inl ⟨rfl, Or.inl rfl, x, rfl⟩) (hb hby hd) hr
theorem o_lreturn (X : St w Z a0 EL y bytes maxL ret p l e R s m args below meth c T h sf k n) {pc : Nat} {L : Array Slot} {x : Int64} {S : List Value} (hd : decode bytes pc = .ok (.lreturn, 1)) (ht : ret = some .long) (hC : k ≤ C) (hN : n ≤ N) (q : ∀ P : Addr → Prop, (∀ x ∈ sf, P x) → Q (some (.long x)) h P) : Go w Z EL C N Q p e s below T (mkF m pc L (.long x :: S)) :=
  leaveG X (v := some (.long x)) (fun z => by rw [ht] at z; cases z) hC hN q fun vm0 locs fs X0 hx hret hby hr => retOut X0 hx (hret.trans ht) rfl (Or.inr (Or.inl ⟨rfl, rfl, x, rfl⟩)) (hb hby hd) hr
/-- what a callee's contract says of the point behind the call -/
def PostC (Z : State) (EL : List (String × Nat)) (rm : Room) (Q' : Option Value → Heap → (Addr → Prop) → Prop) (vmB : Vm) (h : Heap) (A : Pt) (v : Option Value) (B : Pt) : Prop :=
  ∃ L, (Fr Z.heap.size L ∧ Ext Z.heap B.U.heap ∧ Q' v B.U.heap (Safe Z EL B.U.vm B.U.heap)) ∧ B.locs = A.locs ++ L ∧ B.cells = A.cells + rm.cells ∧ B.slots = A.slots + rm.slots ∧ CHr Z EL vmB h B.U.vm B.U.heap
def PreC (as : Array Value) (rm R : Room) (h : Heap) (A : Pt) (a : Array Value) : Prop := a = as ∧ A.U.heap = h ∧ A.cells + rm.cells ≤ R.cells ∧ A.slots + rm.slots ≤ R.slots
theorem Ct.backW {vm0 : Vm} {len W : Nat} (hC : Ct true Z a0 EL l y bytes maxL ret rm as h sf0 Q) (hext : Ext Z.heap h) (hZ : Z.Warmed39 vm0) (wc : (Cond.code y bytes maxL ret).before a0 Z = true) (wz : (Cond.initialized y.cls).before a0 Z = true) (hf : rm.frames + 1 ≤ R.frames) (hl : W + (maxL + 11) + rm.locals ≤ R.locals) (hEL : EW Z a0 EL) (H : CHv Z EL vm0 h) (hsf : ∀ x ∈ sf0, x < h.size ∧ Safe Z EL vm0 h x) :
    BackS l R p e below (s.setVm vm0) args y len W (PreC as rm R h) (fun A _ v B => PostC Z EL rm Q vm0 h A v B) :=
  BackS.of_freeW (bytes := bytes) (maxL := maxL) (ret := ret) (E := fun _ first o t L k n => k = rm.cells ∧ n = rm.slots ∧ (∃ v, o = .returned v ∧ Fr Z.heap.size L ∧ Ext Z.heap t.heap ∧ Q v t.heap (Safe Z EL t.vm t.heap)) ∧ CHr Z EL first.vm first.heap t.vm t.heap) (hC [] hEL hext) hf hl
    (fun m meth c A a Y hp => have hU : Z.Warmed39 A.U.vm := wtrans (s := s.setVm vm0) hZ Y.warmed
      ⟨by show (Cond.and _ .tt).before a A.U = true; rw [Cond.before_and, mv hU wc]; rfl, mv hU wc, mv hU wz, hp.2.2.1, hp.2.2.2⟩)
    (fun m meth c A a g mk Y hp => ⟨hp.1, wtrans (s := s.setVm vm0) hZ Y.warmed, hp.2.1, (CHv.at Y hZ hEL H).1, fun x hx => ⟨(hsf x hx).1, (CHv.at Y hZ hEL H).safe (hsf x hx).1 (hsf x hx).2⟩⟩) (fun _ _ _ _ _ _ _ _ _ => trivial)
    (fun _ _ _ _ ⟨v, L, h1, ⟨n1, n2, n3, n4⟩, h4⟩ => ⟨L, _, _, h4, rfl, rfl, ⟨v, h1, n1, n2, n4⟩, n3⟩)
    (fun m meth c A a g mk v t L k n Y hp _ _ ⟨e1, e2, ⟨v', e3, e4⟩, e5⟩ => by
      cases e3; subst e1 e2
      refine ⟨L, e4, rfl, rfl, rfl, (CHv.at Y hZ hEL H).trans ?_⟩
      rw [← hp.2.1]; exact e5)
theorem Ct.backP {len W : Nat} (hC : Ct false Z a0 EL l y bytes maxL ret rm as h sf0 Q) (hext : Ext Z.heap h) (hZ : Z.Warmed39 s.vm) (wc : (Cond.code y bytes maxL ret).before a0 Z = true) (wz : (Cond.initialized y.cls).before a0 Z = true) (hf : rm.frames + 1 ≤ R.frames) (hl : W + (maxL + 11) + rm.locals ≤ R.locals) (hEL : EW Z a0 EL) (H : CHv Z EL s.vm h) (hsf : ∀ x ∈ sf0, x < h.size ∧ Safe Z EL s.vm h x) :
    Back l R p e below s args y len W (PreC as rm R h) (fun A _ v B => PostC Z EL rm Q s.vm h A v B) :=
  Back.of_free (bytes := bytes) (maxL := maxL) (ret := ret) (E := fun _ first o t L k n => k = rm.cells ∧ n = rm.slots ∧ (∃ v, o = .returned v ∧ Fr Z.heap.size L ∧ Ext Z.heap t.heap ∧ Q v t.heap (Safe Z EL t.vm t.heap)) ∧ CHr Z EL first.vm first.heap t.vm t.heap) (hC [] hEL hext) hf hl
    (fun m meth c A a Y hp => have hU : Z.Warmed39 A.U.vm := wtrans hZ Y.warmed
      ⟨by show (Cond.and _ .tt).before a A.U = true; rw [Cond.before_and, mv hU wc]; rfl, mv hU wc, mv hU wz, hp.2.2.1, hp.2.2.2⟩)
    (fun m meth c A a g mk Y hp => ⟨hp.1, wtrans hZ Y.warmed, hp.2.1, (CHv.at (vm0 := s.vm) Y hZ hEL H).1, fun x hx => ⟨(hsf x hx).1, (CHv.at (vm0 := s.vm) Y hZ hEL H).safe (hsf x hx).1 (hsf x hx).2⟩⟩) (fun _ _ _ _ _ _ _ _ _ => trivial)
    (fun _ _ _ _ ⟨v, L, h1, ⟨n1, n2, n3, n4⟩, h4⟩ => ⟨L, _, _, h4, rfl, rfl, ⟨v, h1, n1, n2, n4⟩, n3⟩)
    (fun m meth c A a g mk v t L k n Y hp _ _ ⟨e1, e2, ⟨v', e3, e4⟩, e5⟩ => by
      cases e3; subst e1 e2
      refine ⟨L, e4, rfl, rfl, rfl, (CHv.at (vm0 := s.vm) Y hZ hEL H).trans ?_⟩
      rw [← hp.2.1]; exact e5)
/-- what is handed on behind a call -/
def After (w : Bool) (Z : State) (a0 : Array Value) (EL : List (String × Nat)) (y : MethodName) (bytes : ByteArray) (maxL : Nat) (ret : Option FieldType) (p : Program) (l : Launch) (e : Env) (R : Room) (s : State) (m : MethodId) (args : Array Value) (below : List Frame) (meth : Method) (c : Code) (sf : List Addr) (k n : Nat) (Q' : Option Value → Heap → (Addr → Prop) → Prop) (v : Option Value) (T' : State) : Prop :=
  ∃ (h' : Heap) (S : Addr → Prop), Q' v h' S ∧ ∀ xs : List Addr, (∀ x ∈ xs, x < h'.size ∧ S x) → St w Z a0 EL y bytes maxL ret p l e R s m args below meth c T' h' (xs ++ sf) k n
theorem After.wide {vm0 : Vm} {k0 : Nat} {locs : List Loc} {v : Option Value} {Q' : Option Value → Heap → (Addr → Prop) → Prop} {B : Pt} (c1 : p.tables.exec = Jvm.exec ∧ c.code = bytes ∧ c.maxLocals = maxL ∧ meth.sig.returnType = ret ∧ meth.locks = false ∧ meth.name = y.name ∧ EW Z a0 EL)
    (eT : T.heap = h) (hS : s.Since vm0 k0) (hk : k0 ≤ h.size) (hZ : Z.Warmed39 vm0) (hown : vm0.findClass y.cls = some m.cls) (N : Fr Z.heap.size locs) (hC : CHr Z EL s.vm s.heap vm0 h) (hsf : ∀ x ∈ sf, x < h.size ∧ Safe Z EL vm0 h x) {vm1 : Vm}
    (X' : Stand p l e R ((s.setVm vm0).setVm B.U.vm) m args below meth c B.U B.locs B.cells B.slots) (h2 : (s.setVm vm0).Since B.U.vm B.U.heap.size) (gr : T.heap.size ≤ B.U.heap.size) (post : PostC Z EL rm Q' vm0 h ⟨T.setVm vm1, locs, k, n⟩ v B) : After true Z a0 EL y bytes maxL ret p l e R s m args below meth c sf (k + rm.cells) (n + rm.slots) Q' v B.U := by
  obtain ⟨L, ⟨q1, q2, q3⟩, q4, q5, q6, q7⟩ := post
  obtain ⟨Y, hS2, hZ2, hown2⟩ := rebS hS hk X' h2 (eT ▸ gr) hZ hown
  refine ⟨_, _, q3, fun xs hxs => ⟨c1, B.U.vm, B.U.heap.size, B.locs, ?_, rfl, hS2, Nat.le_refl _, hZ2, hown2, ?_, q2, fun q => Bool.noConfusion q, hC.trans q7, fun x hx => ?_⟩⟩
  · rw [q5, q6] at Y; exact Y
  · rw [q4]; exact N.app q1
  · rcases List.mem_append.mp hx with hx | hx
    · exact hxs x hx
    · exact ⟨Nat.lt_of_lt_of_le (hsf x hx).1 q7.2.1, q7.safe (hsf x hx).1 (hsf x hx).2⟩
theorem After.plain {locs : List Loc} {k0 : Nat} {v : Option Value} {Q' : Option Value → Heap → (Addr → Prop) → Prop} {B : Pt} (hE0 : EL = []) (c1 : p.tables.exec = Jvm.exec ∧ c.code = bytes ∧ c.maxLocals = maxL ∧ meth.sig.returnType = ret ∧ meth.locks = false ∧ meth.name = y.name ∧ EW Z a0 EL)
    (hS : s.Since s.vm k0) (hk : k0 ≤ h.size) (hZ : Z.Warmed39 s.vm) (hown : s.vm.findClass y.cls = some m.cls) (N : Fr Z.heap.size locs) (hC : CHr Z EL s.vm s.heap s.vm h) (hsf : ∀ x ∈ sf, x < h.size ∧ Safe Z EL s.vm h x) {vm1 : Vm}
    (X' : Stand p l e R s m args below meth c B.U B.locs B.cells B.slots) (post : PostC Z EL rm Q' s.vm h ⟨T.setVm vm1, locs, k, n⟩ v B) : After false Z a0 EL y bytes maxL ret p l e R s m args below meth c sf (k + rm.cells) (n + rm.slots) Q' v B.U := by
  obtain ⟨L, ⟨q1, q2, q3⟩, q4, q5, q6, q7⟩ := post
  have sz : h.size ≤ B.U.heap.size := q7.2.1
  subst hE0
  refine ⟨_, _, q3, fun xs hxs => ⟨c1, s.vm, k0, B.locs, ?_, rfl, hS, Nat.le_trans hk sz, hZ, hown, ?_, q2, fun q => ⟨rfl, rfl⟩, ⟨fun p hp => (nomatch hp), Nat.le_trans hC.2.1 sz, fun y ⟨p, hp, _⟩ => (nomatch hp)⟩, fun x hx => ⟨?_, fun ⟨p, hp, _⟩ => (nomatch hp)⟩⟩⟩
  · rw [q5, q6] at X'; exact X'
  · rw [q4]; exact N.app q1
  · rcases List.mem_append.mp hx with hx | hx
    · exact (hxs x hx).1
    · exact Nat.lt_of_lt_of_le (hsf x hx).1 sz
theorem o_static (X : St w Z a0 EL y bytes maxL ret p l e R s m args below meth c T h sf k n) {pc pc' : Nat} {L : Array Slot} {rest : List Value} {idx : Nat} {z : MethodName} {bz : ByteArray} {mz : Nat} {rz : Option FieldType} {Q' : Option Value → Heap → (Addr → Prop) → Prop} (hd : decode bytes pc = .ok (.invokestatic idx, 3)) (hp : pc + 3 = pc')
    (w1 : (Cond.methodLink y.cls idx z).before a0 Z = true) (w2 : (Cond.static z).before a0 Z = true) (w3 : (Cond.initialized z.cls).before a0 Z = true) (w4 : (Cond.code z bz mz rz).before a0 Z = true) (hy : z.cls ≠ "java/lang/invoke/MethodHandle" ∧ z.cls ≠ "java/lang/invoke/VarHandle")
    (hC' : Ct w Z a0 EL l z bz mz rz rm as h sf0 Q') (hok : ∀ x ∈ sf0, x < h.size ∧ Ok Z EL h sf x) (argsL : List Value) (hargs : argsL.toArray = as) {S0 : List Value} (hst : S0 = argsL.reverse ++ rest) {ps : List FieldType} {rr : Option FieldType} (hpd : parseMethodDescriptor z.desc = some ⟨ps, rr⟩) (hlen : argsL.length = ps.length) (hsz : L.size = maxL)
    (hf : rm.frames + 1 ≤ R.frames) (hl : (rest.map fun v => v.category).sum + (mz + 11) + rm.locals ≤ R.locals) (hc : k + rm.cells ≤ R.cells) (hs : n + rm.slots ≤ R.slots)
    (kk : ∀ (v : Option Value) (T' : State), After w Z a0 EL y bytes maxL ret p l e R s m args below meth c sf (k + rm.cells) (n + rm.slots) Q' v T' → Go w Z EL C N Q p e s below T' (mkF m pc' L (v.toList ++ rest))) : Go w Z EL C N Q p e s below T (mkF m pc L S0) := by
  subst hp hargs hst
  obtain ⟨c1, vm0, k0, locs, X0, eT, hS, hk, hZ, hown, NN, E, hw, hC, hsf⟩ := X
  have hso : ∀ x ∈ sf0, x < h.size ∧ Safe Z EL vm0 h x := fun x hx => ⟨(hok x hx).1, (hok x hx).2.safe hZ.alike hsf⟩
  cases w with
  | true =>
    obtain ⟨v, vm1, B, -, X', h2, gr, post, st⟩ := callSS (s := s.setVm vm0) X0 c1.1 hown (mvT (s := s.setVm vm0) hZ w1) (mvT (s := s.setVm vm0) hZ w2) (mvT (s := s.setVm vm0) hZ w3) (mvT (s := s.setVm vm0) hZ w4) hy (hC'.backW E hZ w4 w3 hf hl c1.2.2.2.2.2.2 hC.1 hso) (g := mkF m pc L (argsL.reverse ++ rest)) rfl (hsz.trans c1.2.2.1.symm) (lenOf hpd hlen) rfl (by show 2 * 0 + _ ≤ _; omega) (hb c1.2.1 hd) (fun _ _ => ⟨rfl, eT, hc, hs⟩)
    obtain ⟨s₂, o, hs, r⟩ := kk v B.U (After.wide c1 eT hS hk hZ hown NN hC hsf X' h2 gr post)
    exact ⟨s₂, o, st.trans hs, r⟩
  | false =>
    obtain ⟨e0, hE0⟩ := hw rfl
    subst e0
    obtain ⟨v, vm1, B, -, X', post, st⟩ := Jvm.LawKit.callS (s := s) X0 c1.1 hown (mvT hZ w1) (mvT hZ w2) (mvT hZ w3) (mvT hZ w4) hy (hC'.backP E hZ w4 w3 hf hl c1.2.2.2.2.2.2 hC.1 hso) (g := mkF m pc L (argsL.reverse ++ rest)) rfl (hsz.trans c1.2.2.1.symm) (lenOf hpd hlen) rfl (by show 2 * 0 + _ ≤ _; omega) (hb c1.2.1 hd) (fun _ _ => ⟨rfl, eT, hc, hs⟩)
    obtain ⟨s₂, o, hs, r⟩ := kk v B.U (After.plain (T := T) hE0 c1 hS hk hZ hown NN hC hsf X' post)
    exact ⟨s₂, o, st _ hs, r⟩
theorem o_special (X : St w Z a0 EL y bytes maxL ret p l e R s m args below meth c T h sf k n) {pc pc' : Nat} {L : Array Slot} {rest : List Value} {idx : Nat} {z : MethodName} {bz : ByteArray} {mz : Nat} {Q' : Option Value → Heap → (Addr → Prop) → Prop} {a : Addr} (hd : decode bytes pc = .ok (.invokespecial idx, 3)) (hp : pc + 3 = pc') (hz : z.name = "<init>")
    (w1 : (Cond.methodLink y.cls idx z).before a0 Z = true) (w2 : (Cond.instanceMethod z).before a0 Z = true) (w3 : (Cond.initialized z.cls).before a0 Z = true) (w4 : (Cond.code z bz mz none).before a0 Z = true) (hy : z.cls ≠ "java/lang/invoke/MethodHandle" ∧ z.cls ≠ "java/lang/invoke/VarHandle")
    (hC' : Ct w Z a0 EL l z bz mz none rm as h sf0 Q') (hok : ∀ x ∈ sf0, x < h.size ∧ Ok Z EL h sf x) (argsL : List Value) (hargs : (.ref a :: argsL).toArray = as) {S0 : List Value} (hst : S0 = argsL.reverse ++ .ref a :: rest) {ps : List FieldType} {rr : Option FieldType} (hpd : parseMethodDescriptor z.desc = some ⟨ps, rr⟩) (hlen : argsL.length = ps.length) (hsz : L.size = maxL)
    (hf : rm.frames + 1 ≤ R.frames) (hl : (rest.map fun v => v.category).sum + (mz + 11) + rm.locals ≤ R.locals) (hc : k + rm.cells ≤ R.cells) (hs : n + rm.slots ≤ R.slots)
    (kk : ∀ (v : Option Value) (T' : State), After w Z a0 EL y bytes maxL ret p l e R s m args below meth c sf (k + rm.cells) (n + rm.slots) Q' v T' → Go w Z EL C N Q p e s below T' (mkF m pc' L (v.toList ++ rest))) : Go w Z EL C N Q p e s below T (mkF m pc L S0) := by
  subst hp hargs hst
  obtain ⟨c1, vm0, k0, locs, X0, eT, hS, hk, hZ, hown, NN, E, hw, hC, hsf⟩ := X
  have hso : ∀ x ∈ sf0, x < h.size ∧ Safe Z EL vm0 h x := fun x hx => ⟨(hok x hx).1, (hok x hx).2.safe hZ.alike hsf⟩
  cases w with
  | true =>
    obtain ⟨v, vm1, B, -, X', h2, gr, post, st⟩ := Stand.specialBackS (s := s.setVm vm0) X0 c1.1 hz hown (mvT (s := s.setVm vm0) hZ w1) (mvT (s := s.setVm vm0) hZ w2) (mvT (s := s.setVm vm0) hZ w4) hy (hC'.backW E hZ w4 w3 hf hl c1.2.2.2.2.2.2 hC.1 hso) (g := mkF m pc L (argsL.reverse ++ .ref a :: rest)) rfl (hsz.trans c1.2.2.1.symm) (Steps.refl _) (lenOf hpd hlen) rfl (by show 2 * 0 + _ ≤ _; omega) (hb c1.2.1 hd) (fun _ _ => ⟨rfl, eT, hc, hs⟩)
    obtain ⟨s₂, o, hs, r⟩ := kk v B.U (After.wide c1 eT hS hk hZ hown NN hC hsf X' h2 gr post)
    exact ⟨s₂, o, st.trans hs, r⟩
  | false =>
    obtain ⟨e0, hE0⟩ := hw rfl
    subst e0
    obtain ⟨v, vm1, B, -, X', post, st⟩ := Stand.specialBack (s := s) X0 c1.1 hz hown (mvT hZ w1) (mvT hZ w2) (mvT hZ w4) hy (hC'.backP E hZ w4 w3 hf hl c1.2.2.2.2.2.2 hC.1 hso) (g := mkF m pc L (argsL.reverse ++ .ref a :: rest)) rfl (hsz.trans c1.2.2.1.symm) (Steps.refl _) (lenOf hpd hlen) rfl (by show 2 * 0 + _ ≤ _; omega) (hb c1.2.1 hd) (fun _ _ => ⟨rfl, eT, hc, hs⟩)
    obtain ⟨s₂, o, hs, r⟩ := kk v B.U (After.plain (T := T) hE0 c1 hS hk hZ hown NN hC hsf X' post)
    exact ⟨s₂, o, st.trans hs, r⟩
theorem o_virtual (X : St w Z a0 EL y bytes maxL ret p l e R s m args below meth c T h sf k n) {pc pc' : Nat} {L : Array Slot} {rest : List Value} {idx : Nat} {u z : MethodName} {K : String} {bz : ByteArray} {mz : Nat} {rz : Option FieldType} {Q' : Option Value → Heap → (Addr → Prop) → Prop} {a : Addr} (hd : decode bytes pc = .ok (.invokevirtual idx, 3)) (hp : pc + 3 = pc')
    (w1 : (Cond.methodLink y.cls idx u).before a0 Z = true) (w2 : (Cond.declares u).before a0 Z = true) (nf : ∀ s' : State, Z.Warmed39 s'.vm → NotFace s' u) (w5 : (Cond.selects K u z).before a0 Z = true) (w6 : (Cond.instanceMethod z).before a0 Z = true) (w3 : (Cond.initialized z.cls).before a0 Z = true) (w4 : (Cond.code z bz mz rz).before a0 Z = true) (hy : u.cls ≠ "java/lang/invoke/MethodHandle" ∧ u.cls ≠ "java/lang/invoke/VarHandle") (E0 : Exa Z h a K)
    (hC' : Ct w Z a0 EL l z bz mz rz rm as h sf0 Q') (hok : ∀ x ∈ sf0, x < h.size ∧ Ok Z EL h sf x) (argsL : List Value) (hargs : (.ref a :: argsL).toArray = as) {S0 : List Value} (hst : S0 = argsL.reverse ++ .ref a :: rest) {ps : List FieldType} {rr : Option FieldType} (hpd : parseMethodDescriptor u.desc = some ⟨ps, rr⟩) (hlen : argsL.length = ps.length) (hsz : L.size = maxL)
    (hf : rm.frames + 1 ≤ R.frames) (hl : (rest.map fun v => v.category).sum + (mz + 11) + rm.locals ≤ R.locals) (hc : k + rm.cells ≤ R.cells) (hs : n + rm.slots ≤ R.slots)
    (kk : ∀ (v : Option Value) (T' : State), After w Z a0 EL y bytes maxL ret p l e R s m args below meth c sf (k + rm.cells) (n + rm.slots) Q' v T' → Go w Z EL C N Q p e s below T' (mkF m pc' L (v.toList ++ rest))) : Go w Z EL C N Q p e s below T (mkF m pc L S0) := by
  subst hp hargs hst
  obtain ⟨c1, vm0, k0, locs, X0, eT, hS, hk, hZ, hown, NN, E, hw, hC, hsf⟩ := X
  have hso : ∀ x ∈ sf0, x < h.size ∧ Safe Z EL vm0 h x := fun x hx => ⟨(hok x hx).1, (hok x hx).2.safe hZ.alike hsf⟩
  obtain ⟨cq, kq, qa, qb, qc⟩ := isOf (s := s.setVm vm0) hZ eT E0
  cases w with
  | true =>
    obtain ⟨v, vm1, B, -, X', h2, gr, post, st⟩ := Stand.virtualBackS (s := s.setVm vm0) X0 c1.1 hown (mvT (s := s.setVm vm0) hZ w1) (mvT (s := s.setVm vm0) hZ w2) (nf _ hZ) (mvT (s := s.setVm vm0) hZ w5) (mvT (s := s.setVm vm0) hZ w6) hy (hC'.backW E hZ w4 w3 hf hl c1.2.2.2.2.2.2 hC.1 hso) qa qc (g := mkF m pc L (argsL.reverse ++ .ref a :: rest)) rfl (hsz.trans c1.2.2.1.symm) (Steps.refl _) (lenOf hpd hlen) rfl (by show 2 * 0 + _ ≤ _; omega) (hb c1.2.1 hd) (fun _ _ => ⟨rfl, eT, hc, hs⟩)
    obtain ⟨s₂, o, hs, r⟩ := kk v B.U (After.wide c1 eT hS hk hZ hown NN hC hsf X' h2 gr post)
    exact ⟨s₂, o, st.trans hs, r⟩
  | false =>
    obtain ⟨e0, hE0⟩ := hw rfl
    subst e0
    obtain ⟨v, vm1, B, -, X', post, st⟩ := Stand.virtualBack (s := s) X0 c1.1 hown (mvT hZ w1) (mvT hZ w2) (nf _ hZ) (mvT hZ w5) (mvT hZ w6) hy (hC'.backP E hZ w4 w3 hf hl c1.2.2.2.2.2.2 hC.1 hso) qa qc (g := mkF m pc L (argsL.reverse ++ .ref a :: rest)) rfl (hsz.trans c1.2.2.1.symm) (Steps.refl _) (lenOf hpd hlen) rfl (by show 2 * 0 + _ ≤ _; omega) (hb c1.2.1 hd) (fun _ _ => ⟨rfl, eT, hc, hs⟩)
    obtain ⟨s₂, o, hs, r⟩ := kk v B.U (After.plain (T := T) hE0 c1 hS hk hZ hown NN hC hsf X' post)
    exact ⟨s₂, o, st.trans hs, r⟩
theorem okArr {a : Addr} {kA : ClassId} {ty : FieldType} {z : Int32} {vs : List Value} {d : Value} (A : Arv Z h a kA ty z vs d) (q : ty ≠ .byte) : ∃ (cl : Cell) (ty : FieldType), Arr Z h a cl ty ∧ ty ≠ .byte := by
  obtain ⟨cl, Ar, -⟩ := A
  exact ⟨cl, ty, Ar, q⟩
theorem St.mono (X : St w Z a0 EL y bytes maxL ret p l e R s m args below meth c T h sf k n) {k1 n1 : Nat} (hk1 : k ≤ k1) (hn1 : n ≤ n1) : St w Z a0 EL y bytes maxL ret p l e R s m args below meth c T h sf k1 n1 := by
  obtain ⟨c0, vm0, k0, locs, X0, r⟩ := X
  exact ⟨c0, vm0, k0, locs, ⟨X0.admits, X0.cas, X0.clock, X0.frames, X0.room, X0.hears, X0.method, X0.code, X0.here, X0.tail, X0.warmed, X0.limits, X0.bytes, X0.same.mono hk1 hn1⟩, r⟩
theorem o_pop2L (X : St w Z a0 EL y bytes maxL ret p l e R s m args below meth c T h sf k n) {pc pc' : Nat} {L : Array Slot} {S : List Value} {v : Int64} (hd : decode bytes pc = .ok (.pop2, 1)) (hp : pc + 1 = pc') (kk : Go w Z EL C N Q p e s below T (mkF m pc' L S)) : Go w Z EL C N Q p e s below T (mkF m pc L (.long v :: S)) := by
  subst hp
  exact ps X (fun H hx hby _ q => by
    have hd' := hb hby hd
    show Steps p.tables e below (T.setTop { method := m, pc := pc, locals := L, stack := .long v :: S, locked := none }) _
    jvm_step H [H.top, hx, hd', Value.category]
    exact q) kk

end
end W
end Jvm.Pilot.@@N@@
namespace Jvm.Pilot.@@N@@
open Jvm Jvm.ClassFile Sem Op Lib Jvm.Free Jvm.Stand Jvm.LawKit Jvm.RoadKit Bundle Jvm.Pilot.@@N@@.Jvm.D
theorem o32_toInt (n : Nat) (h : n < 2147483648) : (Int32.ofNat n).toInt = n := by
  rw [Int32.toInt_ofNat_of_lt]; simpa using h
theorem o32_lt {i n : Nat} (h : i < n) (hn : n < 2147483648) : ¬ (Int32.ofNat i) < 0 ∧ Int32.ofNat i < Int32.ofNat n := by
  have e1 := o32_toInt i (by omega)
  have e2 := o32_toInt n hn
  refine ⟨?_, ?_⟩
  · rw [Int32.lt_iff_toInt_lt, e1]; show ¬ ((i : Int) < 0); omega
  · rw [Int32.lt_iff_toInt_lt, e1, e2]; omega
theorem o32_clamp {i : Nat} (h : i < 2147483648) : (Int32.ofNat i).toNatClampNeg = i := by
  have e1 := o32_toInt i h
  show (Int32.ofNat i).toInt.toNat = i
  rw [e1]; rfl
theorem o32_succ (i : Nat) : Int32.ofNat i + 1 = Int32.ofNat (i + 1) := by
  rw [Int32.ofNat_add]; rfl
theorem o32_nn {i : Nat} (hn : i < 2147483648) : ¬ Int32.ofNat i < 0 := by
  rw [Int32.lt_iff_toInt_lt, o32_toInt i hn]; show ¬ ((i : Int) < 0); omega
theorem o32_ge {i n : Nat} (h : n ≤ i) (hn : i < 2147483648) : ¬ Int32.ofNat i < Int32.ofNat n := by
  rw [Int32.lt_iff_toInt_lt, o32_toInt i hn, o32_toInt n (by omega)]; omega
theorem o32_inj {i n : Nat} (hi : i < 2147483648) (hn : n < 2147483648) (h : Int32.ofNat i = Int32.ofNat n) : i = n := by
  have := congrArg Int32.toInt h
  rw [o32_toInt i hi, o32_toInt n hn] at this; omega
def lay {α : Type} (f : Int32 → α) (z : α) (cs : List Int32) (j : Nat) : List α := (cs.take j).map f ++ List.replicate (cs.length - j) z
theorem lay_len {α : Type} (f : Int32 → α) (z : α) (cs : List Int32) (j : Nat) (h : j ≤ cs.length) : (lay f z cs j).length = cs.length := by
  simp [lay]; omega
theorem lay_set {α : Type} (f : Int32 → α) (z : α) (cs : List Int32) (j : Nat) (h : j < cs.length) : (lay f z cs j).set j (f cs[j]) = lay f z cs (j + 1) := by
  apply List.ext_getElem
  · simp [lay]; omega
  · intro i h1 h2
    simp only [lay, List.getElem_set, List.getElem_append, List.length_map, List.length_take, List.getElem_map, List.getElem_take, List.getElem_replicate]
    by_cases e : j = i
    · subst e; simp; omega
    · rw [if_neg e]
      by_cases q : i < j
      · rw [dif_pos (by omega), dif_pos (by omega)]
      · rw [dif_neg (by omega), dif_neg (by omega)]
theorem lay_all {α : Type} (f : Int32 → α) (z : α) (cs : List Int32) : lay f z cs cs.length = cs.map f := by simp [lay]
theorem lay_zero {α : Type} (f : Int32 → α) (z : α) (cs : List Int32) : lay f z cs 0 = List.replicate cs.length z := by simp [lay]
def big (c : Int32) : Bool := decide (255 < c)
/-- a char's low byte, as a byte[] holds it -/
def lo (c : Int32) : Value := .int c.toInt8.toInt32
theorem nar_bb (x : Int32) : nar .byte x.toInt8.toInt32 = x.toInt8.toInt32 := by simp [nar]
theorem nar_ch {x : Int32} (h0 : ¬ x < 0) (h1 : ¬ 65535 < x) : nar .char x = x := by
  show x.toUInt32.toUInt16.toUInt32.toInt32 = x
  have q := c_i2c x
  apply Int32.toInt_inj.mp
  rw [Int32.lt_iff_toInt_lt] at h0 h1
  have z0 : (0 : Int32).toInt = 0 := rfl
  have z1 : (65535 : Int32).toInt = 65535 := rfl
  omega
theorem and_ch (x : Int32) : ¬ (x &&& 255).toUInt32.toUInt16.toUInt32.toInt32 < 0 ∧ ¬ 255 < (x &&& 255).toUInt32.toUInt16.toUInt32.toInt32 := by
  have q := c_i2c (x &&& 255)
  have r := c_and x 255 (by decide)
  have z0 : (0 : Int32).toInt = 0 := rfl
  have z1 : (255 : Int32).toInt = 255 := rfl
  rw [Int32.lt_iff_toInt_lt, Int32.lt_iff_toInt_lt]
  omega
theorem no_big {c : Int32} (h : ¬ 255 < c) : ¬ 65535 < c := by
  rw [Int32.lt_iff_toInt_lt] at h ⊢
  have z0 : (255 : Int32).toInt = 255 := rfl
  have z1 : (65535 : Int32).toInt = 65535 := rfl
  omega
theorem getD_map {cs : List Int32} {j : Nat} (h : j < cs.length) (d : Value) : (cs.map Value.int).getD j d = .int cs[j] := by simp [List.getD, h]
/-- a Latin-1 String: its class, its two fields, its bytes -/
def Str (Z : State) (h : Heap) (a t : Addr) (cs : List Int32) : Prop :=
  Exa Z h a "java/lang/String" ∧ Fld Z h a "java/lang/String" "coder" "B" (.int 0) ∧ Fld Z h a "java/lang/String" "value" "[B" (.ref t) ∧ (∃ kt, Arv Z h t kt .byte (Int32.ofNat cs.length) (cs.map lo) (.int 0)) ∧ cs.length ≤ 1000 ∧ ∀ c ∈ cs, ¬ c < 0 ∧ ¬ 255 < c
theorem Str.ext {Z : State} {h h' : Heap} {a t : Addr} {cs : List Int32} (F : Str Z h a t cs) (E : Ext h h') : Str Z h' a t cs := by
  obtain ⟨h1, h2, h3, ⟨kt, h4⟩, r⟩ := F; exact ⟨h1.ext E, h2.ext E, h3.ext E, ⟨kt, h4.ext E⟩, r⟩
theorem Str.keep {Z : State} {h h' : Heap} {a t : Addr} {cs : List Int32} {ws : List Addr} (F : Str Z h a t cs) (K : Keep h h' ws) (q : a ∉ ws) (r : t ∉ ws) : Str Z h' a t cs := by
  obtain ⟨h1, h2, h3, ⟨kt, h4⟩, r'⟩ := F; exact ⟨h1.keep K, h2.keep K q, h3.keep K q, ⟨kt, h4.keep K r⟩, r'⟩
theorem Str.other {Z : State} {h h' : Heap} {a t x : Addr} {sl : Nat} {v : Value} {cs : List Int32} (F : Str Z h a t cs) (W : Wr h h' x sl v) (q : a ≠ x) (r : t ≠ x) : Str Z h' a t cs := by
  obtain ⟨h1, h2, h3, ⟨kt, h4⟩, r'⟩ := F; exact ⟨h1.wr W, h2.other W (Or.inl q), h3.other W (Or.inl q), ⟨kt, h4.other W r⟩, r'⟩
theorem Str.lt {Z : State} {h : Heap} {a t : Addr} {cs : List Int32} (F : Str Z h a t cs) : a < h.size := F.1.lt
theorem Str.lt' {Z : State} {h : Heap} {a t : Addr} {cs : List Int32} (F : Str Z h a t cs) : t < h.size := by obtain ⟨-, -, -, ⟨kt, h4⟩, -⟩ := F; exact h4.lt
theorem allI {P : Int32 → Prop} {y : Int32} {L : List Int32} (q : P y) (r : ∀ x ∈ L, P x) : ∀ x ∈ y :: L, P x := fun x z => (List.mem_cons.mp z).elim (fun u => u ▸ q) (r x)
theorem lo255 {c : Int32} (h0 : ¬ c < 0) (h1 : ¬ 255 < c) : (c.toInt8.toInt32 &&& 255).toUInt32.toUInt16.toUInt32.toInt32 = c := by
  rw [Int32.lt_iff_toInt_lt] at h0 h1
  have z0 : (0 : Int32).toInt = 0 := rfl
  have z1 : (255 : Int32).toInt = 255 := rfl
  have b1 := c_i2b c
  have m1 := c_mask c.toInt8.toInt32 255 8 (by decide) rfl
  have f := c_i2c (c.toInt8.toInt32 &&& 255)
  apply Int32.toInt_inj.mp
  omega
def b2i (b : Bool) : Int32 := if b then 1 else 0
theorem b2i_0 {b : Bool} (h : b2i b = 0) : b = false := by cases b <;> simp_all [b2i]
theorem b2i_n {b : Bool} (h : ¬ b2i b = 0) : b = true := by cases b <;> simp_all [b2i]
theorem nar_b2i (b : Bool) : nar .boolean (b2i b) = b2i b := by cases b <;> rfl
theorem lo_inj {c d : Int32} (hc : ¬ c < 0 ∧ ¬ 255 < c) (hd : ¬ d < 0 ∧ ¬ 255 < d) (h : c.toInt8.toInt32 = d.toInt8.toInt32) : c = d := by rw [← lo255 hc.1 hc.2, ← lo255 hd.1 hd.2, h]
theorem getD_lo {cs : List Int32} {j : Nat} (h : j < cs.length) (d : Value) : (cs.map lo).getD j d = .int cs[j].toInt8.toInt32 := by simp [List.getD, h, lo]
theorem Str.neObj {Z : State} {h : Heap} {a t x : Addr} {cs : List Int32} {C : String} {a0 : Array Value} {n : Nat} (F : Str Z h a t cs) (E : Exa Z h x C) (w : (Cond.instantiable C n).before a0 Z = true) : t ≠ x := by
  obtain ⟨-, -, -, ⟨kt, h4⟩, -⟩ := F
  exact Ne.symm (Exa.neArv E h4 w)
theorem i2c_id {x : Int32} (h0 : ¬ x < 0) (h1 : ¬ 65535 < x) : x.toUInt32.toUInt16.toUInt32.toInt32 = x := nar_ch h0 h1
abbrev wd : Bool := true
abbrev el : List (String × Nat) := [("java/lang/String", 7)]
theorem hwe : wd = false → el = [] := fun q => by cases q
set_option maxRecDepth 65536 in
theorem hwS0 : ∀ a ∈ Bundle.stringAtoms, a ∈ tables_1 := by decide +kernel
theorem d_jdk_52_method_21_0 : decode jdk_52_method_21_code 0 = .ok (.iconst 0, 1) := by decide +kernel
theorem d_jdk_52_method_21_1 : decode jdk_52_method_21_code 1 = .ok (.istore 5, 2) := by decide +kernel
theorem pn_java_lang_StringUTF16 : plainName "java/lang/StringUTF16" = true := by first | (simp [plainName, overriddenIn]; done) | decide +kernel
theorem d_jdk_52_method_21_3 : decode jdk_52_method_21_code 3 = .ok (.iload 5, 2) := by decide +kernel
theorem d_jdk_52_method_21_5 : decode jdk_52_method_21_code 5 = .ok (.iload 4, 2) := by decide +kernel
theorem d_jdk_52_method_21_7 : decode jdk_52_method_21_code 7 = .ok (.if_icmp .ge 37, 3) := by decide +kernel
theorem d_jdk_52_method_21_44 : decode jdk_52_method_21_code 44 = .ok (.iload 4, 2) := by decide +kernel
theorem d_jdk_52_method_21_46 : decode jdk_52_method_21_code 46 = .ok (.ireturn, 1) := by decide +kernel
theorem d_jdk_52_method_21_10 : decode jdk_52_method_21_code 10 = .ok (.aload_n 0, 1) := by decide +kernel
theorem d_jdk_52_method_21_11 : decode jdk_52_method_21_code 11 = .ok (.iload_n 1, 1) := by decide +kernel
theorem d_jdk_52_method_21_12 : decode jdk_52_method_21_code 12 = .ok (.caload, 1) := by decide +kernel
theorem d_jdk_52_method_21_13 : decode jdk_52_method_21_code 13 = .ok (.istore 6, 2) := by decide +kernel
theorem d_jdk_52_method_21_15 : decode jdk_52_method_21_code 15 = .ok (.iload 6, 2) := by decide +kernel
theorem d_jdk_52_method_21_17 : decode jdk_52_method_21_code 17 = .ok (.sipush 255, 3) := by decide +kernel
theorem d_jdk_52_method_21_20 : decode jdk_52_method_21_code 20 = .ok (.if_icmp .le 6, 3) := by decide +kernel
theorem d_jdk_52_method_21_26 : decode jdk_52_method_21_code 26 = .ok (.aload_n 2, 1) := by decide +kernel
theorem d_jdk_52_method_21_27 : decode jdk_52_method_21_code 27 = .ok (.iload_n 3, 1) := by decide +kernel
theorem d_jdk_52_method_21_28 : decode jdk_52_method_21_code 28 = .ok (.iload 6, 2) := by decide +kernel
theorem d_jdk_52_method_21_30 : decode jdk_52_method_21_code 30 = .ok (.i2b, 1) := by decide +kernel
theorem d_jdk_52_method_21_31 : decode jdk_52_method_21_code 31 = .ok (.bastore, 1) := by decide +kernel
theorem d_jdk_52_method_21_32 : decode jdk_52_method_21_code 32 = .ok (.iinc 1 1, 3) := by decide +kernel
theorem d_jdk_52_method_21_35 : decode jdk_52_method_21_code 35 = .ok (.iinc 3 1, 3) := by decide +kernel
theorem d_jdk_52_method_21_38 : decode jdk_52_method_21_code 38 = .ok (.iinc 5 1, 3) := by decide +kernel
theorem d_jdk_52_method_21_41 : decode jdk_52_method_21_code 41 = .ok (.goto (-38), 3) := by decide +kernel
theorem d_jdk_52_method_21_23 : decode jdk_52_method_21_code 23 = .ok (.iload 5, 2) := by decide +kernel
theorem d_jdk_52_method_21_25 : decode jdk_52_method_21_code 25 = .ok (.ireturn, 1) := by decide +kernel
theorem d_jdk_52_method_3_0 : decode jdk_52_method_3_code 0 = .ok (.iload_n 0, 1) := by decide +kernel
theorem d_jdk_52_method_3_1 : decode jdk_52_method_3_code 1 = .ok (.ifCond .ge 11, 3) := by decide +kernel
theorem d_jdk_52_method_3_12 : decode jdk_52_method_3_code 12 = .ok (.iload_n 0, 1) := by decide +kernel
theorem d_jdk_52_method_3_13 : decode jdk_52_method_3_code 13 = .ok (.ldc 20, 2) := by decide +kernel
theorem d_jdk_52_method_3_15 : decode jdk_52_method_3_code 15 = .ok (.if_icmp .lt 40, 3) := by decide +kernel
theorem d_jdk_52_method_3_55 : decode jdk_52_method_3_code 55 = .ok (.iload_n 0, 1) := by decide +kernel
theorem d_jdk_52_method_3_56 : decode jdk_52_method_3_code 56 = .ok (.iconst 1, 1) := by decide +kernel
theorem d_jdk_52_method_3_57 : decode jdk_52_method_3_code 57 = .ok (.ishl, 1) := by decide +kernel
theorem d_jdk_52_method_3_58 : decode jdk_52_method_3_code 58 = .ok (.ireturn, 1) := by decide +kernel
theorem d_jdk_52_method_2_0 : decode jdk_52_method_2_code 0 = .ok (.iload_n 0, 1) := by decide +kernel
theorem d_jdk_52_method_2_1 : decode jdk_52_method_2_code 1 = .ok (.invokestatic 11, 3) := by decide +kernel
theorem pd__I_I : parseMethodDescriptor "(I)I" = some ⟨[.int], some .int⟩ := by decide +kernel
theorem d_jdk_52_method_2_4 : decode jdk_52_method_2_code 4 = .ok (.newarray .byte, 2) := by decide +kernel
theorem d_jdk_52_method_2_6 : decode jdk_52_method_2_code 6 = .ok (.areturn, 1) := by decide +kernel
theorem d_jdk_52_method_4_0 : decode jdk_52_method_4_code 0 = .ok (.getstatic 44, 3) := by decide +kernel
theorem d_jdk_52_method_4_3 : decode jdk_52_method_4_code 3 = .ok (.ifCond .ne 25, 3) := by decide +kernel
theorem d_jdk_52_method_4_28 : decode jdk_52_method_4_code 28 = .ok (.iload_n 1, 1) := by decide +kernel
theorem d_jdk_52_method_4_29 : decode jdk_52_method_4_code 29 = .ok (.iconst 1, 1) := by decide +kernel
theorem d_jdk_52_method_4_30 : decode jdk_52_method_4_code 30 = .ok (.ishl, 1) := by decide +kernel
theorem d_jdk_52_method_4_31 : decode jdk_52_method_4_code 31 = .ok (.istore_n 1, 1) := by decide +kernel
theorem d_jdk_52_method_4_32 : decode jdk_52_method_4_code 32 = .ok (.aload_n 0, 1) := by decide +kernel
theorem d_jdk_52_method_4_33 : decode jdk_52_method_4_code 33 = .ok (.iload_n 1, 1) := by decide +kernel
theorem d_jdk_52_method_4_34 : decode jdk_52_method_4_code 34 = .ok (.iinc 1 1, 3) := by decide +kernel
theorem d_jdk_52_method_4_37 : decode jdk_52_method_4_code 37 = .ok (.iload_n 2, 1) := by decide +kernel
theorem d_jdk_52_method_4_38 : decode jdk_52_method_4_code 38 = .ok (.getstatic 59, 3) := by decide +kernel
theorem d_jdk_52_method_4_41 : decode jdk_52_method_4_code 41 = .ok (.ishr, 1) := by decide +kernel
theorem d_jdk_52_method_4_42 : decode jdk_52_method_4_code 42 = .ok (.i2b, 1) := by decide +kernel
theorem d_jdk_52_method_4_43 : decode jdk_52_method_4_code 43 = .ok (.bastore, 1) := by decide +kernel
theorem d_jdk_52_method_4_44 : decode jdk_52_method_4_code 44 = .ok (.aload_n 0, 1) := by decide +kernel
theorem d_jdk_52_method_4_45 : decode jdk_52_method_4_code 45 = .ok (.iload_n 1, 1) := by decide +kernel
theorem d_jdk_52_method_4_46 : decode jdk_52_method_4_code 46 = .ok (.iload_n 2, 1) := by decide +kernel
theorem d_jdk_52_method_4_47 : decode jdk_52_method_4_code 47 = .ok (.getstatic 63, 3) := by decide +kernel
theorem d_jdk_52_method_4_50 : decode jdk_52_method_4_code 50 = .ok (.ishr, 1) := by decide +kernel
theorem d_jdk_52_method_4_51 : decode jdk_52_method_4_code 51 = .ok (.i2b, 1) := by decide +kernel
theorem d_jdk_52_method_4_52 : decode jdk_52_method_4_code 52 = .ok (.bastore, 1) := by decide +kernel
theorem d_jdk_52_method_4_53 : decode jdk_52_method_4_code 53 = .ok (.return_, 1) := by decide +kernel
theorem d_jdk_52_method_5_0 : decode jdk_52_method_5_code 0 = .ok (.getstatic 44, 3) := by decide +kernel
theorem d_jdk_52_method_5_3 : decode jdk_52_method_5_code 3 = .ok (.ifCond .ne 25, 3) := by decide +kernel
theorem d_jdk_52_method_5_28 : decode jdk_52_method_5_code 28 = .ok (.iload_n 1, 1) := by decide +kernel
theorem d_jdk_52_method_5_29 : decode jdk_52_method_5_code 29 = .ok (.iconst 1, 1) := by decide +kernel
theorem d_jdk_52_method_5_30 : decode jdk_52_method_5_code 30 = .ok (.ishl, 1) := by decide +kernel
theorem d_jdk_52_method_5_31 : decode jdk_52_method_5_code 31 = .ok (.istore_n 1, 1) := by decide +kernel
theorem d_jdk_52_method_5_32 : decode jdk_52_method_5_code 32 = .ok (.aload_n 0, 1) := by decide +kernel
theorem d_jdk_52_method_5_33 : decode jdk_52_method_5_code 33 = .ok (.iload_n 1, 1) := by decide +kernel
theorem d_jdk_52_method_5_34 : decode jdk_52_method_5_code 34 = .ok (.iinc 1 1, 3) := by decide +kernel
theorem d_jdk_52_method_5_37 : decode jdk_52_method_5_code 37 = .ok (.baload, 1) := by decide +kernel
theorem d_jdk_52_method_5_38 : decode jdk_52_method_5_code 38 = .ok (.sipush 255, 3) := by decide +kernel
theorem d_jdk_52_method_5_41 : decode jdk_52_method_5_code 41 = .ok (.iand, 1) := by decide +kernel
theorem d_jdk_52_method_5_42 : decode jdk_52_method_5_code 42 = .ok (.getstatic 59, 3) := by decide +kernel
theorem d_jdk_52_method_5_45 : decode jdk_52_method_5_code 45 = .ok (.ishl, 1) := by decide +kernel
theorem d_jdk_52_method_5_46 : decode jdk_52_method_5_code 46 = .ok (.aload_n 0, 1) := by decide +kernel
theorem d_jdk_52_method_5_47 : decode jdk_52_method_5_code 47 = .ok (.iload_n 1, 1) := by decide +kernel
theorem d_jdk_52_method_5_48 : decode jdk_52_method_5_code 48 = .ok (.baload, 1) := by decide +kernel
theorem d_jdk_52_method_5_49 : decode jdk_52_method_5_code 49 = .ok (.sipush 255, 3) := by decide +kernel
theorem d_jdk_52_method_5_52 : decode jdk_52_method_5_code 52 = .ok (.iand, 1) := by decide +kernel
theorem d_jdk_52_method_5_53 : decode jdk_52_method_5_code 53 = .ok (.getstatic 63, 3) := by decide +kernel
theorem d_jdk_52_method_5_56 : decode jdk_52_method_5_code 56 = .ok (.ishl, 1) := by decide +kernel
theorem d_jdk_52_method_5_57 : decode jdk_52_method_5_code 57 = .ok (.ior, 1) := by decide +kernel
theorem d_jdk_52_method_5_58 : decode jdk_52_method_5_code 58 = .ok (.i2c, 1) := by decide +kernel
theorem d_jdk_52_method_5_59 : decode jdk_52_method_5_code 59 = .ok (.ireturn, 1) := by decide +kernel
theorem d_jdk_52_method_14_0 : decode jdk_52_method_14_code 0 = .ok (.iload_n 2, 1) := by decide +kernel
theorem d_jdk_52_method_14_1 : decode jdk_52_method_14_code 1 = .ok (.invokestatic 107, 3) := by decide +kernel
theorem pd__I__B : parseMethodDescriptor "(I)[B" = some ⟨[.int], some (.array .byte)⟩ := by decide +kernel
theorem d_jdk_52_method_14_4 : decode jdk_52_method_14_code 4 = .ok (.astore_n 3, 1) := by decide +kernel
theorem d_jdk_52_method_14_5 : decode jdk_52_method_14_code 5 = .ok (.iconst 0, 1) := by decide +kernel
theorem d_jdk_52_method_14_6 : decode jdk_52_method_14_code 6 = .ok (.istore 4, 2) := by decide +kernel
theorem d_jdk_52_method_14_8 : decode jdk_52_method_14_code 8 = .ok (.iload 4, 2) := by decide +kernel
theorem d_jdk_52_method_14_10 : decode jdk_52_method_14_code 10 = .ok (.iload_n 2, 1) := by decide +kernel
theorem d_jdk_52_method_14_11 : decode jdk_52_method_14_code 11 = .ok (.if_icmp .ge 21, 3) := by decide +kernel
theorem d_jdk_52_method_14_32 : decode jdk_52_method_14_code 32 = .ok (.aload_n 3, 1) := by decide +kernel
theorem d_jdk_52_method_14_33 : decode jdk_52_method_14_code 33 = .ok (.areturn, 1) := by decide +kernel
theorem d_jdk_52_method_14_14 : decode jdk_52_method_14_code 14 = .ok (.aload_n 3, 1) := by decide +kernel
theorem d_jdk_52_method_14_15 : decode jdk_52_method_14_code 15 = .ok (.iload 4, 2) := by decide +kernel
theorem d_jdk_52_method_14_17 : decode jdk_52_method_14_code 17 = .ok (.aload_n 0, 1) := by decide +kernel
theorem d_jdk_52_method_14_18 : decode jdk_52_method_14_code 18 = .ok (.iload_n 1, 1) := by decide +kernel
theorem d_jdk_52_method_14_19 : decode jdk_52_method_14_code 19 = .ok (.caload, 1) := by decide +kernel
theorem d_jdk_52_method_14_20 : decode jdk_52_method_14_code 20 = .ok (.invokestatic 111, 3) := by decide +kernel
theorem pd___BII_V : parseMethodDescriptor "([BII)V" = some ⟨[(.array .byte), .int, .int], none⟩ := by decide +kernel
theorem d_jdk_52_method_14_23 : decode jdk_52_method_14_code 23 = .ok (.iinc 1 1, 3) := by decide +kernel
theorem d_jdk_52_method_14_26 : decode jdk_52_method_14_code 26 = .ok (.iinc 4 1, 3) := by decide +kernel
theorem d_jdk_52_method_14_29 : decode jdk_52_method_14_code 29 = .ok (.goto (-21), 3) := by decide +kernel
theorem d_jdk_52_method_16_0 : decode jdk_52_method_16_code 0 = .ok (.iload_n 2, 1) := by decide +kernel
theorem d_jdk_52_method_16_1 : decode jdk_52_method_16_code 1 = .ok (.newarray .byte, 2) := by decide +kernel
theorem d_jdk_52_method_16_3 : decode jdk_52_method_16_code 3 = .ok (.astore_n 3, 1) := by decide +kernel
theorem d_jdk_52_method_16_4 : decode jdk_52_method_16_code 4 = .ok (.aload_n 0, 1) := by decide +kernel
theorem d_jdk_52_method_16_5 : decode jdk_52_method_16_code 5 = .ok (.iload_n 1, 1) := by decide +kernel
theorem d_jdk_52_method_16_6 : decode jdk_52_method_16_code 6 = .ok (.aload_n 3, 1) := by decide +kernel
theorem d_jdk_52_method_16_7 : decode jdk_52_method_16_code 7 = .ok (.iconst 0, 1) := by decide +kernel
theorem d_jdk_52_method_16_8 : decode jdk_52_method_16_code 8 = .ok (.iload_n 2, 1) := by decide +kernel
theorem d_jdk_52_method_16_9 : decode jdk_52_method_16_code 9 = .ok (.invokestatic 115, 3) := by decide +kernel
theorem pd___CI_BII_I : parseMethodDescriptor "([CI[BII)I" = some ⟨[(.array .char), .int, (.array .byte), .int, .int], some .int⟩ := by decide +kernel
theorem d_jdk_52_method_16_12 : decode jdk_52_method_16_code 12 = .ok (.istore 4, 2) := by decide +kernel
theorem d_jdk_52_method_16_14 : decode jdk_52_method_16_code 14 = .ok (.iload 4, 2) := by decide +kernel
theorem d_jdk_52_method_16_16 : decode jdk_52_method_16_code 16 = .ok (.iload_n 2, 1) := by decide +kernel
theorem d_jdk_52_method_16_17 : decode jdk_52_method_16_code 17 = .ok (.if_icmp .eq 40, 3) := by decide +kernel
theorem d_jdk_52_method_16_57 : decode jdk_52_method_16_code 57 = .ok (.aload_n 3, 1) := by decide +kernel
theorem d_jdk_52_method_16_58 : decode jdk_52_method_16_code 58 = .ok (.areturn, 1) := by decide +kernel
theorem d_jdk_52_method_16_20 : decode jdk_52_method_16_code 20 = .ok (.aload_n 0, 1) := by decide +kernel
theorem d_jdk_52_method_16_21 : decode jdk_52_method_16_code 21 = .ok (.iload_n 1, 1) := by decide +kernel
theorem d_jdk_52_method_16_22 : decode jdk_52_method_16_code 22 = .ok (.iload_n 2, 1) := by decide +kernel
theorem d_jdk_52_method_16_23 : decode jdk_52_method_16_code 23 = .ok (.invokestatic 119, 3) := by decide +kernel
theorem pd___CII__B : parseMethodDescriptor "([CII)[B" = some ⟨[(.array .char), .int, .int], some (.array .byte)⟩ := by decide +kernel
theorem d_jdk_52_method_16_26 : decode jdk_52_method_16_code 26 = .ok (.astore 5, 2) := by decide +kernel
theorem d_jdk_52_method_16_28 : decode jdk_52_method_16_code 28 = .ok (.aload 5, 2) := by decide +kernel
theorem d_jdk_52_method_16_30 : decode jdk_52_method_16_code 30 = .ok (.iload 4, 2) := by decide +kernel
theorem d_jdk_52_method_16_32 : decode jdk_52_method_16_code 32 = .ok (.invokestatic 71, 3) := by decide +kernel
theorem pd___BI_C : parseMethodDescriptor "([BI)C" = some ⟨[(.array .byte), .int], some .char⟩ := by decide +kernel
theorem d_jdk_52_method_16_35 : decode jdk_52_method_16_code 35 = .ok (.sipush 255, 3) := by decide +kernel
theorem d_jdk_52_method_16_38 : decode jdk_52_method_16_code 38 = .ok (.if_icmp .gt 16, 3) := by decide +kernel
theorem d_jdk_52_method_16_54 : decode jdk_52_method_16_code 54 = .ok (.aload 5, 2) := by decide +kernel
theorem d_jdk_52_method_16_56 : decode jdk_52_method_16_code 56 = .ok (.areturn, 1) := by decide +kernel
theorem d_jdk_52_method_15_0 : decode jdk_52_method_15_code 0 = .ok (.iload_n 1, 1) := by decide +kernel
theorem d_jdk_52_method_15_1 : decode jdk_52_method_15_code 1 = .ok (.aload_n 0, 1) := by decide +kernel
theorem d_jdk_52_method_15_2 : decode jdk_52_method_15_code 2 = .ok (.arraylength, 1) := by decide +kernel
theorem d_jdk_52_method_15_3 : decode jdk_52_method_15_code 3 = .ok (.isub, 1) := by decide +kernel
theorem d_jdk_52_method_15_4 : decode jdk_52_method_15_code 4 = .ok (.bipush 31, 2) := by decide +kernel
theorem d_jdk_52_method_15_6 : decode jdk_52_method_15_code 6 = .ok (.iushr, 1) := by decide +kernel
theorem d_jdk_52_method_15_7 : decode jdk_52_method_15_code 7 = .ok (.i2b, 1) := by decide +kernel
theorem d_jdk_52_method_15_8 : decode jdk_52_method_15_code 8 = .ok (.ireturn, 1) := by decide +kernel
theorem d_jdk_42_method_149_0 : decode jdk_42_method_149_code 0 = .ok (.aload_n 0, 1) := by decide +kernel
theorem d_jdk_42_method_149_1 : decode jdk_42_method_149_code 1 = .ok (.invokespecial 1, 3) := by decide +kernel
theorem d_jdk_42_method_149_4 : decode jdk_42_method_149_code 4 = .ok (.iload_n 3, 1) := by decide +kernel
theorem d_jdk_42_method_149_5 : decode jdk_42_method_149_code 5 = .ok (.ifCond .ne 22, 3) := by decide +kernel
theorem d_jdk_42_method_149_27 : decode jdk_42_method_149_code 27 = .ok (.getstatic 38, 3) := by decide +kernel
theorem d_jdk_42_method_149_30 : decode jdk_42_method_149_code 30 = .ok (.ifCond .eq 28, 3) := by decide +kernel
theorem d_jdk_42_method_149_33 : decode jdk_42_method_149_code 33 = .ok (.aload_n 1, 1) := by decide +kernel
theorem d_jdk_42_method_149_34 : decode jdk_42_method_149_code 34 = .ok (.iload_n 2, 1) := by decide +kernel
theorem d_jdk_42_method_149_35 : decode jdk_42_method_149_code 35 = .ok (.iload_n 3, 1) := by decide +kernel
theorem d_jdk_42_method_149_36 : decode jdk_42_method_149_code 36 = .ok (.invokestatic 177, 3) := by decide +kernel
theorem d_jdk_42_method_149_39 : decode jdk_42_method_149_code 39 = .ok (.astore 5, 2) := by decide +kernel
theorem d_jdk_42_method_149_41 : decode jdk_42_method_149_code 41 = .ok (.aload_n 0, 1) := by decide +kernel
theorem d_jdk_42_method_149_42 : decode jdk_42_method_149_code 42 = .ok (.aload 5, 2) := by decide +kernel
theorem d_jdk_42_method_149_44 : decode jdk_42_method_149_code 44 = .ok (.iload_n 3, 1) := by decide +kernel
theorem d_jdk_42_method_149_45 : decode jdk_42_method_149_code 45 = .ok (.invokestatic 47, 3) := by decide +kernel
theorem pd___BI_B : parseMethodDescriptor "([BI)B" = some ⟨[(.array .byte), .int], some .byte⟩ := by decide +kernel
theorem d_jdk_42_method_149_48 : decode jdk_42_method_149_code 48 = .ok (.putfield 15, 3) := by decide +kernel
theorem d_jdk_42_method_149_51 : decode jdk_42_method_149_code 51 = .ok (.aload_n 0, 1) := by decide +kernel
theorem d_jdk_42_method_149_52 : decode jdk_42_method_149_code 52 = .ok (.aload 5, 2) := by decide +kernel
theorem d_jdk_42_method_149_54 : decode jdk_42_method_149_code 54 = .ok (.putfield 9, 3) := by decide +kernel
theorem d_jdk_42_method_149_57 : decode jdk_42_method_149_code 57 = .ok (.return_, 1) := by decide +kernel
theorem pn_java_lang_String : plainName "java/lang/String" = true := by first | (simp [plainName, overriddenIn]; done) | decide +kernel
theorem d_jdk_42_method_3_0 : decode jdk_42_method_3_code 0 = .ok (.aload_n 0, 1) := by decide +kernel
theorem d_jdk_42_method_3_1 : decode jdk_42_method_3_code 1 = .ok (.aload_n 1, 1) := by decide +kernel
theorem d_jdk_42_method_3_2 : decode jdk_42_method_3_code 2 = .ok (.iconst 0, 1) := by decide +kernel
theorem d_jdk_42_method_3_3 : decode jdk_42_method_3_code 3 = .ok (.aload_n 1, 1) := by decide +kernel
theorem d_jdk_42_method_3_4 : decode jdk_42_method_3_code 4 = .ok (.arraylength, 1) := by decide +kernel
theorem d_jdk_42_method_3_5 : decode jdk_42_method_3_code 5 = .ok (.aconst_null, 1) := by decide +kernel
theorem d_jdk_42_method_3_6 : decode jdk_42_method_3_code 6 = .ok (.invokespecial 27, 3) := by decide +kernel
theorem pd___CIILjava_lang_Void__V : parseMethodDescriptor "([CIILjava/lang/Void;)V" = some ⟨[(.array .char), .int, .int, (.object "java/lang/Void")], none⟩ := by decide +kernel
theorem d_jdk_42_method_3_9 : decode jdk_42_method_3_code 9 = .ok (.return_, 1) := by decide +kernel
theorem d_jdk_42_method_149_8 : decode jdk_42_method_149_code 8 = .ok (.aload_n 0, 1) := by decide +kernel
theorem d_jdk_42_method_149_9 : decode jdk_42_method_149_code 9 = .ok (.ldc 7, 2) := by decide +kernel
theorem d_jdk_42_method_149_11 : decode jdk_42_method_149_code 11 = .ok (.getfield 9, 3) := by decide +kernel
theorem d_jdk_42_method_149_14 : decode jdk_42_method_149_code 14 = .ok (.putfield 9, 3) := by decide +kernel
theorem d_jdk_42_method_149_17 : decode jdk_42_method_149_code 17 = .ok (.aload_n 0, 1) := by decide +kernel
theorem d_jdk_42_method_149_18 : decode jdk_42_method_149_code 18 = .ok (.ldc 7, 2) := by decide +kernel
theorem d_jdk_42_method_149_20 : decode jdk_42_method_149_code 20 = .ok (.getfield 15, 3) := by decide +kernel
theorem d_jdk_42_method_149_23 : decode jdk_42_method_149_code 23 = .ok (.putfield 15, 3) := by decide +kernel
theorem d_jdk_42_method_149_26 : decode jdk_42_method_149_code 26 = .ok (.return_, 1) := by decide +kernel
theorem d_jdk_42_method_154_0 : decode jdk_42_method_154_code 0 = .ok (.getstatic 38, 3) := by decide +kernel
theorem d_jdk_42_method_154_3 : decode jdk_42_method_154_code 3 = .ok (.ifCond .eq 14, 3) := by decide +kernel
theorem d_jdk_42_method_154_6 : decode jdk_42_method_154_code 6 = .ok (.aload_n 0, 1) := by decide +kernel
theorem d_jdk_42_method_154_7 : decode jdk_42_method_154_code 7 = .ok (.getfield 15, 3) := by decide +kernel
theorem d_jdk_42_method_154_10 : decode jdk_42_method_154_code 10 = .ok (.ifCond .ne 7, 3) := by decide +kernel
theorem d_jdk_42_method_154_17 : decode jdk_42_method_154_code 17 = .ok (.iconst 0, 1) := by decide +kernel
theorem d_jdk_42_method_154_18 : decode jdk_42_method_154_code 18 = .ok (.ireturn, 1) := by decide +kernel
theorem d_jdk_42_method_154_13 : decode jdk_42_method_154_code 13 = .ok (.iconst 1, 1) := by decide +kernel
theorem d_jdk_42_method_154_14 : decode jdk_42_method_154_code 14 = .ok (.goto 4, 3) := by decide +kernel
theorem d_jdk_29_method_65_0 : decode jdk_29_method_65_code 0 = .ok (.iload_n 0, 1) := by decide +kernel
theorem d_jdk_29_method_65_1 : decode jdk_29_method_65_code 1 = .ok (.iload_n 1, 1) := by decide +kernel
theorem d_jdk_29_method_65_2 : decode jdk_29_method_65_code 2 = .ok (.if_icmp .lt 7, 3) := by decide +kernel
theorem d_jdk_29_method_65_9 : decode jdk_29_method_65_code 9 = .ok (.iload_n 1, 1) := by decide +kernel
theorem d_jdk_29_method_65_10 : decode jdk_29_method_65_code 10 = .ok (.ireturn, 1) := by decide +kernel
theorem d_jdk_29_method_65_5 : decode jdk_29_method_65_code 5 = .ok (.iload_n 0, 1) := by decide +kernel
theorem d_jdk_29_method_65_6 : decode jdk_29_method_65_code 6 = .ok (.goto 4, 3) := by decide +kernel
theorem d_jdk_29_method_69_0 : decode jdk_29_method_69_code 0 = .ok (.iload_n 0, 1) := by decide +kernel
theorem d_jdk_29_method_69_1 : decode jdk_29_method_69_code 1 = .ok (.iload_n 1, 1) := by decide +kernel
theorem d_jdk_29_method_69_2 : decode jdk_29_method_69_code 2 = .ok (.if_icmp .gt 7, 3) := by decide +kernel
theorem d_jdk_29_method_69_9 : decode jdk_29_method_69_code 9 = .ok (.iload_n 1, 1) := by decide +kernel
theorem d_jdk_29_method_69_10 : decode jdk_29_method_69_code 10 = .ok (.ireturn, 1) := by decide +kernel
theorem d_jdk_29_method_69_5 : decode jdk_29_method_69_code 5 = .ok (.iload_n 0, 1) := by decide +kernel
theorem d_jdk_29_method_69_6 : decode jdk_29_method_69_code 6 = .ok (.goto 4, 3) := by decide +kernel
theorem d_jdk_43_method_4_0 : decode jdk_43_method_4_code 0 = .ok (.iload_n 0, 1) := by decide +kernel
theorem d_jdk_43_method_4_1 : decode jdk_43_method_4_code 1 = .ok (.ifCond .lt 14, 3) := by decide +kernel
theorem d_jdk_43_method_4_4 : decode jdk_43_method_4_code 4 = .ok (.iload_n 0, 1) := by decide +kernel
theorem d_jdk_43_method_4_5 : decode jdk_43_method_4_code 5 = .ok (.sipush 255, 3) := by decide +kernel
theorem d_jdk_43_method_4_8 : decode jdk_43_method_4_code 8 = .ok (.if_icmp .gt 7, 3) := by decide +kernel
theorem d_jdk_43_method_4_11 : decode jdk_43_method_4_code 11 = .ok (.iconst 1, 1) := by decide +kernel
theorem d_jdk_43_method_4_12 : decode jdk_43_method_4_code 12 = .ok (.goto 4, 3) := by decide +kernel
theorem d_jdk_43_method_4_16 : decode jdk_43_method_4_code 16 = .ok (.ireturn, 1) := by decide +kernel
theorem pn_java_lang_StringLatin1 : plainName "java/lang/StringLatin1" = true := by first | (simp [plainName, overriddenIn]; done) | decide +kernel
theorem d_jdk_43_method_23_0 : decode jdk_43_method_23_code 0 = .ok (.iload_n 1, 1) := by decide +kernel
theorem d_jdk_43_method_23_1 : decode jdk_43_method_23_code 1 = .ok (.i2b, 1) := by decide +kernel
theorem d_jdk_43_method_23_2 : decode jdk_43_method_23_code 2 = .ok (.istore 4, 2) := by decide +kernel
theorem d_jdk_43_method_23_4 : decode jdk_43_method_23_code 4 = .ok (.iload_n 2, 1) := by decide +kernel
theorem d_jdk_43_method_23_5 : decode jdk_43_method_23_code 5 = .ok (.istore 5, 2) := by decide +kernel
theorem d_jdk_43_method_23_7 : decode jdk_43_method_23_code 7 = .ok (.iload 5, 2) := by decide +kernel
theorem d_jdk_43_method_23_9 : decode jdk_43_method_23_code 9 = .ok (.iload_n 3, 1) := by decide +kernel
theorem d_jdk_43_method_23_10 : decode jdk_43_method_23_code 10 = .ok (.if_icmp .ge 21, 3) := by decide +kernel
theorem d_jdk_43_method_23_31 : decode jdk_43_method_23_code 31 = .ok (.iconst (-1), 1) := by decide +kernel
theorem d_jdk_43_method_23_32 : decode jdk_43_method_23_code 32 = .ok (.ireturn, 1) := by decide +kernel
theorem d_jdk_43_method_23_13 : decode jdk_43_method_23_code 13 = .ok (.aload_n 0, 1) := by decide +kernel
theorem d_jdk_43_method_23_14 : decode jdk_43_method_23_code 14 = .ok (.iload 5, 2) := by decide +kernel
theorem d_jdk_43_method_23_16 : decode jdk_43_method_23_code 16 = .ok (.baload, 1) := by decide +kernel
theorem d_jdk_43_method_23_17 : decode jdk_43_method_23_code 17 = .ok (.iload 4, 2) := by decide +kernel
theorem d_jdk_43_method_23_19 : decode jdk_43_method_23_code 19 = .ok (.if_icmp .ne 6, 3) := by decide +kernel
theorem d_jdk_43_method_23_25 : decode jdk_43_method_23_code 25 = .ok (.iinc 5 1, 3) := by decide +kernel
theorem d_jdk_43_method_23_28 : decode jdk_43_method_23_code 28 = .ok (.goto (-21), 3) := by decide +kernel
theorem d_jdk_43_method_23_22 : decode jdk_43_method_23_code 22 = .ok (.iload 5, 2) := by decide +kernel
theorem d_jdk_43_method_23_24 : decode jdk_43_method_23_code 24 = .ok (.ireturn, 1) := by decide +kernel
theorem d_jdk_43_method_22_0 : decode jdk_43_method_22_code 0 = .ok (.iload_n 1, 1) := by decide +kernel
theorem d_jdk_43_method_22_1 : decode jdk_43_method_22_code 1 = .ok (.invokestatic 88, 3) := by decide +kernel
theorem pd__I_Z : parseMethodDescriptor "(I)Z" = some ⟨[.int], some .boolean⟩ := by decide +kernel
theorem d_jdk_43_method_22_4 : decode jdk_43_method_22_code 4 = .ok (.ifCond .ne 5, 3) := by decide +kernel
theorem d_jdk_43_method_22_9 : decode jdk_43_method_22_code 9 = .ok (.iload_n 2, 1) := by decide +kernel
theorem d_jdk_43_method_22_10 : decode jdk_43_method_22_code 10 = .ok (.iconst 0, 1) := by decide +kernel
theorem d_jdk_43_method_22_11 : decode jdk_43_method_22_code 11 = .ok (.invokestatic 92, 3) := by decide +kernel
theorem pd__II_I : parseMethodDescriptor "(II)I" = some ⟨[.int, .int], some .int⟩ := by decide +kernel
theorem d_jdk_43_method_22_14 : decode jdk_43_method_22_code 14 = .ok (.istore_n 2, 1) := by decide +kernel
theorem d_jdk_43_method_22_15 : decode jdk_43_method_22_code 15 = .ok (.iload_n 3, 1) := by decide +kernel
theorem d_jdk_43_method_22_16 : decode jdk_43_method_22_code 16 = .ok (.aload_n 0, 1) := by decide +kernel
theorem d_jdk_43_method_22_17 : decode jdk_43_method_22_code 17 = .ok (.arraylength, 1) := by decide +kernel
theorem d_jdk_43_method_22_18 : decode jdk_43_method_22_code 18 = .ok (.invokestatic 38, 3) := by decide +kernel
theorem d_jdk_43_method_22_21 : decode jdk_43_method_22_code 21 = .ok (.istore_n 3, 1) := by decide +kernel
theorem d_jdk_43_method_22_22 : decode jdk_43_method_22_code 22 = .ok (.iload_n 2, 1) := by decide +kernel
theorem d_jdk_43_method_22_23 : decode jdk_43_method_22_code 23 = .ok (.iload_n 3, 1) := by decide +kernel
theorem d_jdk_43_method_22_24 : decode jdk_43_method_22_code 24 = .ok (.if_icmp .lt 5, 3) := by decide +kernel
theorem d_jdk_43_method_22_29 : decode jdk_43_method_22_code 29 = .ok (.aload_n 0, 1) := by decide +kernel
theorem d_jdk_43_method_22_30 : decode jdk_43_method_22_code 30 = .ok (.iload_n 1, 1) := by decide +kernel
theorem d_jdk_43_method_22_31 : decode jdk_43_method_22_code 31 = .ok (.iload_n 2, 1) := by decide +kernel
theorem d_jdk_43_method_22_32 : decode jdk_43_method_22_code 32 = .ok (.iload_n 3, 1) := by decide +kernel
theorem d_jdk_43_method_22_33 : decode jdk_43_method_22_code 33 = .ok (.invokestatic 95, 3) := by decide +kernel
theorem pd___BIII_I : parseMethodDescriptor "([BIII)I" = some ⟨[(.array .byte), .int, .int, .int], some .int⟩ := by decide +kernel
theorem d_jdk_43_method_22_36 : decode jdk_43_method_22_code 36 = .ok (.ireturn, 1) := by decide +kernel
theorem d_jdk_43_method_22_27 : decode jdk_43_method_22_code 27 = .ok (.iconst (-1), 1) := by decide +kernel
theorem d_jdk_43_method_22_28 : decode jdk_43_method_22_code 28 = .ok (.ireturn, 1) := by decide +kernel
theorem d_jdk_52_method_6_0 : decode jdk_52_method_6_code 0 = .ok (.aload_n 0, 1) := by decide +kernel
theorem d_jdk_52_method_6_1 : decode jdk_52_method_6_code 1 = .ok (.arraylength, 1) := by decide +kernel
theorem d_jdk_52_method_6_2 : decode jdk_52_method_6_code 2 = .ok (.iconst 1, 1) := by decide +kernel
theorem d_jdk_52_method_6_3 : decode jdk_52_method_6_code 3 = .ok (.ishr, 1) := by decide +kernel
theorem d_jdk_52_method_6_4 : decode jdk_52_method_6_code 4 = .ok (.ireturn, 1) := by decide +kernel
theorem d_jdk_41_method_12_0 : decode jdk_41_method_12_code 0 = .ok (.iload_n 0, 1) := by decide +kernel
theorem d_jdk_41_method_12_1 : decode jdk_41_method_12_code 1 = .ok (.ifCond .lt 13, 3) := by decide +kernel
theorem d_jdk_41_method_12_4 : decode jdk_41_method_12_code 4 = .ok (.iload_n 0, 1) := by decide +kernel
theorem d_jdk_41_method_12_5 : decode jdk_41_method_12_code 5 = .ok (.iload_n 1, 1) := by decide +kernel
theorem d_jdk_41_method_12_6 : decode jdk_41_method_12_code 6 = .ok (.if_icmp .gt 8, 3) := by decide +kernel
theorem d_jdk_41_method_12_9 : decode jdk_41_method_12_code 9 = .ok (.iload_n 1, 1) := by decide +kernel
theorem d_jdk_41_method_12_10 : decode jdk_41_method_12_code 10 = .ok (.iload_n 2, 1) := by decide +kernel
theorem d_jdk_41_method_12_11 : decode jdk_41_method_12_code 11 = .ok (.if_icmp .le 11, 3) := by decide +kernel
theorem d_jdk_41_method_12_22 : decode jdk_41_method_12_code 22 = .ok (.iload_n 0, 1) := by decide +kernel
theorem d_jdk_41_method_12_23 : decode jdk_41_method_12_code 23 = .ok (.ireturn, 1) := by decide +kernel
theorem pn_jdk_internal_util_Preconditions : plainName "jdk/internal/util/Preconditions" = true := by first | (simp [plainName, overriddenIn]; done) | decide +kernel
theorem d_jdk_42_method_158_0 : decode jdk_42_method_158_code 0 = .ok (.iload_n 0, 1) := by decide +kernel
theorem d_jdk_42_method_158_1 : decode jdk_42_method_158_code 1 = .ok (.iload_n 1, 1) := by decide +kernel
theorem d_jdk_42_method_158_2 : decode jdk_42_method_158_code 2 = .ok (.iload_n 2, 1) := by decide +kernel
theorem d_jdk_42_method_158_3 : decode jdk_42_method_158_code 3 = .ok (.getstatic 1053, 3) := by decide +kernel
theorem d_jdk_42_method_158_6 : decode jdk_42_method_158_code 6 = .ok (.invokestatic 1062, 3) := by decide +kernel
theorem pd__IIILjava_util_function_BiFunction__I : parseMethodDescriptor "(IIILjava/util/function/BiFunction;)I" = some ⟨[.int, .int, .int, (.object "java/util/function/BiFunction")], some .int⟩ := by decide +kernel
theorem d_jdk_42_method_158_9 : decode jdk_42_method_158_code 9 = .ok (.pop, 1) := by decide +kernel
theorem d_jdk_42_method_158_10 : decode jdk_42_method_158_code 10 = .ok (.return_, 1) := by decide +kernel
theorem d_jdk_52_method_93_0 : decode jdk_52_method_93_code 0 = .ok (.iload_n 0, 1) := by decide +kernel
theorem d_jdk_52_method_93_1 : decode jdk_52_method_93_code 1 = .ok (.iload_n 1, 1) := by decide +kernel
theorem d_jdk_52_method_93_2 : decode jdk_52_method_93_code 2 = .ok (.aload_n 2, 1) := by decide +kernel
theorem d_jdk_52_method_93_3 : decode jdk_52_method_93_code 3 = .ok (.invokestatic 48, 3) := by decide +kernel
theorem pd___B_I : parseMethodDescriptor "([B)I" = some ⟨[(.array .byte)], some .int⟩ := by decide +kernel
theorem d_jdk_52_method_93_6 : decode jdk_52_method_93_code 6 = .ok (.invokestatic 241, 3) := by decide +kernel
theorem pd__III_V : parseMethodDescriptor "(III)V" = some ⟨[.int, .int, .int], none⟩ := by decide +kernel
theorem d_jdk_52_method_93_9 : decode jdk_52_method_93_code 9 = .ok (.return_, 1) := by decide +kernel
theorem d_jdk_52_method_48_0 : decode jdk_52_method_48_code 0 = .ok (.iload_n 2, 1) := by decide +kernel
theorem d_jdk_52_method_48_1 : decode jdk_52_method_48_code 1 = .ok (.istore 4, 2) := by decide +kernel
theorem d_jdk_52_method_48_3 : decode jdk_52_method_48_code 3 = .ok (.iload 4, 2) := by decide +kernel
theorem d_jdk_52_method_48_5 : decode jdk_52_method_48_code 5 = .ok (.iload_n 3, 1) := by decide +kernel
theorem d_jdk_52_method_48_6 : decode jdk_52_method_48_code 6 = .ok (.if_icmp .ge 22, 3) := by decide +kernel
theorem d_jdk_52_method_48_28 : decode jdk_52_method_48_code 28 = .ok (.iconst (-1), 1) := by decide +kernel
theorem d_jdk_52_method_48_29 : decode jdk_52_method_48_code 29 = .ok (.ireturn, 1) := by decide +kernel
theorem d_jdk_52_method_48_9 : decode jdk_52_method_48_code 9 = .ok (.aload_n 0, 1) := by decide +kernel
theorem d_jdk_52_method_48_10 : decode jdk_52_method_48_code 10 = .ok (.iload 4, 2) := by decide +kernel
theorem d_jdk_52_method_48_12 : decode jdk_52_method_48_code 12 = .ok (.invokestatic 71, 3) := by decide +kernel
theorem d_jdk_52_method_48_15 : decode jdk_52_method_48_code 15 = .ok (.iload_n 1, 1) := by decide +kernel
theorem d_jdk_52_method_48_16 : decode jdk_52_method_48_code 16 = .ok (.if_icmp .ne 6, 3) := by decide +kernel
theorem d_jdk_52_method_48_22 : decode jdk_52_method_48_code 22 = .ok (.iinc 4 1, 3) := by decide +kernel
theorem d_jdk_52_method_48_25 : decode jdk_52_method_48_code 25 = .ok (.goto (-22), 3) := by decide +kernel
theorem d_jdk_52_method_48_19 : decode jdk_52_method_48_code 19 = .ok (.iload 4, 2) := by decide +kernel
theorem d_jdk_52_method_48_21 : decode jdk_52_method_48_code 21 = .ok (.ireturn, 1) := by decide +kernel
theorem d_jdk_52_method_47_0 : decode jdk_52_method_47_code 0 = .ok (.iload_n 2, 1) := by decide +kernel
theorem d_jdk_52_method_47_1 : decode jdk_52_method_47_code 1 = .ok (.iload_n 3, 1) := by decide +kernel
theorem d_jdk_52_method_47_2 : decode jdk_52_method_47_code 2 = .ok (.aload_n 0, 1) := by decide +kernel
theorem d_jdk_52_method_47_3 : decode jdk_52_method_47_code 3 = .ok (.invokestatic 96, 3) := by decide +kernel
theorem pd__II_B_V : parseMethodDescriptor "(II[B)V" = some ⟨[.int, .int, (.array .byte)], none⟩ := by decide +kernel
theorem d_jdk_52_method_47_6 : decode jdk_52_method_47_code 6 = .ok (.aload_n 0, 1) := by decide +kernel
theorem d_jdk_52_method_47_7 : decode jdk_52_method_47_code 7 = .ok (.iload_n 1, 1) := by decide +kernel
theorem d_jdk_52_method_47_8 : decode jdk_52_method_47_code 8 = .ok (.iload_n 2, 1) := by decide +kernel
theorem d_jdk_52_method_47_9 : decode jdk_52_method_47_code 9 = .ok (.iload_n 3, 1) := by decide +kernel
theorem d_jdk_52_method_47_10 : decode jdk_52_method_47_code 10 = .ok (.invokestatic 244, 3) := by decide +kernel
theorem d_jdk_52_method_47_13 : decode jdk_52_method_47_code 13 = .ok (.ireturn, 1) := by decide +kernel
theorem d_jdk_52_method_40_0 : decode jdk_52_method_40_code 0 = .ok (.iload_n 2, 1) := by decide +kernel
theorem d_jdk_52_method_40_1 : decode jdk_52_method_40_code 1 = .ok (.iconst 0, 1) := by decide +kernel
theorem d_jdk_52_method_40_2 : decode jdk_52_method_40_code 2 = .ok (.invokestatic 224, 3) := by decide +kernel
theorem d_jdk_52_method_40_5 : decode jdk_52_method_40_code 5 = .ok (.istore_n 2, 1) := by decide +kernel
theorem d_jdk_52_method_40_6 : decode jdk_52_method_40_code 6 = .ok (.iload_n 3, 1) := by decide +kernel
theorem d_jdk_52_method_40_7 : decode jdk_52_method_40_code 7 = .ok (.aload_n 0, 1) := by decide +kernel
theorem d_jdk_52_method_40_8 : decode jdk_52_method_40_code 8 = .ok (.arraylength, 1) := by decide +kernel
theorem d_jdk_52_method_40_9 : decode jdk_52_method_40_code 9 = .ok (.iconst 1, 1) := by decide +kernel
theorem d_jdk_52_method_40_10 : decode jdk_52_method_40_code 10 = .ok (.ishr, 1) := by decide +kernel
theorem d_jdk_52_method_40_11 : decode jdk_52_method_40_code 11 = .ok (.invokestatic 183, 3) := by decide +kernel
theorem d_jdk_52_method_40_14 : decode jdk_52_method_40_code 14 = .ok (.istore_n 3, 1) := by decide +kernel
theorem d_jdk_52_method_40_15 : decode jdk_52_method_40_code 15 = .ok (.iload_n 2, 1) := by decide +kernel
theorem d_jdk_52_method_40_16 : decode jdk_52_method_40_code 16 = .ok (.iload_n 3, 1) := by decide +kernel
theorem d_jdk_52_method_40_17 : decode jdk_52_method_40_code 17 = .ok (.if_icmp .lt 5, 3) := by decide +kernel
theorem d_jdk_52_method_40_22 : decode jdk_52_method_40_code 22 = .ok (.iload_n 1, 1) := by decide +kernel
theorem d_jdk_52_method_40_23 : decode jdk_52_method_40_code 23 = .ok (.ldc 227, 2) := by decide +kernel
theorem d_jdk_52_method_40_25 : decode jdk_52_method_40_code 25 = .ok (.if_icmp .ge 11, 3) := by decide +kernel
theorem d_jdk_52_method_40_28 : decode jdk_52_method_40_code 28 = .ok (.aload_n 0, 1) := by decide +kernel
theorem d_jdk_52_method_40_29 : decode jdk_52_method_40_code 29 = .ok (.iload_n 1, 1) := by decide +kernel
theorem d_jdk_52_method_40_30 : decode jdk_52_method_40_code 30 = .ok (.iload_n 2, 1) := by decide +kernel
theorem d_jdk_52_method_40_31 : decode jdk_52_method_40_code 31 = .ok (.iload_n 3, 1) := by decide +kernel
theorem d_jdk_52_method_40_32 : decode jdk_52_method_40_code 32 = .ok (.invokestatic 228, 3) := by decide +kernel
theorem d_jdk_52_method_40_35 : decode jdk_52_method_40_code 35 = .ok (.ireturn, 1) := by decide +kernel
theorem d_jdk_52_method_40_20 : decode jdk_52_method_40_code 20 = .ok (.iconst (-1), 1) := by decide +kernel
theorem d_jdk_52_method_40_21 : decode jdk_52_method_40_code 21 = .ok (.ireturn, 1) := by decide +kernel
theorem d_jdk_42_method_152_0 : decode jdk_42_method_152_code 0 = .ok (.getstatic 38, 3) := by decide +kernel
theorem d_jdk_42_method_152_3 : decode jdk_42_method_152_code 3 = .ok (.ifCond .eq 10, 3) := by decide +kernel
theorem d_jdk_42_method_152_6 : decode jdk_42_method_152_code 6 = .ok (.aload_n 0, 1) := by decide +kernel
theorem d_jdk_42_method_152_7 : decode jdk_42_method_152_code 7 = .ok (.getfield 15, 3) := by decide +kernel
theorem d_jdk_42_method_152_10 : decode jdk_42_method_152_code 10 = .ok (.goto 4, 3) := by decide +kernel
theorem d_jdk_42_method_152_14 : decode jdk_42_method_152_code 14 = .ok (.ireturn, 1) := by decide +kernel
theorem d_jdk_42_method_54_0 : decode jdk_42_method_54_code 0 = .ok (.aload_n 0, 1) := by decide +kernel
theorem d_jdk_42_method_54_1 : decode jdk_42_method_54_code 1 = .ok (.getfield 9, 3) := by decide +kernel
theorem d_jdk_42_method_54_4 : decode jdk_42_method_54_code 4 = .ok (.arraylength, 1) := by decide +kernel
theorem d_jdk_42_method_54_5 : decode jdk_42_method_54_code 5 = .ok (.aload_n 0, 1) := by decide +kernel
theorem d_jdk_42_method_54_6 : decode jdk_42_method_54_code 6 = .ok (.invokevirtual 335, 3) := by decide +kernel
theorem pd___B : parseMethodDescriptor "()B" = some ⟨[], some .byte⟩ := by decide +kernel
theorem d_jdk_42_method_54_9 : decode jdk_42_method_54_code 9 = .ok (.ishr, 1) := by decide +kernel
theorem d_jdk_42_method_54_10 : decode jdk_42_method_54_code 10 = .ok (.ireturn, 1) := by decide +kernel
theorem d_jdk_42_method_80_0 : decode jdk_42_method_80_code 0 = .ok (.aload_n 0, 1) := by decide +kernel
theorem d_jdk_42_method_80_1 : decode jdk_42_method_80_code 1 = .ok (.invokevirtual 492, 3) := by decide +kernel
theorem pd___Z : parseMethodDescriptor "()Z" = some ⟨[], some .boolean⟩ := by decide +kernel
theorem d_jdk_42_method_80_4 : decode jdk_42_method_80_code 4 = .ok (.ifCond .eq 19, 3) := by decide +kernel
theorem d_jdk_42_method_80_7 : decode jdk_42_method_80_code 7 = .ok (.aload_n 0, 1) := by decide +kernel
theorem d_jdk_42_method_80_8 : decode jdk_42_method_80_code 8 = .ok (.getfield 9, 3) := by decide +kernel
theorem d_jdk_42_method_80_11 : decode jdk_42_method_80_code 11 = .ok (.iload_n 1, 1) := by decide +kernel
theorem d_jdk_42_method_80_12 : decode jdk_42_method_80_code 12 = .ok (.iload_n 2, 1) := by decide +kernel
theorem d_jdk_42_method_80_13 : decode jdk_42_method_80_code 13 = .ok (.aload_n 0, 1) := by decide +kernel
theorem d_jdk_42_method_80_14 : decode jdk_42_method_80_code 14 = .ok (.invokevirtual 505, 3) := by decide +kernel
theorem pd___I : parseMethodDescriptor "()I" = some ⟨[], some .int⟩ := by decide +kernel
theorem d_jdk_42_method_80_17 : decode jdk_42_method_80_code 17 = .ok (.invokestatic 637, 3) := by decide +kernel
theorem d_jdk_42_method_80_20 : decode jdk_42_method_80_code 20 = .ok (.goto 16, 3) := by decide +kernel
theorem d_jdk_42_method_80_36 : decode jdk_42_method_80_code 36 = .ok (.ireturn, 1) := by decide +kernel
theorem d_jdk_42_method_80_23 : decode jdk_42_method_80_code 23 = .ok (.aload_n 0, 1) := by decide +kernel
theorem d_jdk_42_method_80_24 : decode jdk_42_method_80_code 24 = .ok (.getfield 9, 3) := by decide +kernel
theorem d_jdk_42_method_80_27 : decode jdk_42_method_80_code 27 = .ok (.iload_n 1, 1) := by decide +kernel
theorem d_jdk_42_method_80_28 : decode jdk_42_method_80_code 28 = .ok (.iload_n 2, 1) := by decide +kernel
theorem d_jdk_42_method_80_29 : decode jdk_42_method_80_code 29 = .ok (.aload_n 0, 1) := by decide +kernel
theorem d_jdk_42_method_80_30 : decode jdk_42_method_80_code 30 = .ok (.invokevirtual 505, 3) := by decide +kernel
theorem d_jdk_42_method_80_33 : decode jdk_42_method_80_code 33 = .ok (.invokestatic 640, 3) := by decide +kernel
theorem d_jdk_42_method_79_0 : decode jdk_42_method_79_code 0 = .ok (.aload_n 0, 1) := by decide +kernel
theorem d_jdk_42_method_79_1 : decode jdk_42_method_79_code 1 = .ok (.iload_n 1, 1) := by decide +kernel
theorem d_jdk_42_method_79_2 : decode jdk_42_method_79_code 2 = .ok (.iconst 0, 1) := by decide +kernel
theorem d_jdk_42_method_79_3 : decode jdk_42_method_79_code 3 = .ok (.invokevirtual 633, 3) := by decide +kernel
theorem d_jdk_42_method_79_6 : decode jdk_42_method_79_code 6 = .ok (.ireturn, 1) := by decide +kernel
theorem d_prog_56_method_1_0 : decode prog_56_method_1_code 0 = .ok (.aload_n 0, 1) := by decide +kernel
theorem d_prog_56_method_1_1 : decode prog_56_method_1_code 1 = .ok (.invokespecial 1, 3) := by decide +kernel
theorem d_prog_56_method_1_4 : decode prog_56_method_1_code 4 = .ok (.return_, 1) := by decide +kernel
theorem pn_com_example_corbel_corbel_util_AntPathMatcher : plainName "com/example/corbel/corbel/util/AntPathMatcher" = true := by first | (simp [plainName, overriddenIn]; done) | decide +kernel
theorem d_prog_56_method_2_0 : decode prog_56_method_2_code 0 = .ok (.aload_n 1, 1) := by decide +kernel
theorem d_prog_56_method_2_1 : decode prog_56_method_2_code 1 = .ok (.bipush 42, 2) := by decide +kernel
theorem d_prog_56_method_2_3 : decode prog_56_method_2_code 3 = .ok (.invokevirtual 7, 3) := by decide +kernel
theorem d_prog_56_method_2_6 : decode prog_56_method_2_code 6 = .ok (.ifCond .ge 12, 3) := by decide +kernel
theorem d_prog_56_method_2_18 : decode prog_56_method_2_code 18 = .ok (.iconst 1, 1) := by decide +kernel
theorem d_prog_56_method_2_19 : decode prog_56_method_2_code 19 = .ok (.goto 4, 3) := by decide +kernel
theorem d_prog_56_method_2_23 : decode prog_56_method_2_code 23 = .ok (.ireturn, 1) := by decide +kernel
theorem d_prog_56_method_2_9 : decode prog_56_method_2_code 9 = .ok (.aload_n 1, 1) := by decide +kernel
theorem d_prog_56_method_2_10 : decode prog_56_method_2_code 10 = .ok (.bipush 63, 2) := by decide +kernel
theorem d_prog_56_method_2_12 : decode prog_56_method_2_code 12 = .ok (.invokevirtual 7, 3) := by decide +kernel
theorem d_prog_56_method_2_15 : decode prog_56_method_2_code 15 = .ok (.ifCond .lt 7, 3) := by decide +kernel
theorem d_prog_56_method_2_22 : decode prog_56_method_2_code 22 = .ok (.iconst 0, 1) := by decide +kernel
theorem d_method_3_0 : decode method_3_code 0 = .ok (.iload_n 0, 1) := by decide +kernel
theorem d_method_3_1 : decode method_3_code 1 = .ok (.iconst 3, 1) := by decide +kernel
theorem d_method_3_2 : decode method_3_code 2 = .ok (.iand, 1) := by decide +kernel
theorem d_method_3_3 : decode method_3_code 3 = .ok (.istore_n 1, 1) := by decide +kernel
theorem d_method_3_4 : decode method_3_code 4 = .ok (.iload_n 1, 1) := by decide +kernel
theorem d_method_3_5 : decode method_3_code 5 = .ok (.ifCond .ne 6, 3) := by decide +kernel
theorem d_method_3_11 : decode method_3_code 11 = .ok (.iload_n 1, 1) := by decide +kernel
theorem d_method_3_12 : decode method_3_code 12 = .ok (.iconst 1, 1) := by decide +kernel
theorem d_method_3_13 : decode method_3_code 13 = .ok (.if_icmp .ne 6, 3) := by decide +kernel
theorem d_method_3_19 : decode method_3_code 19 = .ok (.iload_n 0, 1) := by decide +kernel
theorem d_method_3_20 : decode method_3_code 20 = .ok (.bipush 16, 2) := by decide +kernel
theorem d_method_3_22 : decode method_3_code 22 = .ok (.iushr, 1) := by decide +kernel
theorem d_method_3_23 : decode method_3_code 23 = .ok (.i2c, 1) := by decide +kernel
theorem d_method_3_24 : decode method_3_code 24 = .ok (.ireturn, 1) := by decide +kernel
theorem d_method_3_16 : decode method_3_code 16 = .ok (.bipush 63, 2) := by decide +kernel
theorem d_method_3_18 : decode method_3_code 18 = .ok (.ireturn, 1) := by decide +kernel
theorem d_method_3_8 : decode method_3_code 8 = .ok (.bipush 42, 2) := by decide +kernel
theorem d_method_3_10 : decode method_3_code 10 = .ok (.ireturn, 1) := by decide +kernel
theorem pn_com_example_corbel_corbel_util_AntPathMatcherIsPatternPinLaw : plainName "com/example/corbel/corbel/util/AntPathMatcherIsPatternPinLaw" = true := by first | (simp [plainName, overriddenIn]; done) | decide +kernel
theorem d_method_4_0 : decode method_4_code 0 = .ok (.iload_n 0, 1) := by decide +kernel
theorem d_method_4_1 : decode method_4_code 1 = .ok (.bipush 42, 2) := by decide +kernel
theorem d_method_4_3 : decode method_4_code 3 = .ok (.if_icmp .eq 9, 3) := by decide +kernel
theorem d_method_4_12 : decode method_4_code 12 = .ok (.iconst 1, 1) := by decide +kernel
theorem d_method_4_13 : decode method_4_code 13 = .ok (.goto 4, 3) := by decide +kernel
theorem d_method_4_17 : decode method_4_code 17 = .ok (.ireturn, 1) := by decide +kernel
theorem d_method_4_6 : decode method_4_code 6 = .ok (.iload_n 0, 1) := by decide +kernel
theorem d_method_4_7 : decode method_4_code 7 = .ok (.bipush 63, 2) := by decide +kernel
theorem d_method_4_9 : decode method_4_code 9 = .ok (.if_icmp .ne 7, 3) := by decide +kernel
theorem d_method_4_16 : decode method_4_code 16 = .ok (.iconst 0, 1) := by decide +kernel
theorem d_method_5_0 : decode method_5_code 0 = .ok (.iload_n 0, 1) := by decide +kernel
theorem d_method_5_1 : decode method_5_code 1 = .ok (.ifCond .ne 14, 3) := by decide +kernel
theorem d_method_5_4 : decode method_5_code 4 = .ok (.new 29, 3) := by decide +kernel
theorem d_method_5_7 : decode method_5_code 7 = .ok (.dup, 1) := by decide +kernel
theorem d_method_5_8 : decode method_5_code 8 = .ok (.iconst 0, 1) := by decide +kernel
theorem d_method_5_9 : decode method_5_code 9 = .ok (.newarray .char, 2) := by decide +kernel
theorem d_method_5_11 : decode method_5_code 11 = .ok (.invokespecial 31, 3) := by decide +kernel
theorem pd___C_V : parseMethodDescriptor "([C)V" = some ⟨[(.array .char)], none⟩ := by decide +kernel
theorem d_method_5_14 : decode method_5_code 14 = .ok (.areturn, 1) := by decide +kernel
theorem d_method_5_15 : decode method_5_code 15 = .ok (.iload_n 0, 1) := by decide +kernel
theorem d_method_5_16 : decode method_5_code 16 = .ok (.iconst 1, 1) := by decide +kernel
theorem d_method_5_17 : decode method_5_code 17 = .ok (.if_icmp .ne 23, 3) := by decide +kernel
theorem d_method_5_20 : decode method_5_code 20 = .ok (.iconst 1, 1) := by decide +kernel
theorem d_method_5_21 : decode method_5_code 21 = .ok (.newarray .char, 2) := by decide +kernel
theorem d_method_5_23 : decode method_5_code 23 = .ok (.astore 5, 2) := by decide +kernel
theorem d_method_5_25 : decode method_5_code 25 = .ok (.aload 5, 2) := by decide +kernel
theorem d_method_5_27 : decode method_5_code 27 = .ok (.iconst 0, 1) := by decide +kernel
theorem d_method_5_28 : decode method_5_code 28 = .ok (.iload_n 1, 1) := by decide +kernel
theorem d_method_5_29 : decode method_5_code 29 = .ok (.castore, 1) := by decide +kernel
theorem d_method_5_30 : decode method_5_code 30 = .ok (.new 29, 3) := by decide +kernel
theorem d_method_5_33 : decode method_5_code 33 = .ok (.dup, 1) := by decide +kernel
theorem d_method_5_34 : decode method_5_code 34 = .ok (.aload 5, 2) := by decide +kernel
theorem d_method_5_36 : decode method_5_code 36 = .ok (.invokespecial 31, 3) := by decide +kernel
theorem d_method_5_39 : decode method_5_code 39 = .ok (.areturn, 1) := by decide +kernel
theorem d_method_5_40 : decode method_5_code 40 = .ok (.iload_n 0, 1) := by decide +kernel
theorem d_method_5_41 : decode method_5_code 41 = .ok (.iconst 2, 1) := by decide +kernel
theorem d_method_5_42 : decode method_5_code 42 = .ok (.if_icmp .ne 28, 3) := by decide +kernel
theorem d_method_5_45 : decode method_5_code 45 = .ok (.iconst 2, 1) := by decide +kernel
theorem d_method_5_46 : decode method_5_code 46 = .ok (.newarray .char, 2) := by decide +kernel
theorem d_method_5_48 : decode method_5_code 48 = .ok (.astore 5, 2) := by decide +kernel
theorem d_method_5_50 : decode method_5_code 50 = .ok (.aload 5, 2) := by decide +kernel
theorem d_method_5_52 : decode method_5_code 52 = .ok (.iconst 0, 1) := by decide +kernel
theorem d_method_5_53 : decode method_5_code 53 = .ok (.iload_n 1, 1) := by decide +kernel
theorem d_method_5_54 : decode method_5_code 54 = .ok (.castore, 1) := by decide +kernel
theorem d_method_5_55 : decode method_5_code 55 = .ok (.aload 5, 2) := by decide +kernel
theorem d_method_5_57 : decode method_5_code 57 = .ok (.iconst 1, 1) := by decide +kernel
theorem d_method_5_58 : decode method_5_code 58 = .ok (.iload_n 2, 1) := by decide +kernel
theorem d_method_5_59 : decode method_5_code 59 = .ok (.castore, 1) := by decide +kernel
theorem d_method_5_60 : decode method_5_code 60 = .ok (.new 29, 3) := by decide +kernel
theorem d_method_5_63 : decode method_5_code 63 = .ok (.dup, 1) := by decide +kernel
theorem d_method_5_64 : decode method_5_code 64 = .ok (.aload 5, 2) := by decide +kernel
theorem d_method_5_66 : decode method_5_code 66 = .ok (.invokespecial 31, 3) := by decide +kernel
theorem d_method_5_69 : decode method_5_code 69 = .ok (.areturn, 1) := by decide +kernel
theorem d_method_5_70 : decode method_5_code 70 = .ok (.iload_n 0, 1) := by decide +kernel
theorem d_method_5_71 : decode method_5_code 71 = .ok (.iconst 3, 1) := by decide +kernel
theorem d_method_5_72 : decode method_5_code 72 = .ok (.if_icmp .ne 33, 3) := by decide +kernel
theorem d_method_5_75 : decode method_5_code 75 = .ok (.iconst 3, 1) := by decide +kernel
theorem d_method_5_76 : decode method_5_code 76 = .ok (.newarray .char, 2) := by decide +kernel
theorem d_method_5_78 : decode method_5_code 78 = .ok (.astore 5, 2) := by decide +kernel
theorem d_method_5_80 : decode method_5_code 80 = .ok (.aload 5, 2) := by decide +kernel
theorem d_method_5_82 : decode method_5_code 82 = .ok (.iconst 0, 1) := by decide +kernel
theorem d_method_5_83 : decode method_5_code 83 = .ok (.iload_n 1, 1) := by decide +kernel
theorem d_method_5_84 : decode method_5_code 84 = .ok (.castore, 1) := by decide +kernel
theorem d_method_5_85 : decode method_5_code 85 = .ok (.aload 5, 2) := by decide +kernel
theorem d_method_5_87 : decode method_5_code 87 = .ok (.iconst 1, 1) := by decide +kernel
theorem d_method_5_88 : decode method_5_code 88 = .ok (.iload_n 2, 1) := by decide +kernel
theorem d_method_5_89 : decode method_5_code 89 = .ok (.castore, 1) := by decide +kernel
theorem d_method_5_90 : decode method_5_code 90 = .ok (.aload 5, 2) := by decide +kernel
theorem d_method_5_92 : decode method_5_code 92 = .ok (.iconst 2, 1) := by decide +kernel
theorem d_method_5_93 : decode method_5_code 93 = .ok (.iload_n 3, 1) := by decide +kernel
theorem d_method_5_94 : decode method_5_code 94 = .ok (.castore, 1) := by decide +kernel
theorem d_method_5_95 : decode method_5_code 95 = .ok (.new 29, 3) := by decide +kernel
theorem d_method_5_98 : decode method_5_code 98 = .ok (.dup, 1) := by decide +kernel
theorem d_method_5_99 : decode method_5_code 99 = .ok (.aload 5, 2) := by decide +kernel
theorem d_method_5_101 : decode method_5_code 101 = .ok (.invokespecial 31, 3) := by decide +kernel
theorem d_method_5_104 : decode method_5_code 104 = .ok (.areturn, 1) := by decide +kernel
theorem d_method_5_105 : decode method_5_code 105 = .ok (.iconst 4, 1) := by decide +kernel
theorem d_method_5_106 : decode method_5_code 106 = .ok (.newarray .char, 2) := by decide +kernel
theorem d_method_5_108 : decode method_5_code 108 = .ok (.astore 5, 2) := by decide +kernel
theorem d_method_5_110 : decode method_5_code 110 = .ok (.aload 5, 2) := by decide +kernel
theorem d_method_5_112 : decode method_5_code 112 = .ok (.iconst 0, 1) := by decide +kernel
theorem d_method_5_113 : decode method_5_code 113 = .ok (.iload_n 1, 1) := by decide +kernel
theorem d_method_5_114 : decode method_5_code 114 = .ok (.castore, 1) := by decide +kernel
theorem d_method_5_115 : decode method_5_code 115 = .ok (.aload 5, 2) := by decide +kernel
theorem d_method_5_117 : decode method_5_code 117 = .ok (.iconst 1, 1) := by decide +kernel
theorem d_method_5_118 : decode method_5_code 118 = .ok (.iload_n 2, 1) := by decide +kernel
theorem d_method_5_119 : decode method_5_code 119 = .ok (.castore, 1) := by decide +kernel
theorem d_method_5_120 : decode method_5_code 120 = .ok (.aload 5, 2) := by decide +kernel
theorem d_method_5_122 : decode method_5_code 122 = .ok (.iconst 2, 1) := by decide +kernel
theorem d_method_5_123 : decode method_5_code 123 = .ok (.iload_n 3, 1) := by decide +kernel
theorem d_method_5_124 : decode method_5_code 124 = .ok (.castore, 1) := by decide +kernel
theorem d_method_5_125 : decode method_5_code 125 = .ok (.aload 5, 2) := by decide +kernel
theorem d_method_5_127 : decode method_5_code 127 = .ok (.iconst 3, 1) := by decide +kernel
theorem d_method_5_128 : decode method_5_code 128 = .ok (.iload 4, 2) := by decide +kernel
theorem d_method_5_130 : decode method_5_code 130 = .ok (.castore, 1) := by decide +kernel
theorem d_method_5_131 : decode method_5_code 131 = .ok (.new 29, 3) := by decide +kernel
theorem d_method_5_134 : decode method_5_code 134 = .ok (.dup, 1) := by decide +kernel
theorem d_method_5_135 : decode method_5_code 135 = .ok (.aload 5, 2) := by decide +kernel
theorem d_method_5_137 : decode method_5_code 137 = .ok (.invokespecial 31, 3) := by decide +kernel
theorem d_method_5_140 : decode method_5_code 140 = .ok (.areturn, 1) := by decide +kernel
theorem pd__I_C : parseMethodDescriptor "(I)C" = some ⟨[.int], some .char⟩ := by decide +kernel
theorem pd__ICCCC_Ljava_lang_String_ : parseMethodDescriptor "(ICCCC)Ljava/lang/String;" = some ⟨[.int, .char, .char, .char, .char], some (.object "java/lang/String")⟩ := by decide +kernel
theorem pd___V : parseMethodDescriptor "()V" = some ⟨[], none⟩ := by decide +kernel
theorem pd__Ljava_lang_String__Z : parseMethodDescriptor "(Ljava/lang/String;)Z" = some ⟨[(.object "java/lang/String")], some .boolean⟩ := by decide +kernel
theorem pd__C_Z : parseMethodDescriptor "(C)Z" = some ⟨[.char], some .boolean⟩ := by decide +kernel
def u0 (c : Int32) : Value := .int (c >>> ((0 : Int32) &&& 31)).toInt8.toInt32
def u1 (c : Int32) : Value := .int (c >>> ((8 : Int32) &&& 31)).toInt8.toInt32
def utf (cs : List Int32) : List Value := cs.flatMap fun c => [u0 c, u1 c]
theorem utf_len (cs : List Int32) : (utf cs).length = 2 * cs.length := by
  induction cs with
  | nil => rfl
  | cons c cs ih => simp only [utf, List.flatMap_cons, List.length_append, List.length_cons, List.length_nil] at ih ⊢; omega
theorem utf_at (cs : List Int32) : ∀ (i : Nat) (h : i < cs.length) (d : Value), (utf cs).getD (2 * i) d = u0 cs[i] ∧ (utf cs).getD (2 * i + 1) d = u1 cs[i] := by
  induction cs with
  | nil => intro i h; exact absurd h (Nat.not_lt_zero _)
  | cons c cs ih =>
    intro i h d
    cases i with
    | zero => exact ⟨rfl, rfl⟩
    | succ i =>
      have q := ih i (by simpa using h) d
      exact q
def layU (z : Value) (cs : List Int32) (j : Nat) : List Value := utf (cs.take j) ++ List.replicate (2 * (cs.length - j)) z
theorem layU_len (z : Value) (cs : List Int32) (j : Nat) (h : j ≤ cs.length) : (layU z cs j).length = 2 * cs.length := by
  simp only [layU, List.length_append, utf_len, List.length_take, List.length_replicate]; omega
theorem layU_set (z : Value) (cs : List Int32) : ∀ (j : Nat) (h : j < cs.length), ((layU z cs j).set (2 * j) (u0 cs[j])).set (2 * j + 1) (u1 cs[j]) = layU z cs (j + 1) := by
  induction cs with
  | nil => intro j h; exact absurd h (Nat.not_lt_zero _)
  | cons c cs ih =>
    intro j h
    cases j with
    | zero =>
      simp only [layU, List.take_zero, List.take_succ_cons, List.length_cons, List.getElem_cons_zero]
      rw [show 2 * (cs.length + 1 - 0) = 2 * cs.length + 1 + 1 by omega, List.replicate_succ, List.replicate_succ, show cs.length + 1 - (0 + 1) = cs.length by omega]
      rfl
    | succ j =>
      have q := ih j (by simpa using h)
      simp only [layU, List.take_succ_cons, List.length_cons, List.getElem_cons_succ] at q ⊢
      rw [show cs.length + 1 - (j + 1) = cs.length - j by omega, show cs.length + 1 - (j + 1 + 1) = cs.length - (j + 1) by omega]
      exact congrArg (fun l => u0 c :: u1 c :: l) q
theorem layU_all (z : Value) (cs : List Int32) : layU z cs cs.length = utf cs := by simp [layU]
theorem layU_zero (z : Value) (cs : List Int32) : layU z cs 0 = List.replicate (2 * cs.length) z := by simp [layU, utf]
theorem shl1 {n : Nat} (h : n < 1000000) : Int32.ofNat n <<< ((1 : Int32) &&& 31) = Int32.ofNat (2 * n) := by
  apply Int32.toInt_inj.mp
  have q := c_ishl (Int32.ofNat n) 1 1 rfl
  have r := rng32 (Int32.ofNat n <<< ((1 : Int32) &&& 31))
  rw [o32_toInt n (by omega)] at q
  rw [o32_toInt (2 * n) (by omega)]
  omega
theorem shr1 {n : Nat} (h : n < 1000000) : Int32.ofNat (2 * n) >>> ((1 : Int32) &&& 31) = Int32.ofNat n := by
  apply Int32.toInt_inj.mp
  rw [c_ishr (Int32.ofNat (2 * n)) 1 1 rfl, o32_toInt (2 * n) (by omega), o32_toInt n (by omega)]
  omega
theorem pairC {c : Int32} (h0 : ¬ c < 0) (h1 : ¬ 65535 < c) : ((((c >>> ((0 : Int32) &&& 31)).toInt8.toInt32 &&& 255) <<< ((0 : Int32) &&& 31)) ||| (((c >>> ((8 : Int32) &&& 31)).toInt8.toInt32 &&& 255) <<< ((8 : Int32) &&& 31))).toUInt32.toUInt16.toUInt32.toInt32 = c := by
  rw [Int32.lt_iff_toInt_lt] at h0 h1
  have z0 : (0 : Int32).toInt = 0 := rfl
  have z1 : (65535 : Int32).toInt = 65535 := rfl
  have a1 := c_ishr c 0 0 rfl
  have a2 := c_ishr c 8 8 rfl
  generalize c >>> ((0 : Int32) &&& 31) = x0 at *
  generalize c >>> ((8 : Int32) &&& 31) = x1 at *
  have b1 := c_i2b x0
  have b2 := c_i2b x1
  have m1 := c_mask x0.toInt8.toInt32 255 8 (by decide) rfl
  have m2 := c_mask x1.toInt8.toInt32 255 8 (by decide) rfl
  generalize x0.toInt8.toInt32 = y0 at *
  generalize x1.toInt8.toInt32 = y1 at *
  generalize y0 &&& 255 = w0 at *
  generalize y1 &&& 255 = w1 at *
  have s1 := c_ishl w0 0 0 rfl
  have s2 := c_ishl w1 8 8 rfl
  have r1 := rng32 (w0 <<< ((0 : Int32) &&& 31))
  have r2 := rng32 (w1 <<< ((8 : Int32) &&& 31))
  generalize w0 <<< ((0 : Int32) &&& 31) = v0 at *
  generalize w1 <<< ((8 : Int32) &&& 31) = v1 at *
  have o1 := c_or' v0 v1 8 (by decide) 256 rfl (by omega) (by omega) (by omega)
  have o2 := rng32 (v0 ||| v1)
  generalize v0 ||| v1 = t at *
  have f := c_i2c t
  apply Int32.toInt_inj.mp
  omega
theorem cod1 {n : Nat} (h : n < 1000000) (h0 : n ≠ 0) : ((Int32.ofNat n - Int32.ofNat (2 * n)).toUInt32 >>> ((31 : Int32) &&& 31).toUInt32).toInt32.toInt8.toInt32 = 1 := by
  have s := c_isub (Int32.ofNat n) (Int32.ofNat (2 * n))
  rw [o32_toInt n (by omega), o32_toInt (2 * n) (by omega)] at s
  have r := rng32 (Int32.ofNat n - Int32.ofNat (2 * n))
  have u := c_iushr (Int32.ofNat n - Int32.ofNat (2 * n)) 31 31 rfl (by decide)
  generalize ((Int32.ofNat n - Int32.ofNat (2 * n)).toUInt32 >>> ((31 : Int32) &&& 31).toUInt32).toInt32 = t at *
  have b := c_i2b t
  have z1 : (1 : Int32).toInt = 1 := rfl
  apply Int32.toInt_inj.mp
  omega
/-- a String, of either form -/
def StrG (Z : State) (h : Heap) (a t : Addr) (cs : List Int32) : Prop :=
  Exa Z h a "java/lang/String" ∧ Fld Z h a "java/lang/String" "value" "[B" (.ref t) ∧ cs.length ≤ 1000 ∧ (∀ c ∈ cs, ¬ c < 0 ∧ ¬ 65535 < c) ∧
    ((Fld Z h a "java/lang/String" "coder" "B" (.int 0) ∧ (∃ kt, Arv Z h t kt .byte (Int32.ofNat cs.length) (cs.map lo) (.int 0)) ∧ ∀ c ∈ cs, ¬ 255 < c) ∨ (Fld Z h a "java/lang/String" "coder" "B" (.int 1) ∧ ∃ kt, Arv Z h t kt .byte (Int32.ofNat (2 * cs.length)) (utf cs) (.int 0)))
theorem StrG.ext {Z : State} {h h' : Heap} {a t : Addr} {cs : List Int32} (F : StrG Z h a t cs) (E : Ext h h') : StrG Z h' a t cs := by
  obtain ⟨h1, h2, h3, h4, r⟩ := F
  refine ⟨h1.ext E, h2.ext E, h3, h4, ?_⟩
  rcases r with ⟨r1, ⟨kt, r2⟩, r3⟩ | ⟨r1, kt, r2⟩
  · exact Or.inl ⟨r1.ext E, ⟨kt, r2.ext E⟩, r3⟩
  · exact Or.inr ⟨r1.ext E, kt, r2.ext E⟩
theorem StrG.keep {Z : State} {h h' : Heap} {a t : Addr} {cs : List Int32} {ws : List Addr} (F : StrG Z h a t cs) (K : Keep h h' ws) (q : a ∉ ws) (q' : t ∉ ws) : StrG Z h' a t cs := by
  obtain ⟨h1, h2, h3, h4, r⟩ := F
  refine ⟨h1.keep K, h2.keep K q, h3, h4, ?_⟩
  rcases r with ⟨r1, ⟨kt, r2⟩, r3⟩ | ⟨r1, kt, r2⟩
  · exact Or.inl ⟨r1.keep K q, ⟨kt, r2.keep K q'⟩, r3⟩
  · exact Or.inr ⟨r1.keep K q, kt, r2.keep K q'⟩
theorem StrG.other {Z : State} {h h' : Heap} {a t x : Addr} {sl : Nat} {v : Value} {cs : List Int32} (F : StrG Z h a t cs) (W : Wr h h' x sl v) (q : a ≠ x) (q' : t ≠ x) : StrG Z h' a t cs := F.keep (Keep.of_wr W) (ninS q nin0) (ninS q' nin0)
theorem StrG.lt {Z : State} {h : Heap} {a t : Addr} {cs : List Int32} (F : StrG Z h a t cs) : a < h.size := F.1.lt

theorem i2c_rng (x : Int32) : ¬ x.toUInt32.toUInt16.toUInt32.toInt32 < 0 ∧ ¬ 65535 < x.toUInt32.toUInt16.toUInt32.toInt32 := by
  have q := c_i2c x
  have z0 : (0 : Int32).toInt = 0 := rfl
  have z1 : (65535 : Int32).toInt = 65535 := rfl
  rw [Int32.lt_iff_toInt_lt, Int32.lt_iff_toInt_lt]
  omega
theorem and5 (x : Int32) : ∃ i, i ≤ 4 ∧ (x &&& 2147483647) % 5 = Int32.ofNat i := by
  have r := c_and x 2147483647 (by decide)
  have z7 : (2147483647 : Int32).toInt = 2147483647 := rfl
  have q := (c_irem (x &&& 2147483647) 5 5 rfl).1 r.1
  refine ⟨((x &&& 2147483647) % 5).toInt.toNat, by omega, ?_⟩
  apply Int32.toInt_inj.mp
  rw [o32_toInt _ (by omega)]
  omega
def rw16 (c : Int32) : Prop := ¬ c < 0 ∧ ¬ 65535 < c
/-- what indexOf says of k on: a place, or -1 -/
def ix (cs : List Int32) (ch : Int32) : Nat → Nat → Int32
  | k, 0 => -1
  | k, n + 1 => if cs.getD k 0 = ch then Int32.ofNat k else ix cs ch (k + 1) n
theorem ix_neg (cs : List Int32) (ch : Int32) : ∀ (n k : Nat), k + n ≤ 1000 → (ix cs ch k n < 0 ↔ ∀ i, k ≤ i → i < k + n → ¬ cs.getD i 0 = ch) := by
  intro n
  induction n with
  | zero => intro k hk; exact ⟨fun _ i h1 h2 => absurd h2 (by omega), fun _ => by unfold ix; decide⟩
  | succ n ih =>
    intro k hk
    unfold ix
    by_cases h : cs.getD k 0 = ch
    · rw [if_pos h]
      exact ⟨fun q => absurd q (o32_nn (by omega)), fun q => absurd h (q k (Nat.le_refl _) (by omega))⟩
    · rw [if_neg h, ih (k + 1) (by omega)]
      constructor
      · intro q i h1 h2
        rcases Nat.eq_or_lt_of_le h1 with e | e
        · exact e ▸ h
        · exact q i e (by omega)
      · intro q i h1 h2; exact q i (by omega) (by omega)
def isW (c : Int32) : Bool := decide (c = 42) || decide (c = 63)
def pat (cs : List Int32) : Bool := cs.any isW
theorem getD_at {cs : List Int32} {j : Nat} (h : j < cs.length) : cs.getD j 0 = cs[j] := by simp [List.getD, h]
theorem ix_pat (cs : List Int32) (hN : cs.length ≤ 1000) : (¬ ix cs 42 0 cs.length < 0 ∨ ¬ ix cs 63 0 cs.length < 0) ↔ pat cs = true := by
  rw [ix_neg cs 42 cs.length 0 (by omega), ix_neg cs 63 cs.length 0 (by omega)]
  unfold pat
  rw [List.any_eq_true]
  constructor
  · intro q
    apply Classical.byContradiction
    intro hno
    have key : ∀ i, i < cs.length → ¬ cs.getD i 0 = 42 ∧ ¬ cs.getD i 0 = 63 := fun i hi => by
      rw [getD_at hi]
      have z : isW cs[i] = false := by
        cases hz : isW cs[i] with
        | false => rfl
        | true => exact absurd ⟨_, List.getElem_mem hi, hz⟩ hno
      simpa [isW] using z
    rcases q with q | q
    · exact q fun i _ h2 => (key i (by omega)).1
    · exact q fun i _ h2 => (key i (by omega)).2
  · rintro ⟨c, hc, hw⟩
    obtain ⟨i, hi, rfl⟩ := List.mem_iff_getElem.mp hc
    have z : cs[i] = 42 ∨ cs[i] = 63 := by simpa [isW] using hw
    rcases z with z | z
    · exact Or.inl fun q => q i (Nat.zero_le _) (by omega) ((getD_at hi).trans z)
    · exact Or.inr fun q => q i (Nat.zero_le _) (by omega) ((getD_at hi).trans z)
def mkS (n : Nat) (c0 c1 c2 c3 : Int32) : List Int32 := [c0, c1, c2, c3].take n
def expd (n : Nat) (c0 c1 c2 c3 : Int32) : Bool := (decide (0 < n) && isW c0) || ((decide (1 < n) && isW c1) || ((decide (2 < n) && isW c2) || (decide (3 < n) && isW c3)))
theorem pat_expd {n : Nat} (h : n ≤ 4) (c0 c1 c2 c3 : Int32) : pat (mkS n c0 c1 c2 c3) = expd n c0 c1 c2 c3 := by
  match n, h with
  | 0, _ => simp [pat, mkS, expd]
  | 1, _ => simp [pat, mkS, expd]
  | 2, _ => simp [pat, mkS, expd]
  | 3, _ => simp [pat, mkS, expd]
  | 4, _ => simp [pat, mkS, expd]
theorem StrG.ofStr {Z : State} {h : Heap} {a t : Addr} {cs : List Int32} (F : Str Z h a t cs) : StrG Z h a t cs := by
  obtain ⟨h1, h2, h3, h4, h5, h6⟩ := F
  exact ⟨h1, h3, h5, fun c hc => ⟨(h6 c hc).1, no_big (h6 c hc).2⟩, Or.inl ⟨h2, h4, fun c hc => (h6 c hc).2⟩⟩
set_option maxRecDepth 65536 in
set_option maxHeartbeats 40000000 in
theorem ctCmp5 (l : Launch) (Z : State) (a0 : Array Value) (hw : ∀ d ∈ tables_1, d.before a0 Z = true) (b d : Addr) (kb kd : ClassId) (cs : List Int32) (h0 : Heap) (hN : cs.length ≤ 1000) (hbd : b ≠ d) (gz : Z.heap.size ≤ d) (A0 : Arv Z h0 b kb .char (Int32.ofNat cs.length) (cs.map .int) (.int 0)) (B0 : Arv Z h0 d kd .byte (Int32.ofNat cs.length) (lay lo (.int 0) cs 0) (.int 0)) :
    W.Ct wd Z a0 el l (⟨"java/lang/StringUTF16", "compress", "([CI[BII)I"⟩ : MethodName) jdk_52_method_21_code 7 (some .int) ({ frames := 0, cells := 0, slots := 0, locals := 0 } : Room) #[(.ref b), (.int (0 : Int32)), (.ref d), (.int (0 : Int32)), (.int (Int32.ofNat cs.length))] h0 [d] (fun v h S => v = some (.int (Int32.ofNat (cs.findIdx big))) ∧ Keep h0 h [d] ∧ Arv Z h d kd .byte (Int32.ofNat cs.length) (lay lo (.int 0) cs (cs.findIdx big)) (.int 0)) := by
  refine W.Ct.walk hwe (plainFor_of_name pn_java_lang_StringUTF16) ?_
  intro p e s m below meth c T hE0 X
  refine W.castG (show entryFrame m #[(.ref b), (.int (0 : Int32)), (.ref d), (.int (0 : Int32)), (.int (Int32.ofNat cs.length))] 7 = mkF m 0 #[.val (.ref b), .val (.int (0 : Int32)), .val (.ref d), .val (.int (0 : Int32)), .val (.int (Int32.ofNat cs.length)), .unset, .unset] [] from by first | (simp [entryFrame, mkF, argsToLocals, Value.category]; done) | rfl) ?_
  refine W.o_iconst X (0 : Int32) (pc' := 1) d_jdk_52_method_21_0 rfl rfl ?_
  refine W.o_istore X (pc' := 3) d_jdk_52_method_21_1 rfl (L' := #[.val (.ref b), .val (.int (0 : Int32)), .val (.ref d), .val (.int (0 : Int32)), .val (.int (Int32.ofNat cs.length)), .val (.int (0 : Int32)), .unset]) rfl ?_
  have loop : ∀ (k j : Nat), j + k = cs.length → (∀ i (hi : i < j) (hl : i < cs.length), big cs[i] = false) → ∀ (T : State) (h : Heap) (s6 : Slot), (s6 = .unset ∨ ∃ x, s6 = .val (.int x)) → W.St wd Z a0 el (⟨"java/lang/StringUTF16", "compress", "([CI[BII)I"⟩ : MethodName) jdk_52_method_21_code 7 (some .int) p l e ({ frames := 0, cells := 0, slots := 0, locals := 0 } : Room) s m #[(.ref b), (.int (0 : Int32)), (.ref d), (.int (0 : Int32)), (.int (Int32.ofNat cs.length))] below meth c T h [d] 0 0 → Keep h0 h [d] → Arv Z h d kd .byte (Int32.ofNat cs.length) (lay lo (.int 0) cs j) (.int 0) → W.Go wd Z el ({ frames := 0, cells := 0, slots := 0, locals := 0 } : Room).cells ({ frames := 0, cells := 0, slots := 0, locals := 0 } : Room).slots (fun v h S => v = some (.int (Int32.ofNat (cs.findIdx big))) ∧ Keep h0 h [d] ∧ Arv Z h d kd .byte (Int32.ofNat cs.length) (lay lo (.int 0) cs (cs.findIdx big)) (.int 0)) p e s below T (mkF m 3 #[.val (.ref b), .val (.int (Int32.ofNat j)), .val (.ref d), .val (.int (Int32.ofNat j)), .val (.int (Int32.ofNat cs.length)), .val (.int (Int32.ofNat j)), s6] []) := by
    intro k
    induction k with
    | zero =>
      intro j hj hp T h s6 h6 X K B
      have e : cs.findIdx big = j := by
        rw [show j = cs.length by omega]
        exact List.findIdx_eq_length.mpr fun x hx => by
          obtain ⟨i, hi, rfl⟩ := List.mem_iff_getElem.mp hx
          exact hp i (by omega) hi
      refine W.o_iload X (pc' := 5) d_jdk_52_method_21_3 rfl rfl ?_
      refine W.o_iload X (pc' := 7) d_jdk_52_method_21_5 rfl rfl ?_
      refine W.o_if_icmpge X (pt := 44) (pf := 10) d_jdk_52_method_21_7 ⟨by decide, by decide⟩ rfl (fun _ => ?_) (fun hc => absurd hc (o32_ge (by omega) (by omega)))
      refine W.o_iload X (pc' := 46) d_jdk_52_method_21_44 rfl rfl ?_
      refine W.o_ireturnI X d_jdk_52_method_21_46 rfl (by decide) (by decide) fun P hP => ⟨?_, K, ?_⟩
      · rw [e, show j = cs.length by omega]
      · rw [e]; exact B
    | succ k ih =>
      intro j hj hp T h s6 h6 X K B
      have hjl : j < cs.length := by omega
      have A := A0.keep K (ninS hbd nin0)
      rcases h6 with rfl | ⟨x6, rfl⟩
      all_goals
        refine W.o_iload X (pc' := 5) d_jdk_52_method_21_3 rfl rfl ?_
        refine W.o_iload X (pc' := 7) d_jdk_52_method_21_5 rfl rfl ?_
        refine W.o_if_icmpge X (pt := 44) (pf := 10) d_jdk_52_method_21_7 ⟨by decide, by decide⟩ rfl (fun hc => absurd (o32_lt hjl (by omega)).2 hc) (fun _ => ?_)
        refine W.o_aloadN X (pc' := 11) d_jdk_52_method_21_10 rfl rfl rfl ?_
        refine W.o_iloadN X (pc' := 12) d_jdk_52_method_21_11 rfl rfl ?_
        refine W.o_caload X (pc' := 13) d_jdk_52_method_21_12 rfl A (o32_lt hjl (by omega)) (v := .int cs[j]) (by rw [o32_clamp (by omega)]; exact getD_map hjl _) ?_
        refine W.o_istore X (pc' := 15) d_jdk_52_method_21_13 rfl (L' := #[.val (.ref b), .val (.int (Int32.ofNat j)), .val (.ref d), .val (.int (Int32.ofNat j)), .val (.int (Int32.ofNat cs.length)), .val (.int (Int32.ofNat j)), .val (.int cs[j])]) rfl ?_
        refine W.o_iload X (pc' := 17) d_jdk_52_method_21_15 rfl rfl ?_
        refine W.o_sipush X (255 : Int32) (pc' := 20) d_jdk_52_method_21_17 rfl rfl ?_
        refine W.o_if_icmple X (pt := 26) (pf := 23) d_jdk_52_method_21_20 ⟨by decide, by decide⟩ rfl (fun hc => ?_) (fun hc => ?_)
        · have hp' : ∀ i (hi : i < j + 1) (hl : i < cs.length), big cs[i] = false := fun i hi hl => by
            rcases Nat.lt_succ_iff_lt_or_eq.mp hi with q | q
            · exact hp i q hl
            · subst q; exact decide_eq_false hc
          refine W.o_aloadN X (pc' := 27) d_jdk_52_method_21_26 rfl rfl rfl ?_
          refine W.o_iloadN X (pc' := 28) d_jdk_52_method_21_27 rfl rfl ?_
          refine W.o_iload X (pc' := 30) d_jdk_52_method_21_28 rfl rfl ?_
          refine W.o_i2b X (pc' := 31) d_jdk_52_method_21_30 rfl ?_
          refine W.o_bastore X (pc' := 32) d_jdk_52_method_21_31 rfl B j (o32_clamp (by omega)) (o32_lt hjl (by omega)) (by rw [lay_len _ _ _ _ (by omega)]; exact hjl) gz (Or.inr (Or.inl (by simp))) (fun T h' w' B' X => ?_)
          rw [nar_bb] at B'
          have B2 : Arv Z h' d kd .byte (Int32.ofNat cs.length) (lay lo (.int 0) cs (j + 1)) (.int 0) := by rw [← lay_set lo (.int 0) cs j hjl]; exact B'
          refine W.o_iinc X (1 : Int32) (pc' := 35) d_jdk_52_method_21_32 rfl rfl rfl (L' := #[.val (.ref b), .val (.int ((Int32.ofNat j) + (1 : Int32))), .val (.ref d), .val (.int (Int32.ofNat j)), .val (.int (Int32.ofNat cs.length)), .val (.int (Int32.ofNat j)), .val (.int cs[j])]) rfl ?_
          refine W.o_iinc X (1 : Int32) (pc' := 38) d_jdk_52_method_21_35 rfl rfl rfl (L' := #[.val (.ref b), .val (.int ((Int32.ofNat j) + (1 : Int32))), .val (.ref d), .val (.int ((Int32.ofNat j) + (1 : Int32))), .val (.int (Int32.ofNat cs.length)), .val (.int (Int32.ofNat j)), .val (.int cs[j])]) rfl ?_
          refine W.o_iinc X (1 : Int32) (pc' := 41) d_jdk_52_method_21_38 rfl rfl rfl (L' := #[.val (.ref b), .val (.int ((Int32.ofNat j) + (1 : Int32))), .val (.ref d), .val (.int ((Int32.ofNat j) + (1 : Int32))), .val (.int (Int32.ofNat cs.length)), .val (.int ((Int32.ofNat j) + (1 : Int32))), .val (.int cs[j])]) rfl ?_
          refine W.o_goto X (pc' := 3) d_jdk_52_method_21_41 ⟨by decide, by decide⟩ ?_
          rw [o32_succ]
          exact ih (j + 1) (by omega) hp' T h' _ (Or.inr ⟨_, rfl⟩) X (K.wr w' (Or.inl (by simp))) B2
        · have e : cs.findIdx big = j := (List.findIdx_eq hjl).mpr ⟨decide_eq_true hc, fun i hi => hp i hi (by omega)⟩
          refine W.o_iload X (pc' := 25) d_jdk_52_method_21_23 rfl rfl ?_
          exact W.o_ireturnI X d_jdk_52_method_21_25 rfl (by decide) (by decide) fun P hP => ⟨by rw [e], K, by rw [e]; exact B⟩
  exact loop cs.length 0 (by omega) (fun i hi => absurd hi (Nat.not_lt_zero i)) _ h0 _ (Or.inl rfl) X (Keep.refl _ _) B0
set_option maxRecDepth 65536 in
set_option maxHeartbeats 40000000 in
theorem ctNBL (l : Launch) (Z : State) (a0 : Array Value) (hw : ∀ d ∈ tables_1, d.before a0 Z = true) (n : Nat) (h0 : Heap) (hn : n ≤ 1000) :
    W.Ct wd Z a0 el l (⟨"java/lang/StringUTF16", "newBytesLength", "(I)I"⟩ : MethodName) jdk_52_method_3_code 1 (some .int) ({ frames := 0, cells := 0, slots := 0, locals := 0 } : Room) #[(.int (Int32.ofNat n))] h0 [] (fun v h S => v = some (.int (Int32.ofNat (2 * n))) ∧ h = h0) := by
  refine W.Ct.walk hwe (plainFor_of_name pn_java_lang_StringUTF16) ?_
  intro p e s m below meth c T hE0 X
  refine W.castG (show entryFrame m #[(.int (Int32.ofNat n))] 1 = mkF m 0 #[.val (.int (Int32.ofNat n))] [] from by first | (simp [entryFrame, mkF, argsToLocals, Value.category]; done) | rfl) ?_
  refine W.o_iloadN X (pc' := 1) d_jdk_52_method_3_0 rfl rfl ?_
  refine W.o_ifge X (pt := 12) (pf := 4) d_jdk_52_method_3_1 ⟨by decide, by decide⟩ rfl (fun _ => ?_) (fun hc => absurd hc (o32_nn (by omega)))
  refine W.o_iloadN X (pc' := 13) d_jdk_52_method_3_12 rfl rfl ?_
  refine W.o_ldcI X (v := (1073741823 : Int32)) (pc' := 15) d_jdk_52_method_3_13 rfl (hw _ (List.mem_of_getElem? (i := 107) rfl)) ?_
  refine W.o_if_icmplt X (pt := 55) (pf := 18) d_jdk_52_method_3_15 ⟨by decide, by decide⟩ rfl (fun _ => ?_) (fun hc => absurd (o32_lt (n := 1073741823) (by omega) (by decide)).2 hc)
  refine W.o_iloadN X (pc' := 56) d_jdk_52_method_3_55 rfl rfl ?_
  refine W.o_iconst X (1 : Int32) (pc' := 57) d_jdk_52_method_3_56 rfl rfl ?_
  refine W.o_ishl X (pc' := 58) d_jdk_52_method_3_57 rfl ?_
  rw [shl1 (by omega)]
  exact W.o_ireturnI X d_jdk_52_method_3_58 rfl (by decide) (by decide) fun P hP => ⟨rfl, rfl⟩
set_option maxRecDepth 65536 in
set_option maxHeartbeats 40000000 in
theorem ctNBF (l : Launch) (Z : State) (a0 : Array Value) (hw : ∀ d ∈ tables_1, d.before a0 Z = true) (n : Nat) (h0 : Heap) (hn : 2 * n ≤ 16) :
    W.Ct wd Z a0 el l (⟨"java/lang/StringUTF16", "newBytesFor", "(I)[B"⟩ : MethodName) jdk_52_method_2_code 1 (some (.array .byte)) ({ frames := 1, cells := 1, slots := 16, locals := 12 } : Room) #[(.int (Int32.ofNat n))] h0 [] (fun v h S => ∃ d kd, v = some (.ref d) ∧ Keep h0 h [] ∧ h0.size ≤ d ∧ Arv Z h d kd .byte (Int32.ofNat (2 * n)) (List.replicate (2 * n) (.int 0)) (.int 0) ∧ S d) := by
  refine W.Ct.walk hwe (plainFor_of_name pn_java_lang_StringUTF16) ?_
  intro p e s m below meth c T hE0 X
  refine W.castG (show entryFrame m #[(.int (Int32.ofNat n))] 1 = mkF m 0 #[.val (.int (Int32.ofNat n))] [] from by first | (simp [entryFrame, mkF, argsToLocals, Value.category]; done) | rfl) ?_
  refine W.o_iloadN X (pc' := 1) d_jdk_52_method_2_0 rfl rfl ?_
  refine W.o_static X (pc' := 4) d_jdk_52_method_2_1 rfl (z := (⟨"java/lang/StringUTF16", "newBytesLength", "(I)I"⟩ : MethodName)) (hw _ (List.mem_of_getElem? (i := 104) rfl)) (hw _ (List.mem_of_getElem? (i := 105) rfl)) (hw _ (List.mem_of_getElem? (i := 84) rfl)) (hw _ (List.mem_of_getElem? (i := 106) rfl)) (by decide) (ctNBL l Z a0 hw n h0 (by omega)) (fun _ q => nomatch q) [(.int (Int32.ofNat n))] rfl (rest := []) rfl pd__I_I rfl rfl (by decide) (by exact Nat.le_of_ble_eq_true rfl) (by decide) (by decide) (fun v1 T q2 => ?_)
  obtain ⟨h5, S3, ⟨rfl, eh⟩, X4⟩ := q2
  have eh := eh.symm
  subst eh
  have X := X4 [] all0
  show W.Go _ _ _ _ _ _ _ _ _ _ _ (mkF m 4 #[.val (.int (Int32.ofNat n))] [(.int (Int32.ofNat (2 * n)))])
  refine W.o_newarray X (pc' := 6) d_jdk_52_method_2_4 rfl (hw _ (List.mem_of_getElem? (i := 23) rfl)) (o32_nn (by omega)) (cap := 16) (by rw [o32_clamp (by omega)]; omega) (by decide) (by decide) (by decide) (fun T h1 d kd g1 z1 E1 V1 X => ?_)
  exact W.o_areturn X d_jdk_52_method_2_6 rfl rfl rfl (by decide) (by decide) fun P hP => ⟨d, kd, rfl, (Keep.refl h0 []).ext E1, Nat.le_of_eq g1.symm, V1.pad (pad_rep [] (.int 0) (2 * n)), hP d (by simp)⟩
set_option maxRecDepth 65536 in
set_option maxHeartbeats 40000000 in
theorem ctPut (l : Launch) (Z : State) (a0 : Array Value) (hw : ∀ d ∈ tables_1, d.before a0 Z = true) (d : Addr) (kd : ClassId) (vs : List Value) (j : Nat) (c0 : Int32) (h0 : Heap) (AS : Sta Z Z.heap "java/lang/StringUTF16" "$assertionsDisabled" "Z" (.int (1 : Int32))) (HI : Sta Z Z.heap "java/lang/StringUTF16" "HI_BYTE_SHIFT" "I" (.int (0 : Int32))) (LO : Sta Z Z.heap "java/lang/StringUTF16" "LO_BYTE_SHIFT" "I" (.int (8 : Int32))) (hN : vs.length ≤ 2000) (hj : 2 * j + 1 < vs.length) (gz : Z.heap.size ≤ d) (B0 : Arv Z h0 d kd .byte (Int32.ofNat vs.length) vs (.int 0)) :
    W.Ct wd Z a0 el l (⟨"java/lang/StringUTF16", "putChar", "([BII)V"⟩ : MethodName) jdk_52_method_4_code 3 none ({ frames := 0, cells := 0, slots := 0, locals := 0 } : Room) #[(.ref d), (.int (Int32.ofNat j)), (.int c0)] h0 [d] (fun v h S => v = none ∧ Keep h0 h [d] ∧ Arv Z h d kd .byte (Int32.ofNat vs.length) ((vs.set (2 * j) (u0 c0)).set (2 * j + 1) (u1 c0)) (.int 0)) := by
  refine W.Ct.walk hwe (plainFor_of_name pn_java_lang_StringUTF16) ?_
  intro p e s m below meth c T hE0 X
  refine W.castG (show entryFrame m #[(.ref d), (.int (Int32.ofNat j)), (.int c0)] 3 = mkF m 0 #[.val (.ref d), .val (.int (Int32.ofNat j)), .val (.int c0)] [] from by first | (simp [entryFrame, mkF, argsToLocals, Value.category]; done) | rfl) ?_
  refine W.o_getstatic X (pc' := 3) d_jdk_52_method_4_0 rfl (hw _ (List.mem_of_getElem? (i := 111) rfl)) Via.refl AS (fun T X => ?_)
  refine W.o_ifne X (pt := 28) (pf := 6) d_jdk_52_method_4_3 ⟨by decide, by decide⟩ rfl (fun _ => ?_) (fun hc => absurd hc (by decide))
  refine W.o_iloadN X (pc' := 29) d_jdk_52_method_4_28 rfl rfl ?_
  refine W.o_iconst X (1 : Int32) (pc' := 30) d_jdk_52_method_4_29 rfl rfl ?_
  refine W.o_ishl X (pc' := 31) d_jdk_52_method_4_30 rfl ?_
  rw [shl1 (by omega)]
  refine W.o_istoreN X (pc' := 32) d_jdk_52_method_4_31 rfl (L' := #[.val (.ref d), .val (.int (Int32.ofNat (2 * j))), .val (.int c0)]) rfl ?_
  refine W.o_aloadN X (pc' := 33) d_jdk_52_method_4_32 rfl rfl rfl ?_
  refine W.o_iloadN X (pc' := 34) d_jdk_52_method_4_33 rfl rfl ?_
  refine W.o_iinc X (1 : Int32) (pc' := 37) d_jdk_52_method_4_34 rfl rfl rfl (L' := #[.val (.ref d), .val (.int ((Int32.ofNat (2 * j)) + (1 : Int32))), .val (.int c0)]) rfl ?_
  rw [o32_succ]
  refine W.o_iloadN X (pc' := 38) d_jdk_52_method_4_37 rfl rfl ?_
  refine W.o_getstatic X (pc' := 41) d_jdk_52_method_4_38 rfl (hw _ (List.mem_of_getElem? (i := 112) rfl)) Via.refl HI (fun T X => ?_)
  refine W.o_ishr X (pc' := 42) d_jdk_52_method_4_41 rfl ?_
  refine W.o_i2b X (pc' := 43) d_jdk_52_method_4_42 rfl ?_
  refine W.o_bastore X (pc' := 44) d_jdk_52_method_4_43 rfl B0 (2 * j) (o32_clamp (by omega)) (o32_lt (by omega) (by omega)) (by omega) gz (Or.inr (Or.inl (by simp))) (fun T h1 w1 B1 X => ?_)
  rw [nar_bb] at B1
  refine W.o_aloadN X (pc' := 45) d_jdk_52_method_4_44 rfl rfl rfl ?_
  refine W.o_iloadN X (pc' := 46) d_jdk_52_method_4_45 rfl rfl ?_
  refine W.o_iloadN X (pc' := 47) d_jdk_52_method_4_46 rfl rfl ?_
  refine W.o_getstatic X (pc' := 50) d_jdk_52_method_4_47 rfl (hw _ (List.mem_of_getElem? (i := 113) rfl)) Via.refl LO (fun T X => ?_)
  refine W.o_ishr X (pc' := 51) d_jdk_52_method_4_50 rfl ?_
  refine W.o_i2b X (pc' := 52) d_jdk_52_method_4_51 rfl ?_
  refine W.o_bastore X (pc' := 53) d_jdk_52_method_4_52 rfl B1 (2 * j + 1) (o32_clamp (by omega)) (o32_lt (by omega) (by omega)) (by rw [List.length_set]; omega) gz (Or.inr (Or.inl (by simp))) (fun T h2 w2 B2 X => ?_)
  rw [nar_bb] at B2
  exact W.o_return X d_jdk_52_method_4_53 (by decide) (by decide) fun P hP => ⟨rfl, ((Keep.refl h0 [d]).wr w1 (Or.inl (by simp))).wr w2 (Or.inl (by simp)), B2⟩
set_option maxRecDepth 65536 in
set_option maxHeartbeats 40000000 in
theorem ctGet (l : Launch) (Z : State) (a0 : Array Value) (hw : ∀ d ∈ tables_1, d.before a0 Z = true) (d : Addr) (kd : ClassId) (cs : List Int32) (i : Nat) (h0 : Heap) (AS : Sta Z Z.heap "java/lang/StringUTF16" "$assertionsDisabled" "Z" (.int (1 : Int32))) (HI : Sta Z Z.heap "java/lang/StringUTF16" "HI_BYTE_SHIFT" "I" (.int (0 : Int32))) (LO : Sta Z Z.heap "java/lang/StringUTF16" "LO_BYTE_SHIFT" "I" (.int (8 : Int32))) (hN : cs.length ≤ 1000) (hi : i < cs.length) (hch : ∀ c ∈ cs, ¬ c < 0 ∧ ¬ 65535 < c) (B0 : Arv Z h0 d kd .byte (Int32.ofNat (2 * cs.length)) (utf cs) (.int 0)) :
    W.Ct wd Z a0 el l (⟨"java/lang/StringUTF16", "getChar", "([BI)C"⟩ : MethodName) jdk_52_method_5_code 2 (some .char) ({ frames := 0, cells := 0, slots := 0, locals := 0 } : Room) #[(.ref d), (.int (Int32.ofNat i))] h0 [] (fun v h S => v = some (.int cs[i]) ∧ h = h0) := by
  refine W.Ct.walk hwe (plainFor_of_name pn_java_lang_StringUTF16) ?_
  intro p e s m below meth c T hE0 X
  refine W.castG (show entryFrame m #[(.ref d), (.int (Int32.ofNat i))] 2 = mkF m 0 #[.val (.ref d), .val (.int (Int32.ofNat i))] [] from by first | (simp [entryFrame, mkF, argsToLocals, Value.category]; done) | rfl) ?_
  refine W.o_getstatic X (pc' := 3) d_jdk_52_method_5_0 rfl (hw _ (List.mem_of_getElem? (i := 111) rfl)) Via.refl AS (fun T X => ?_)
  refine W.o_ifne X (pt := 28) (pf := 6) d_jdk_52_method_5_3 ⟨by decide, by decide⟩ rfl (fun _ => ?_) (fun hc => absurd hc (by decide))
  refine W.o_iloadN X (pc' := 29) d_jdk_52_method_5_28 rfl rfl ?_
  refine W.o_iconst X (1 : Int32) (pc' := 30) d_jdk_52_method_5_29 rfl rfl ?_
  refine W.o_ishl X (pc' := 31) d_jdk_52_method_5_30 rfl ?_
  rw [shl1 (by omega)]
  refine W.o_istoreN X (pc' := 32) d_jdk_52_method_5_31 rfl (L' := #[.val (.ref d), .val (.int (Int32.ofNat (2 * i)))]) rfl ?_
  refine W.o_aloadN X (pc' := 33) d_jdk_52_method_5_32 rfl rfl rfl ?_
  refine W.o_iloadN X (pc' := 34) d_jdk_52_method_5_33 rfl rfl ?_
  refine W.o_iinc X (1 : Int32) (pc' := 37) d_jdk_52_method_5_34 rfl rfl rfl (L' := #[.val (.ref d), .val (.int ((Int32.ofNat (2 * i)) + (1 : Int32)))]) rfl ?_
  rw [o32_succ]
  refine W.o_baload X (pc' := 38) d_jdk_52_method_5_37 rfl B0 (o32_lt (by omega) (by omega)) (v := u0 cs[i]) (by rw [o32_clamp (by omega)]; exact (utf_at cs i hi _).1) ?_
  unfold u0
  refine W.o_sipush X (255 : Int32) (pc' := 41) d_jdk_52_method_5_38 rfl rfl ?_
  refine W.o_iand X (pc' := 42) d_jdk_52_method_5_41 rfl ?_
  refine W.o_getstatic X (pc' := 45) d_jdk_52_method_5_42 rfl (hw _ (List.mem_of_getElem? (i := 112) rfl)) Via.refl HI (fun T X => ?_)
  refine W.o_ishl X (pc' := 46) d_jdk_52_method_5_45 rfl ?_
  refine W.o_aloadN X (pc' := 47) d_jdk_52_method_5_46 rfl rfl rfl ?_
  refine W.o_iloadN X (pc' := 48) d_jdk_52_method_5_47 rfl rfl ?_
  refine W.o_baload X (pc' := 49) d_jdk_52_method_5_48 rfl B0 (o32_lt (by omega) (by omega)) (v := u1 cs[i]) (by rw [o32_clamp (by omega)]; exact (utf_at cs i hi _).2) ?_
  unfold u1
  refine W.o_sipush X (255 : Int32) (pc' := 52) d_jdk_52_method_5_49 rfl rfl ?_
  refine W.o_iand X (pc' := 53) d_jdk_52_method_5_52 rfl ?_
  refine W.o_getstatic X (pc' := 56) d_jdk_52_method_5_53 rfl (hw _ (List.mem_of_getElem? (i := 113) rfl)) Via.refl LO (fun T X => ?_)
  refine W.o_ishl X (pc' := 57) d_jdk_52_method_5_56 rfl ?_
  refine W.o_ior X (pc' := 58) d_jdk_52_method_5_57 rfl ?_
  refine W.o_i2c X (pc' := 59) d_jdk_52_method_5_58 rfl ?_
  have hc := hch cs[i] (List.getElem_mem hi)
  rw [pairC hc.1 hc.2]
  exact W.o_ireturn X d_jdk_52_method_5_59 rfl (Or.inr (Or.inr (Or.inl rfl))) (v := cs[i]) (nar_ch hc.1 hc.2) (by decide) (by decide) fun P hP => ⟨rfl, rfl⟩
set_option maxRecDepth 65536 in
set_option maxHeartbeats 40000000 in
theorem ctTB (l : Launch) (Z : State) (a0 : Array Value) (hw : ∀ d ∈ tables_1, d.before a0 Z = true) (b : Addr) (kb : ClassId) (cs : List Int32) (h0 : Heap) (AS : Sta Z Z.heap "java/lang/StringUTF16" "$assertionsDisabled" "Z" (.int (1 : Int32))) (HI : Sta Z Z.heap "java/lang/StringUTF16" "HI_BYTE_SHIFT" "I" (.int (0 : Int32))) (LO : Sta Z Z.heap "java/lang/StringUTF16" "LO_BYTE_SHIFT" "I" (.int (8 : Int32))) (hN : 2 * cs.length ≤ 16) (A0 : Arv Z h0 b kb .char (Int32.ofNat cs.length) (cs.map .int) (.int 0)) :
    W.Ct wd Z a0 el l (⟨"java/lang/StringUTF16", "toBytes", "([CII)[B"⟩ : MethodName) jdk_52_method_14_code 5 (some (.array .byte)) ({ frames := 2, cells := 1, slots := 16, locals := 40 } : Room) #[(.ref b), (.int (0 : Int32)), (.int (Int32.ofNat cs.length))] h0 [] (fun v h S => ∃ d kd, v = some (.ref d) ∧ Keep h0 h [] ∧ h0.size ≤ d ∧ Arv Z h d kd .byte (Int32.ofNat (2 * cs.length)) (utf cs) (.int 0)) := by
  refine W.Ct.walk hwe (plainFor_of_name pn_java_lang_StringUTF16) ?_
  intro p e s m below meth c T hE0 X
  refine W.castG (show entryFrame m #[(.ref b), (.int (0 : Int32)), (.int (Int32.ofNat cs.length))] 5 = mkF m 0 #[.val (.ref b), .val (.int (0 : Int32)), .val (.int (Int32.ofNat cs.length)), .unset, .unset] [] from by first | (simp [entryFrame, mkF, argsToLocals, Value.category]; done) | rfl) ?_
  refine W.o_iloadN X (pc' := 1) d_jdk_52_method_14_0 rfl rfl ?_
  refine W.o_static X (pc' := 4) d_jdk_52_method_14_1 rfl (z := (⟨"java/lang/StringUTF16", "newBytesFor", "(I)[B"⟩ : MethodName)) (hw _ (List.mem_of_getElem? (i := 101) rfl)) (hw _ (List.mem_of_getElem? (i := 102) rfl)) (hw _ (List.mem_of_getElem? (i := 84) rfl)) (hw _ (List.mem_of_getElem? (i := 103) rfl)) (by decide) (ctNBF l Z a0 hw cs.length h0 (by omega)) (fun _ q => nomatch q) [(.int (Int32.ofNat cs.length))] rfl (rest := []) rfl pd__I__B rfl rfl (by decide) (by exact Nat.le_of_ble_eq_true rfl) (by decide) (by decide) (fun v6 T q7 => ?_)
  obtain ⟨h1, S8, ⟨d, kd, rfl, K1, gd, B1, sd⟩, X9⟩ := q7
  have X := X9 [d] (allS ⟨B1.lt, sd⟩ all0)
  show W.Go _ _ _ _ _ _ _ _ _ _ _ (mkF m 4 #[.val (.ref b), .val (.int (0 : Int32)), .val (.int (Int32.ofNat cs.length)), .unset, .unset] [(.ref d)])
  refine W.o_astoreN X (pc' := 5) d_jdk_52_method_14_4 rfl (L' := #[.val (.ref b), .val (.int (0 : Int32)), .val (.int (Int32.ofNat cs.length)), .val (.ref d), .unset]) rfl rfl ?_
  refine W.o_iconst X (0 : Int32) (pc' := 6) d_jdk_52_method_14_5 rfl rfl ?_
  refine W.o_istore X (pc' := 8) d_jdk_52_method_14_6 rfl (L' := #[.val (.ref b), .val (.int (0 : Int32)), .val (.int (Int32.ofNat cs.length)), .val (.ref d), .val (.int (0 : Int32))]) rfl ?_
  rw [← layU_zero] at B1
  have gz : Z.heap.size ≤ d := Nat.le_trans hE0.1 gd
  have A1 := A0.keep K1 nin0
  have hbd : b ≠ d := Nat.ne_of_lt (Nat.lt_of_lt_of_le A0.lt gd)
  have loop : ∀ (k j : Nat), j + k = cs.length → ∀ (T : State) (h : Heap), W.St wd Z a0 el (⟨"java/lang/StringUTF16", "toBytes", "([CII)[B"⟩ : MethodName) jdk_52_method_14_code 5 (some (.array .byte)) p l e ({ frames := 2, cells := 1, slots := 16, locals := 40 } : Room) s m #[(.ref b), (.int (0 : Int32)), (.int (Int32.ofNat cs.length))] below meth c T h [d] 1 16 → Keep h1 h [d] → Arv Z h d kd .byte (Int32.ofNat (2 * cs.length)) (layU (.int 0) cs j) (.int 0) → W.Go wd Z el ({ frames := 2, cells := 1, slots := 16, locals := 40 } : Room).cells ({ frames := 2, cells := 1, slots := 16, locals := 40 } : Room).slots (fun v h S => ∃ d kd, v = some (.ref d) ∧ Keep h0 h [] ∧ h0.size ≤ d ∧ Arv Z h d kd .byte (Int32.ofNat (2 * cs.length)) (utf cs) (.int 0)) p e s below T (mkF m 8 #[.val (.ref b), .val (.int (Int32.ofNat j)), .val (.int (Int32.ofNat cs.length)), .val (.ref d), .val (.int (Int32.ofNat j))] []) := by
    intro k
    induction k with
    | zero =>
      intro j hj T h X K B
      have ej : j = cs.length := by omega
      subst ej
      rw [layU_all] at B
      refine W.o_iload X (pc' := 10) d_jdk_52_method_14_8 rfl rfl ?_
      refine W.o_iloadN X (pc' := 11) d_jdk_52_method_14_10 rfl rfl ?_
      refine W.o_if_icmpge X (pt := 32) (pf := 14) d_jdk_52_method_14_11 ⟨by decide, by decide⟩ rfl (fun _ => ?_) (fun hc => absurd hc (o32_ge (Nat.le_refl _) (by omega)))
      refine W.o_aloadN X (pc' := 33) d_jdk_52_method_14_32 rfl rfl rfl ?_
      exact W.o_areturn X d_jdk_52_method_14_33 rfl rfl rfl (by decide) (by decide) fun P hP => ⟨d, kd, rfl, K1.trans K (allS (Or.inr gd) all0), gd, B⟩
    | succ k ih =>
      intro j hj T h X K B
      have hjl : j < cs.length := by omega
      have A := A1.keep K (ninS hbd nin0)
      refine W.o_iload X (pc' := 10) d_jdk_52_method_14_8 rfl rfl ?_
      refine W.o_iloadN X (pc' := 11) d_jdk_52_method_14_10 rfl rfl ?_
      refine W.o_if_icmpge X (pt := 32) (pf := 14) d_jdk_52_method_14_11 ⟨by decide, by decide⟩ rfl (fun hc => absurd (o32_lt hjl (by omega)).2 hc) (fun _ => ?_)
      refine W.o_aloadN X (pc' := 15) d_jdk_52_method_14_14 rfl rfl rfl ?_
      refine W.o_iload X (pc' := 17) d_jdk_52_method_14_15 rfl rfl ?_
      refine W.o_aloadN X (pc' := 18) d_jdk_52_method_14_17 rfl rfl rfl ?_
      refine W.o_iloadN X (pc' := 19) d_jdk_52_method_14_18 rfl rfl ?_
      refine W.o_caload X (pc' := 20) d_jdk_52_method_14_19 rfl A (o32_lt hjl (by omega)) (v := .int cs[j]) (by rw [o32_clamp (by omega)]; exact getD_map hjl _) ?_
      refine W.o_static X (pc' := 23) d_jdk_52_method_14_20 rfl (z := (⟨"java/lang/StringUTF16", "putChar", "([BII)V"⟩ : MethodName)) (hw _ (List.mem_of_getElem? (i := 108) rfl)) (hw _ (List.mem_of_getElem? (i := 109) rfl)) (hw _ (List.mem_of_getElem? (i := 84) rfl)) (hw _ (List.mem_of_getElem? (i := 110) rfl)) (by decide) (ctPut l Z a0 hw d kd (layU (.int 0) cs j) j cs[j] h AS HI LO (by rw [layU_len _ _ _ (by omega)]; omega) (by rw [layU_len _ _ _ (by omega)]; omega) gz (by rw [layU_len _ _ _ (by omega)]; exact B)) (allS ⟨B.lt, (Or.inr (Or.inl (by simp)))⟩ all0) [(.ref d), (.int (Int32.ofNat j)), (.int cs[j])] rfl (rest := []) rfl pd___BII_V rfl rfl (by decide) (by exact Nat.le_of_ble_eq_true rfl) (by decide) (by decide) (fun v11 T q12 => ?_)
      obtain ⟨h2, S13, ⟨rfl, K2, B2⟩, X14⟩ := q12
      have X := X14 [] all0
      rw [layU_len _ _ _ (by omega), layU_set _ _ _ hjl] at B2
      show W.Go _ _ _ _ _ _ _ _ _ _ _ (mkF m 23 #[.val (.ref b), .val (.int (Int32.ofNat j)), .val (.int (Int32.ofNat cs.length)), .val (.ref d), .val (.int (Int32.ofNat j))] [])
      refine W.o_iinc X (1 : Int32) (pc' := 26) d_jdk_52_method_14_23 rfl rfl rfl (L' := #[.val (.ref b), .val (.int ((Int32.ofNat j) + (1 : Int32))), .val (.int (Int32.ofNat cs.length)), .val (.ref d), .val (.int (Int32.ofNat j))]) rfl ?_
      refine W.o_iinc X (1 : Int32) (pc' := 29) d_jdk_52_method_14_26 rfl rfl rfl (L' := #[.val (.ref b), .val (.int ((Int32.ofNat j) + (1 : Int32))), .val (.int (Int32.ofNat cs.length)), .val (.ref d), .val (.int ((Int32.ofNat j) + (1 : Int32)))]) rfl ?_
      refine W.o_goto X (pc' := 8) d_jdk_52_method_14_29 ⟨by decide, by decide⟩ ?_
      rw [o32_succ]
      exact ih (j + 1) (by omega) T h2 X (K.trans K2 (allS (Or.inl (by simp)) all0)) B2
  exact loop cs.length 0 (by omega) _ h1 X (Keep.refl _ _) B1
set_option maxRecDepth 65536 in
set_option maxHeartbeats 40000000 in
theorem ctCmp3 (l : Launch) (Z : State) (a0 : Array Value) (hw : ∀ d ∈ tables_1, d.before a0 Z = true) (b : Addr) (kb : ClassId) (cs : List Int32) (h0 : Heap) (AS : Sta Z Z.heap "java/lang/StringUTF16" "$assertionsDisabled" "Z" (.int (1 : Int32))) (HI : Sta Z Z.heap "java/lang/StringUTF16" "HI_BYTE_SHIFT" "I" (.int (0 : Int32))) (LO : Sta Z Z.heap "java/lang/StringUTF16" "LO_BYTE_SHIFT" "I" (.int (8 : Int32))) (hN : 2 * cs.length ≤ 16) (hch : ∀ c ∈ cs, ¬ c < 0 ∧ ¬ 65535 < c) (A0 : Arv Z h0 b kb .char (Int32.ofNat cs.length) (cs.map .int) (.int 0)) :
    W.Ct wd Z a0 el l (⟨"java/lang/StringUTF16", "compress", "([CII)[B"⟩ : MethodName) jdk_52_method_16_code 6 (some (.array .byte)) ({ frames := 3, cells := 2, slots := 32, locals := 56 } : Room) #[(.ref b), (.int (0 : Int32)), (.int (Int32.ofNat cs.length))] h0 [] (fun v h S => ∃ d kd, v = some (.ref d) ∧ Keep h0 h [] ∧ h0.size ≤ d ∧ ((Arv Z h d kd .byte (Int32.ofNat cs.length) (cs.map lo) (.int 0) ∧ ∀ c ∈ cs, ¬ 255 < c) ∨ Arv Z h d kd .byte (Int32.ofNat (2 * cs.length)) (utf cs) (.int 0))) := by
  refine W.Ct.walk hwe (plainFor_of_name pn_java_lang_StringUTF16) ?_
  intro p e s m below meth c T hE0 X
  refine W.castG (show entryFrame m #[(.ref b), (.int (0 : Int32)), (.int (Int32.ofNat cs.length))] 6 = mkF m 0 #[.val (.ref b), .val (.int (0 : Int32)), .val (.int (Int32.ofNat cs.length)), .unset, .unset, .unset] [] from by first | (simp [entryFrame, mkF, argsToLocals, Value.category]; done) | rfl) ?_
  refine W.o_iloadN X (pc' := 1) d_jdk_52_method_16_0 rfl rfl ?_
  refine W.o_newarray X (pc' := 3) d_jdk_52_method_16_1 rfl (hw _ (List.mem_of_getElem? (i := 23) rfl)) (o32_nn (by omega)) (cap := 16) (by rw [o32_clamp (by omega)]; omega) (by decide) (by decide) (by decide) (fun T h1 d kd g1 z1 E1 V1 X => ?_)
  have B1 : Arv Z h1 d kd .byte (Int32.ofNat cs.length) (lay lo (.int 0) cs 0) (.int 0) := by rw [lay_zero]; exact V1.pad (pad_rep [] (.int 0) cs.length)
  refine W.o_astoreN X (pc' := 4) d_jdk_52_method_16_3 rfl (L' := #[.val (.ref b), .val (.int (0 : Int32)), .val (.int (Int32.ofNat cs.length)), .val (.ref d), .unset, .unset]) rfl rfl ?_
  refine W.o_aloadN X (pc' := 5) d_jdk_52_method_16_4 rfl rfl rfl ?_
  refine W.o_iloadN X (pc' := 6) d_jdk_52_method_16_5 rfl rfl ?_
  refine W.o_aloadN X (pc' := 7) d_jdk_52_method_16_6 rfl rfl rfl ?_
  refine W.o_iconst X (0 : Int32) (pc' := 8) d_jdk_52_method_16_7 rfl rfl ?_
  refine W.o_iloadN X (pc' := 9) d_jdk_52_method_16_8 rfl rfl ?_
  have f15 := (A0.ext E1)
  refine W.o_static X (pc' := 12) d_jdk_52_method_16_9 rfl (z := (⟨"java/lang/StringUTF16", "compress", "([CI[BII)I"⟩ : MethodName)) (hw _ (List.mem_of_getElem? (i := 86) rfl)) (hw _ (List.mem_of_getElem? (i := 87) rfl)) (hw _ (List.mem_of_getElem? (i := 84) rfl)) (hw _ (List.mem_of_getElem? (i := 88) rfl)) (by decide) (ctCmp5 l Z a0 hw b d kb kd cs h1 (by omega) (Nat.ne_of_lt (Nat.lt_of_lt_of_le A0.lt (Nat.le_of_eq g1.symm))) z1 f15 B1) (allS ⟨B1.lt, (Or.inr (Or.inl (by simp)))⟩ all0) [(.ref b), (.int (0 : Int32)), (.ref d), (.int (0 : Int32)), (.int (Int32.ofNat cs.length))] rfl (rest := []) rfl pd___CI_BII_I rfl rfl (by decide) (by exact Nat.le_of_ble_eq_true rfl) (by decide) (by decide) (fun v16 T q17 => ?_)
  obtain ⟨h20, S18, ⟨rfl, K2, B2⟩, X19⟩ := q17
  have X := X19 [] all0
  show W.Go _ _ _ _ _ _ _ _ _ _ _ (mkF m 12 #[.val (.ref b), .val (.int (0 : Int32)), .val (.int (Int32.ofNat cs.length)), .val (.ref d), .unset, .unset] [(.int (Int32.ofNat (cs.findIdx big)))])
  refine W.o_istore X (pc' := 14) d_jdk_52_method_16_12 rfl (L' := #[.val (.ref b), .val (.int (0 : Int32)), .val (.int (Int32.ofNat cs.length)), .val (.ref d), .val (.int (Int32.ofNat (cs.findIdx big))), .unset]) rfl ?_
  refine W.o_iload X (pc' := 16) d_jdk_52_method_16_14 rfl rfl ?_
  refine W.o_iloadN X (pc' := 17) d_jdk_52_method_16_16 rfl rfl ?_
  have K02 : Keep h0 h20 [] := ((Keep.refl h0 []).ext E1).trans K2 (allS (Or.inr (Nat.le_of_eq g1.symm)) all0)
  have hle : cs.findIdx big ≤ cs.length := List.findIdx_le_length
  have f21 := (f15.keep K2 (ninS (Nat.ne_of_lt (Nat.lt_of_lt_of_le A0.lt (Nat.le_of_eq g1.symm))) nin0))
  refine W.o_if_icmpeq X (pt := 57) (pf := 20) d_jdk_52_method_16_17 ⟨by decide, by decide⟩ rfl (fun hc => ?_) (fun hc => ?_)
  · have hfi : cs.findIdx big = cs.length := o32_inj (by omega) (by omega) hc
    rw [hfi, lay_all] at B2
    refine W.o_aloadN X (pc' := 58) d_jdk_52_method_16_57 rfl rfl rfl ?_
    exact W.o_areturn X d_jdk_52_method_16_58 rfl rfl rfl (by decide) (by decide) fun P hP => ⟨d, kd, rfl, K02, Nat.le_of_eq g1.symm, Or.inl ⟨B2, fun c hcm => of_decide_eq_false (List.findIdx_eq_length.mp hfi c hcm)⟩⟩
  · have hfl : cs.findIdx big < cs.length := Nat.lt_of_le_of_ne hle fun q => hc (by rw [q])
    have hbig : 255 < cs[cs.findIdx big] := of_decide_eq_true (List.findIdx_getElem (w := hfl))
    refine W.o_aloadN X (pc' := 21) d_jdk_52_method_16_20 rfl rfl rfl ?_
    refine W.o_iloadN X (pc' := 22) d_jdk_52_method_16_21 rfl rfl ?_
    refine W.o_iloadN X (pc' := 23) d_jdk_52_method_16_22 rfl rfl ?_
    refine W.o_static X (pc' := 26) d_jdk_52_method_16_23 rfl (z := (⟨"java/lang/StringUTF16", "toBytes", "([CII)[B"⟩ : MethodName)) (hw _ (List.mem_of_getElem? (i := 98) rfl)) (hw _ (List.mem_of_getElem? (i := 99) rfl)) (hw _ (List.mem_of_getElem? (i := 84) rfl)) (hw _ (List.mem_of_getElem? (i := 100) rfl)) (by decide) (ctTB l Z a0 hw b kb cs h20 AS HI LO (by omega) f21) (fun _ q => nomatch q) [(.ref b), (.int (0 : Int32)), (.int (Int32.ofNat cs.length))] rfl (rest := []) rfl pd___CII__B rfl rfl (by decide) (by exact Nat.le_of_ble_eq_true rfl) (by decide) (by decide) (fun v22 T q23 => ?_)
    obtain ⟨h26, S24, ⟨d2, kd2, rfl, K3, g3, B3⟩, X25⟩ := q23
    have X := X25 [] all0
    show W.Go _ _ _ _ _ _ _ _ _ _ _ (mkF m 26 #[.val (.ref b), .val (.int (0 : Int32)), .val (.int (Int32.ofNat cs.length)), .val (.ref d), .val (.int (Int32.ofNat (cs.findIdx big))), .unset] [(.ref d2)])
    refine W.o_astore X (pc' := 28) d_jdk_52_method_16_26 rfl (L' := #[.val (.ref b), .val (.int (0 : Int32)), .val (.int (Int32.ofNat cs.length)), .val (.ref d), .val (.int (Int32.ofNat (cs.findIdx big))), .val (.ref d2)]) rfl rfl ?_
    refine W.o_aload X (pc' := 30) d_jdk_52_method_16_28 rfl rfl rfl ?_
    refine W.o_iload X (pc' := 32) d_jdk_52_method_16_30 rfl rfl ?_
    refine W.o_static X (pc' := 35) d_jdk_52_method_16_32 rfl (z := (⟨"java/lang/StringUTF16", "getChar", "([BI)C"⟩ : MethodName)) (hw _ (List.mem_of_getElem? (i := 114) rfl)) (hw _ (List.mem_of_getElem? (i := 115) rfl)) (hw _ (List.mem_of_getElem? (i := 84) rfl)) (hw _ (List.mem_of_getElem? (i := 116) rfl)) (by decide) (ctGet l Z a0 hw d2 kd2 cs (cs.findIdx big) h26 AS HI LO (by omega) hfl hch B3) (fun _ q => nomatch q) [(.ref d2), (.int (Int32.ofNat (cs.findIdx big)))] rfl (rest := []) rfl pd___BI_C rfl rfl (by decide) (by exact Nat.le_of_ble_eq_true rfl) (by decide) (by decide) (fun v27 T q28 => ?_)
    obtain ⟨h31, S29, ⟨rfl, eh⟩, X30⟩ := q28
    have eh := eh.symm
    subst eh
    have X := X30 [] all0
    show W.Go _ _ _ _ _ _ _ _ _ _ _ (mkF m 35 #[.val (.ref b), .val (.int (0 : Int32)), .val (.int (Int32.ofNat cs.length)), .val (.ref d), .val (.int (Int32.ofNat (cs.findIdx big))), .val (.ref d2)] [(.int cs[cs.findIdx big])])
    refine W.o_sipush X (255 : Int32) (pc' := 38) d_jdk_52_method_16_35 rfl rfl ?_
    refine W.o_if_icmpgt X (pt := 54) (pf := 41) d_jdk_52_method_16_38 ⟨by decide, by decide⟩ rfl (fun _ => ?_) (fun hc => absurd hbig hc)
    refine W.o_aload X (pc' := 56) d_jdk_52_method_16_54 rfl rfl rfl ?_
    exact W.o_areturn X d_jdk_52_method_16_56 rfl rfl rfl (by decide) (by decide) fun P hP => ⟨d2, kd2, rfl, K02.trans K3 all0, Nat.le_trans K02.1 g3, Or.inr B3⟩
set_option maxRecDepth 65536 in
set_option maxHeartbeats 40000000 in
theorem ctCodL (l : Launch) (Z : State) (a0 : Array Value) (hw : ∀ d ∈ tables_1, d.before a0 Z = true) (d : Addr) (kd : ClassId) (z : Int32) (vs : List Value) (h0 : Heap) (B0 : Arv Z h0 d kd .byte z vs (.int 0)) :
    W.Ct wd Z a0 el l (⟨"java/lang/StringUTF16", "coderFromArrayLen", "([BI)B"⟩ : MethodName) jdk_52_method_15_code 2 (some .byte) ({ frames := 0, cells := 0, slots := 0, locals := 0 } : Room) #[(.ref d), (.int z)] h0 [] (fun v h S => v = some (.int 0) ∧ h = h0) := by
  refine W.Ct.walk hwe (plainFor_of_name pn_java_lang_StringUTF16) ?_
  intro p e s m below meth c T hE0 X
  refine W.castG (show entryFrame m #[(.ref d), (.int z)] 2 = mkF m 0 #[.val (.ref d), .val (.int z)] [] from by first | (simp [entryFrame, mkF, argsToLocals, Value.category]; done) | rfl) ?_
  refine W.o_iloadN X (pc' := 1) d_jdk_52_method_15_0 rfl rfl ?_
  refine W.o_aloadN X (pc' := 2) d_jdk_52_method_15_1 rfl rfl rfl ?_
  refine W.o_arraylength X (pc' := 3) d_jdk_52_method_15_2 rfl B0 ?_
  refine W.o_isub X (pc' := 4) d_jdk_52_method_15_3 rfl ?_
  refine W.o_bipush X (31 : Int32) (pc' := 6) d_jdk_52_method_15_4 rfl rfl ?_
  refine W.o_iushr X (pc' := 7) d_jdk_52_method_15_6 rfl ?_
  refine W.o_i2b X (pc' := 8) d_jdk_52_method_15_7 rfl ?_
  exact W.o_ireturn X d_jdk_52_method_15_8 rfl (Or.inr (Or.inl rfl)) (v := 0) (by rw [Int32.sub_self]; decide) (by decide) (by decide) fun P hP => ⟨rfl, rfl⟩
set_option maxRecDepth 65536 in
set_option maxHeartbeats 40000000 in
theorem ctCodU (l : Launch) (Z : State) (a0 : Array Value) (hw : ∀ d ∈ tables_1, d.before a0 Z = true) (d : Addr) (kd : ClassId) (n : Nat) (vs : List Value) (h0 : Heap) (hn : n ≤ 1000) (hn0 : n ≠ 0) (B0 : Arv Z h0 d kd .byte (Int32.ofNat (2 * n)) vs (.int 0)) :
    W.Ct wd Z a0 el l (⟨"java/lang/StringUTF16", "coderFromArrayLen", "([BI)B"⟩ : MethodName) jdk_52_method_15_code 2 (some .byte) ({ frames := 0, cells := 0, slots := 0, locals := 0 } : Room) #[(.ref d), (.int (Int32.ofNat n))] h0 [] (fun v h S => v = some (.int 1) ∧ h = h0) := by
  refine W.Ct.walk hwe (plainFor_of_name pn_java_lang_StringUTF16) ?_
  intro p e s m below meth c T hE0 X
  refine W.castG (show entryFrame m #[(.ref d), (.int (Int32.ofNat n))] 2 = mkF m 0 #[.val (.ref d), .val (.int (Int32.ofNat n))] [] from by first | (simp [entryFrame, mkF, argsToLocals, Value.category]; done) | rfl) ?_
  refine W.o_iloadN X (pc' := 1) d_jdk_52_method_15_0 rfl rfl ?_
  refine W.o_aloadN X (pc' := 2) d_jdk_52_method_15_1 rfl rfl rfl ?_
  refine W.o_arraylength X (pc' := 3) d_jdk_52_method_15_2 rfl B0 ?_
  refine W.o_isub X (pc' := 4) d_jdk_52_method_15_3 rfl ?_
  refine W.o_bipush X (31 : Int32) (pc' := 6) d_jdk_52_method_15_4 rfl rfl ?_
  refine W.o_iushr X (pc' := 7) d_jdk_52_method_15_6 rfl ?_
  refine W.o_i2b X (pc' := 8) d_jdk_52_method_15_7 rfl ?_
  rw [cod1 (by omega) hn0]
  exact W.o_ireturn X d_jdk_52_method_15_8 rfl (Or.inr (Or.inl rfl)) (v := 1) rfl (by decide) (by decide) fun P hP => ⟨rfl, rfl⟩
set_option maxRecDepth 65536 in
set_option maxHeartbeats 40000000 in
theorem ctNew4 (l : Launch) (Z : State) (a0 : Array Value) (hw : ∀ d ∈ tables_1, d.before a0 Z = true) (a b : Addr) (kb : ClassId) (cs : List Int32) (cz : Int32) (h0 : Heap) (AS : Sta Z Z.heap "java/lang/StringUTF16" "$assertionsDisabled" "Z" (.int (1 : Int32))) (HI : Sta Z Z.heap "java/lang/StringUTF16" "HI_BYTE_SHIFT" "I" (.int (0 : Int32))) (LO : Sta Z Z.heap "java/lang/StringUTF16" "LO_BYTE_SHIFT" "I" (.int (8 : Int32))) (hN : 2 * cs.length ≤ 16) (hn : cs.length ≠ 0) (hch : ∀ c ∈ cs, ¬ c < 0 ∧ ¬ 65535 < c) (C0 : Sta Z Z.heap "java/lang/String" "COMPACT_STRINGS" "Z" (.int cz)) (hcz : ¬ cz = 0) (gz : Z.heap.size ≤ a) (E0 : Exa Z h0 a "java/lang/String") (F0 : Fld Z h0 a "java/lang/String" "value" "[B" .null) (F1 : Fld Z h0 a "java/lang/String" "coder" "B" (.int (0 : Int32))) (A0 : Arv Z h0 b kb .char (Int32.ofNat cs.length) (cs.map .int) (.int 0)) :
    W.Ct wd Z a0 el l (⟨"java/lang/String", "<init>", "([CIILjava/lang/Void;)V"⟩ : MethodName) jdk_42_method_149_code 6 none ({ frames := 4, cells := 2, slots := 32, locals := 73 } : Room) #[(.ref a), (.ref b), (.int (0 : Int32)), (.int (Int32.ofNat cs.length)), .null] h0 [a] (fun v h S => v = none ∧ Keep h0 h [a] ∧ ∃ t, h0.size ≤ t ∧ StrG Z h a t cs) := by
  refine W.Ct.walk hwe (plainFor_of_name pn_java_lang_String) ?_
  intro p e s m below meth c T hE0 X
  refine W.castG (show entryFrame m #[(.ref a), (.ref b), (.int (0 : Int32)), (.int (Int32.ofNat cs.length)), .null] 6 = mkF m 0 #[.val (.ref a), .val (.ref b), .val (.int (0 : Int32)), .val (.int (Int32.ofNat cs.length)), .val .null, .unset] [] from by first | (simp [entryFrame, mkF, argsToLocals, Value.category]; done) | rfl) ?_
  refine W.o_aloadN X (pc' := 1) d_jdk_42_method_149_0 rfl rfl rfl ?_
  refine W.o_initO X (pc' := 4) d_jdk_42_method_149_1 rfl (hw _ (List.mem_of_getElem? (i := 19) rfl)) (hw _ (List.mem_of_getElem? (i := 20) rfl)) (hw _ (List.mem_of_getElem? (i := 21) rfl)) rfl (by decide) (by decide) (fun T X => ?_)
  refine W.o_iloadN X (pc' := 5) d_jdk_42_method_149_4 rfl rfl ?_
  refine W.o_ifne X (pt := 27) (pf := 8) d_jdk_42_method_149_5 ⟨by decide, by decide⟩ rfl (fun _ => ?_) (fun hc => absurd hc (fun q => hn (o32_inj (n := 0) (by omega) (by omega) q)))
  refine W.o_getstatic X (pc' := 30) d_jdk_42_method_149_27 rfl (hw _ (List.mem_of_getElem? (i := 57) rfl)) Via.refl C0 (fun T X => ?_)
  refine W.o_ifeq X (pt := 58) (pf := 33) d_jdk_42_method_149_30 ⟨by decide, by decide⟩ rfl (fun hc => absurd hc hcz) (fun _ => ?_)
  refine W.o_aloadN X (pc' := 34) d_jdk_42_method_149_33 rfl rfl rfl ?_
  refine W.o_iloadN X (pc' := 35) d_jdk_42_method_149_34 rfl rfl ?_
  refine W.o_iloadN X (pc' := 36) d_jdk_42_method_149_35 rfl rfl ?_
  refine W.o_static X (pc' := 39) d_jdk_42_method_149_36 rfl (z := (⟨"java/lang/StringUTF16", "compress", "([CII)[B"⟩ : MethodName)) (hw _ (List.mem_of_getElem? (i := 82) rfl)) (hw _ (List.mem_of_getElem? (i := 83) rfl)) (hw _ (List.mem_of_getElem? (i := 84) rfl)) (hw _ (List.mem_of_getElem? (i := 85) rfl)) (by decide) (ctCmp3 l Z a0 hw b kb cs h0 AS HI LO hN hch A0) (fun _ q => nomatch q) [(.ref b), (.int (0 : Int32)), (.int (Int32.ofNat cs.length))] rfl (rest := []) rfl pd___CII__B rfl rfl (by decide) (by exact Nat.le_of_ble_eq_true rfl) (by decide) (by decide) (fun v32 T q33 => ?_)
  obtain ⟨h36, S34, ⟨d, kd, rfl, K2, gd, B2⟩, X35⟩ := q33
  have X := X35 [] all0
  show W.Go _ _ _ _ _ _ _ _ _ _ _ (mkF m 39 #[.val (.ref a), .val (.ref b), .val (.int (0 : Int32)), .val (.int (Int32.ofNat cs.length)), .val .null, .unset] [(.ref d)])
  rcases B2 with ⟨B2, hl⟩ | B2
  · refine W.o_astore X (pc' := 41) d_jdk_42_method_149_39 rfl (L' := #[.val (.ref a), .val (.ref b), .val (.int (0 : Int32)), .val (.int (Int32.ofNat cs.length)), .val .null, .val (.ref d)]) rfl rfl ?_
    refine W.o_aloadN X (pc' := 42) d_jdk_42_method_149_41 rfl rfl rfl ?_
    refine W.o_aload X (pc' := 44) d_jdk_42_method_149_42 rfl rfl rfl ?_
    refine W.o_iloadN X (pc' := 45) d_jdk_42_method_149_44 rfl rfl ?_
    refine W.o_static X (pc' := 48) d_jdk_42_method_149_45 rfl (z := (⟨"java/lang/StringUTF16", "coderFromArrayLen", "([BI)B"⟩ : MethodName)) (hw _ (List.mem_of_getElem? (i := 89) rfl)) (hw _ (List.mem_of_getElem? (i := 90) rfl)) (hw _ (List.mem_of_getElem? (i := 84) rfl)) (hw _ (List.mem_of_getElem? (i := 91) rfl)) (by decide) (ctCodL l Z a0 hw d kd (Int32.ofNat cs.length) _ h36 B2) (fun _ q => nomatch q) [(.ref d), (.int (Int32.ofNat cs.length))] rfl (rest := [(.ref a)]) rfl pd___BI_B rfl rfl (by decide) (by exact Nat.le_of_ble_eq_true rfl) (by decide) (by decide) (fun v37 T q38 => ?_)
    obtain ⟨h41, S39, ⟨rfl, eh⟩, X40⟩ := q38
    have eh := eh.symm
    subst eh
    have X := X40 [] all0
    show W.Go _ _ _ _ _ _ _ _ _ _ _ (mkF m 48 #[.val (.ref a), .val (.ref b), .val (.int (0 : Int32)), .val (.int (Int32.ofNat cs.length)), .val .null, .val (.ref d)] [(.int (0 : Int32)), (.ref a)])
    have f42 := (E0.keep K2)
    have f43 := (F1.keep K2 nin0)
    refine W.o_putfieldN X (pc' := 51) d_jdk_42_method_149_48 rfl (hw _ (List.mem_of_getElem? (i := 29) rfl)) Via.refl f43 f42 (Or.inr ⟨(hw _ (List.mem_of_getElem? (i := 25) rfl)), rfl, rfl⟩) (hw _ (List.mem_of_getElem? (i := 9) rfl)) (ty := .byte) (v' := (.int (0 : Int32))) (by decide) rfl rfl gz (Or.inr (Or.inl (by simp))) (fun T h44 w45 X => ?_)
    have f46 := f43.same w45
    refine W.o_aloadN X (pc' := 52) d_jdk_42_method_149_51 rfl rfl rfl ?_
    refine W.o_aload X (pc' := 54) d_jdk_42_method_149_52 rfl rfl rfl ?_
    have f47 := (f42.wr w45)
    have f48 := ((F0.keep K2 nin0).other w45 (Or.inr (slot_ne (Or.inr (hw _ (List.mem_of_getElem? (i := 24) rfl))) (Or.inr (hw _ (List.mem_of_getElem? (i := 25) rfl))) (by decide) (t := (.array .byte)) (t' := .byte) (by decide) (by decide))))
    refine W.o_putfield X (pc' := 57) d_jdk_42_method_149_54 rfl (hw _ (List.mem_of_getElem? (i := 28) rfl)) Via.refl f48 f47 (Or.inr ⟨(hw _ (List.mem_of_getElem? (i := 24) rfl)), rfl, rfl⟩) (hw _ (List.mem_of_getElem? (i := 9) rfl)) (ty := (.array .byte)) (by decide) rfl rfl gz (Or.inr (Or.inl (by simp))) (fun T h49 w50 X => ?_)
    have f51 := f48.same w50
    have f52 := (f47.wr w50)
    have f53 := (f46.other w50 (Or.inr (slot_ne (Or.inr (hw _ (List.mem_of_getElem? (i := 25) rfl))) (Or.inr (hw _ (List.mem_of_getElem? (i := 24) rfl))) (by decide) (t := .byte) (t' := (.array .byte)) (by decide) (by decide))))
    have f54 := ((B2.other w45 (Ne.symm (Nat.ne_of_lt (Nat.lt_of_lt_of_le E0.lt gd)))).other w50 (Ne.symm (Nat.ne_of_lt (Nat.lt_of_lt_of_le E0.lt gd))))
    exact W.o_return X d_jdk_42_method_149_57 (by decide) (by decide) fun P hP => ⟨rfl, ((((Keep.refl h0 [a]).trans K2 all0).wr w45 (Or.inl (List.mem_of_getElem? (i := 0) rfl))).wr w50 (Or.inl (List.mem_of_getElem? (i := 0) rfl))), d, gd, f52, f51, by omega, hch, Or.inl ⟨f53, ⟨kd, f54⟩, hl⟩⟩
  · refine W.o_astore X (pc' := 41) d_jdk_42_method_149_39 rfl (L' := #[.val (.ref a), .val (.ref b), .val (.int (0 : Int32)), .val (.int (Int32.ofNat cs.length)), .val .null, .val (.ref d)]) rfl rfl ?_
    refine W.o_aloadN X (pc' := 42) d_jdk_42_method_149_41 rfl rfl rfl ?_
    refine W.o_aload X (pc' := 44) d_jdk_42_method_149_42 rfl rfl rfl ?_
    refine W.o_iloadN X (pc' := 45) d_jdk_42_method_149_44 rfl rfl ?_
    refine W.o_static X (pc' := 48) d_jdk_42_method_149_45 rfl (z := (⟨"java/lang/StringUTF16", "coderFromArrayLen", "([BI)B"⟩ : MethodName)) (hw _ (List.mem_of_getElem? (i := 89) rfl)) (hw _ (List.mem_of_getElem? (i := 90) rfl)) (hw _ (List.mem_of_getElem? (i := 84) rfl)) (hw _ (List.mem_of_getElem? (i := 91) rfl)) (by decide) (ctCodU l Z a0 hw d kd cs.length _ h36 (by omega) hn B2) (fun _ q => nomatch q) [(.ref d), (.int (Int32.ofNat cs.length))] rfl (rest := [(.ref a)]) rfl pd___BI_B rfl rfl (by decide) (by exact Nat.le_of_ble_eq_true rfl) (by decide) (by decide) (fun v55 T q56 => ?_)
    obtain ⟨h59, S57, ⟨rfl, eh⟩, X58⟩ := q56
    have eh := eh.symm
    subst eh
    have X := X58 [] all0
    show W.Go _ _ _ _ _ _ _ _ _ _ _ (mkF m 48 #[.val (.ref a), .val (.ref b), .val (.int (0 : Int32)), .val (.int (Int32.ofNat cs.length)), .val .null, .val (.ref d)] [(.int (1 : Int32)), (.ref a)])
    have f60 := (E0.keep K2)
    have f61 := (F1.keep K2 nin0)
    refine W.o_putfieldN X (pc' := 51) d_jdk_42_method_149_48 rfl (hw _ (List.mem_of_getElem? (i := 29) rfl)) Via.refl f61 f60 (Or.inr ⟨(hw _ (List.mem_of_getElem? (i := 25) rfl)), rfl, rfl⟩) (hw _ (List.mem_of_getElem? (i := 9) rfl)) (ty := .byte) (v' := (.int (1 : Int32))) (by decide) rfl rfl gz (Or.inr (Or.inl (by simp))) (fun T h62 w63 X => ?_)
    have f64 := f61.same w63
    refine W.o_aloadN X (pc' := 52) d_jdk_42_method_149_51 rfl rfl rfl ?_
    refine W.o_aload X (pc' := 54) d_jdk_42_method_149_52 rfl rfl rfl ?_
    have f65 := (f60.wr w63)
    have f66 := ((F0.keep K2 nin0).other w63 (Or.inr (slot_ne (Or.inr (hw _ (List.mem_of_getElem? (i := 24) rfl))) (Or.inr (hw _ (List.mem_of_getElem? (i := 25) rfl))) (by decide) (t := (.array .byte)) (t' := .byte) (by decide) (by decide))))
    refine W.o_putfield X (pc' := 57) d_jdk_42_method_149_54 rfl (hw _ (List.mem_of_getElem? (i := 28) rfl)) Via.refl f66 f65 (Or.inr ⟨(hw _ (List.mem_of_getElem? (i := 24) rfl)), rfl, rfl⟩) (hw _ (List.mem_of_getElem? (i := 9) rfl)) (ty := (.array .byte)) (by decide) rfl rfl gz (Or.inr (Or.inl (by simp))) (fun T h67 w68 X => ?_)
    have f69 := f66.same w68
    have f70 := (f65.wr w68)
    have f71 := (f64.other w68 (Or.inr (slot_ne (Or.inr (hw _ (List.mem_of_getElem? (i := 25) rfl))) (Or.inr (hw _ (List.mem_of_getElem? (i := 24) rfl))) (by decide) (t := .byte) (t' := (.array .byte)) (by decide) (by decide))))
    have f72 := ((B2.other w63 (Ne.symm (Nat.ne_of_lt (Nat.lt_of_lt_of_le E0.lt gd)))).other w68 (Ne.symm (Nat.ne_of_lt (Nat.lt_of_lt_of_le E0.lt gd))))
    exact W.o_return X d_jdk_42_method_149_57 (by decide) (by decide) fun P hP => ⟨rfl, ((((Keep.refl h0 [a]).trans K2 all0).wr w63 (Or.inl (List.mem_of_getElem? (i := 0) rfl))).wr w68 (Or.inl (List.mem_of_getElem? (i := 0) rfl))), d, gd, f70, f69, by omega, hch, Or.inr ⟨f71, kd, f72⟩⟩
set_option maxRecDepth 65536 in
set_option maxHeartbeats 40000000 in
theorem ctNew1 (l : Launch) (Z : State) (a0 : Array Value) (hw : ∀ d ∈ tables_1, d.before a0 Z = true) (a b : Addr) (kb : ClassId) (cs : List Int32) (cz : Int32) (h0 : Heap) (AS : Sta Z Z.heap "java/lang/StringUTF16" "$assertionsDisabled" "Z" (.int (1 : Int32))) (HI : Sta Z Z.heap "java/lang/StringUTF16" "HI_BYTE_SHIFT" "I" (.int (0 : Int32))) (LO : Sta Z Z.heap "java/lang/StringUTF16" "LO_BYTE_SHIFT" "I" (.int (8 : Int32))) (hN : 2 * cs.length ≤ 16) (hn : cs.length ≠ 0) (hch : ∀ c ∈ cs, ¬ c < 0 ∧ ¬ 65535 < c) (C0 : Sta Z Z.heap "java/lang/String" "COMPACT_STRINGS" "Z" (.int cz)) (hcz : ¬ cz = 0) (gz : Z.heap.size ≤ a) (E0 : Exa Z h0 a "java/lang/String") (F0 : Fld Z h0 a "java/lang/String" "value" "[B" .null) (F1 : Fld Z h0 a "java/lang/String" "coder" "B" (.int (0 : Int32))) (A0 : Arv Z h0 b kb .char (Int32.ofNat cs.length) (cs.map .int) (.int 0)) :
    W.Ct wd Z a0 el l (⟨"java/lang/String", "<init>", "([C)V"⟩ : MethodName) jdk_42_method_3_code 2 none ({ frames := 5, cells := 2, slots := 32, locals := 90 } : Room) #[(.ref a), (.ref b)] h0 [a] (fun v h S => v = none ∧ Keep h0 h [a] ∧ ∃ t, h0.size ≤ t ∧ StrG Z h a t cs) := by
  refine W.Ct.walk hwe (plainFor_of_name pn_java_lang_String) ?_
  intro p e s m below meth c T hE0 X
  refine W.castG (show entryFrame m #[(.ref a), (.ref b)] 2 = mkF m 0 #[.val (.ref a), .val (.ref b)] [] from by first | (simp [entryFrame, mkF, argsToLocals, Value.category]; done) | rfl) ?_
  refine W.o_aloadN X (pc' := 1) d_jdk_42_method_3_0 rfl rfl rfl ?_
  refine W.o_aloadN X (pc' := 2) d_jdk_42_method_3_1 rfl rfl rfl ?_
  refine W.o_iconst X (0 : Int32) (pc' := 3) d_jdk_42_method_3_2 rfl rfl ?_
  refine W.o_aloadN X (pc' := 4) d_jdk_42_method_3_3 rfl rfl rfl ?_
  refine W.o_arraylength X (pc' := 5) d_jdk_42_method_3_4 rfl A0 ?_
  refine W.o_aconst_null X (pc' := 6) d_jdk_42_method_3_5 rfl ?_
  refine W.o_special X (pc' := 9) d_jdk_42_method_3_6 rfl (z := (⟨"java/lang/String", "<init>", "([CIILjava/lang/Void;)V"⟩ : MethodName)) rfl (hw _ (List.mem_of_getElem? (i := 15) rfl)) (hw _ (List.mem_of_getElem? (i := 16) rfl)) (hw _ (List.mem_of_getElem? (i := 10) rfl)) (hw _ (List.mem_of_getElem? (i := 18) rfl)) (by decide) (ctNew4 l Z a0 hw a b kb cs cz h0 AS HI LO hN hn hch C0 hcz gz E0 F0 F1 A0) (allS ⟨E0.lt, (Or.inr (Or.inl (by simp)))⟩ all0) [(.ref b), (.int (0 : Int32)), (.int (Int32.ofNat cs.length)), .null] rfl (rest := []) rfl pd___CIILjava_lang_Void__V rfl rfl (by decide) (by exact Nat.le_of_ble_eq_true rfl) (by decide) (by decide) (fun v73 T q74 => ?_)
  obtain ⟨h77, S75, ⟨rfl, K2, t, gt, R2⟩, X76⟩ := q74
  have X := X76 [] all0
  show W.Go _ _ _ _ _ _ _ _ _ _ _ (mkF m 9 #[.val (.ref a), .val (.ref b)] [])
  exact W.o_return X d_jdk_42_method_3_9 (by decide) (by decide) fun P hP => ⟨rfl, K2, t, gt, R2⟩
set_option maxRecDepth 65536 in
set_option maxHeartbeats 40000000 in
theorem ctNew4E (l : Launch) (Z : State) (a0 : Array Value) (hw : ∀ d ∈ tables_1, d.before a0 Z = true) (a b : Addr) (h0 : Heap) (gz : Z.heap.size ≤ a) (E0 : Exa Z h0 a "java/lang/String") (F0 : Fld Z h0 a "java/lang/String" "value" "[B" .null) (F1 : Fld Z h0 a "java/lang/String" "coder" "B" (.int (0 : Int32))) :
    W.Ct wd Z a0 el l (⟨"java/lang/String", "<init>", "([CIILjava/lang/Void;)V"⟩ : MethodName) jdk_42_method_149_code 6 none ({ frames := 1, cells := 4, slots := 8, locals := 12 } : Room) #[(.ref a), (.ref b), (.int (0 : Int32)), (.int (0 : Int32)), .null] h0 [a] (fun v h S => v = none ∧ Keep h0 h [a] ∧ ∃ t, Str Z h a t []) := by
  refine W.Ct.walk hwe (plainFor_of_name pn_java_lang_String) ?_
  intro p e s m below meth c T hE0 X
  refine W.castG (show entryFrame m #[(.ref a), (.ref b), (.int (0 : Int32)), (.int (0 : Int32)), .null] 6 = mkF m 0 #[.val (.ref a), .val (.ref b), .val (.int (0 : Int32)), .val (.int (0 : Int32)), .val .null, .unset] [] from by first | (simp [entryFrame, mkF, argsToLocals, Value.category]; done) | rfl) ?_
  have hwS : ∀ a ∈ Bundle.stringAtoms, a.before a0 Z = true := fun a ha => hw a (hwS0 a ha)
  refine W.o_aloadN X (pc' := 1) d_jdk_42_method_149_0 rfl rfl rfl ?_
  refine W.o_initO X (pc' := 4) d_jdk_42_method_149_1 rfl (hw _ (List.mem_of_getElem? (i := 19) rfl)) (hw _ (List.mem_of_getElem? (i := 20) rfl)) (hw _ (List.mem_of_getElem? (i := 21) rfl)) rfl (by decide) (by decide) (fun T X => ?_)
  refine W.o_iloadN X (pc' := 5) d_jdk_42_method_149_4 rfl rfl ?_
  refine W.o_ifne X (pt := 27) (pf := 8) d_jdk_42_method_149_5 ⟨by decide, by decide⟩ rfl (fun hc => absurd rfl hc) (fun _ => ?_)
  refine W.o_aloadN X (pc' := 9) d_jdk_42_method_149_8 rfl rfl rfl ?_
  refine W.o_ldcT X rfl (pc' := 11) d_jdk_42_method_149_9 rfl (hw _ (List.mem_of_getElem? (i := 22) rfl)) hwS (by decide) (vs := []) (z := 0) ⟨fun c hc => (nomatch hc), rfl⟩ (by decide) (by decide) (nn := 0) (by decide) (by decide) (by decide) (by decide) (fun T hl1 s1 u1 kl1 el1 El1 Cl1 Vl1 Bl1 nl1 X => ?_)
  refine W.o_getfield X (pc' := 14) d_jdk_42_method_149_11 rfl (hw _ (List.mem_of_getElem? (i := 28) rfl)) Via.refl Vl1 (fun T X => ?_)
  have f78 := (E0.ext el1)
  have f79 := (F0.ext el1)
  refine W.o_putfield X (pc' := 17) d_jdk_42_method_149_14 rfl (hw _ (List.mem_of_getElem? (i := 28) rfl)) Via.refl f79 f78 (Or.inr ⟨(hw _ (List.mem_of_getElem? (i := 24) rfl)), rfl, rfl⟩) (hw _ (List.mem_of_getElem? (i := 9) rfl)) (ty := (.array .byte)) (by decide) rfl rfl gz (Or.inr (Or.inl (by simp))) (fun T h80 w81 X => ?_)
  have f82 := f79.same w81
  refine W.o_aloadN X (pc' := 18) d_jdk_42_method_149_17 rfl rfl rfl ?_
  refine W.o_ldcT X rfl (pc' := 20) d_jdk_42_method_149_18 rfl (hw _ (List.mem_of_getElem? (i := 22) rfl)) hwS (by decide) (vs := []) (z := 0) ⟨fun c hc => (nomatch hc), rfl⟩ (by decide) (by decide) (nn := 0) (by decide) (by decide) (by decide) (by decide) (fun T hl2 s2 u2 kl2 el2 El2 Cl2 Vl2 Bl2 nl2 X => ?_)
  refine W.o_getfield X (pc' := 23) d_jdk_42_method_149_20 rfl (hw _ (List.mem_of_getElem? (i := 29) rfl)) Via.refl Cl2 (fun T X => ?_)
  have f83 := ((f78.wr w81).ext el2)
  have f84 := (((F1.ext el1).other w81 (Or.inr (slot_ne (Or.inr (hw _ (List.mem_of_getElem? (i := 25) rfl))) (Or.inr (hw _ (List.mem_of_getElem? (i := 24) rfl))) (by decide) (t := .byte) (t' := (.array .byte)) (by decide) (by decide)))).ext el2)
  refine W.o_putfieldN X (pc' := 26) d_jdk_42_method_149_23 rfl (hw _ (List.mem_of_getElem? (i := 29) rfl)) Via.refl f84 f83 (Or.inr ⟨(hw _ (List.mem_of_getElem? (i := 25) rfl)), rfl, rfl⟩) (hw _ (List.mem_of_getElem? (i := 9) rfl)) (ty := .byte) (v' := (.int (0 : Int32))) (by decide) rfl rfl gz (Or.inr (Or.inl (by simp))) (fun T h85 w86 X => ?_)
  have f87 := f84.same w86
  have f88 := (f83.wr w86)
  have f89 := ((f82.ext el2).other w86 (Or.inr (slot_ne (Or.inr (hw _ (List.mem_of_getElem? (i := 24) rfl))) (Or.inr (hw _ (List.mem_of_getElem? (i := 25) rfl))) (by decide) (t := (.array .byte)) (t' := .byte) (by decide) (by decide))))
  have f90 := (((Bl1.other w81 (Ne.symm (nl1 a (by simp)).2)).ext el2).other w86 (Ne.symm (nl1 a (by simp)).2))
  exact W.o_return X d_jdk_42_method_149_26 (by decide) (by decide) fun P hP => ⟨rfl, (((((Keep.refl h0 [a]).ext el1).wr w81 (Or.inl (List.mem_of_getElem? (i := 0) rfl))).ext el2).wr w86 (Or.inl (List.mem_of_getElem? (i := 0) rfl))), u1, f88, f87, f89, ⟨kl1, f90⟩, by decide, fun c hc => (nomatch hc)⟩
set_option maxRecDepth 65536 in
set_option maxHeartbeats 40000000 in
theorem ctNew1E (l : Launch) (Z : State) (a0 : Array Value) (hw : ∀ d ∈ tables_1, d.before a0 Z = true) (a b : Addr) (kb : ClassId) (h0 : Heap) (gz : Z.heap.size ≤ a) (E0 : Exa Z h0 a "java/lang/String") (F0 : Fld Z h0 a "java/lang/String" "value" "[B" .null) (F1 : Fld Z h0 a "java/lang/String" "coder" "B" (.int (0 : Int32))) (A0 : Arv Z h0 b kb .char (0 : Int32) [] (.int 0)) :
    W.Ct wd Z a0 el l (⟨"java/lang/String", "<init>", "([C)V"⟩ : MethodName) jdk_42_method_3_code 2 none ({ frames := 2, cells := 4, slots := 8, locals := 29 } : Room) #[(.ref a), (.ref b)] h0 [a] (fun v h S => v = none ∧ Keep h0 h [a] ∧ ∃ t, Str Z h a t []) := by
  refine W.Ct.walk hwe (plainFor_of_name pn_java_lang_String) ?_
  intro p e s m below meth c T hE0 X
  refine W.castG (show entryFrame m #[(.ref a), (.ref b)] 2 = mkF m 0 #[.val (.ref a), .val (.ref b)] [] from by first | (simp [entryFrame, mkF, argsToLocals, Value.category]; done) | rfl) ?_
  refine W.o_aloadN X (pc' := 1) d_jdk_42_method_3_0 rfl rfl rfl ?_
  refine W.o_aloadN X (pc' := 2) d_jdk_42_method_3_1 rfl rfl rfl ?_
  refine W.o_iconst X (0 : Int32) (pc' := 3) d_jdk_42_method_3_2 rfl rfl ?_
  refine W.o_aloadN X (pc' := 4) d_jdk_42_method_3_3 rfl rfl rfl ?_
  refine W.o_arraylength X (pc' := 5) d_jdk_42_method_3_4 rfl A0 ?_
  refine W.o_aconst_null X (pc' := 6) d_jdk_42_method_3_5 rfl ?_
  refine W.o_special X (pc' := 9) d_jdk_42_method_3_6 rfl (z := (⟨"java/lang/String", "<init>", "([CIILjava/lang/Void;)V"⟩ : MethodName)) rfl (hw _ (List.mem_of_getElem? (i := 15) rfl)) (hw _ (List.mem_of_getElem? (i := 16) rfl)) (hw _ (List.mem_of_getElem? (i := 10) rfl)) (hw _ (List.mem_of_getElem? (i := 18) rfl)) (by decide) (ctNew4E l Z a0 hw a b h0 gz E0 F0 F1) (allS ⟨E0.lt, (Or.inr (Or.inl (by simp)))⟩ all0) [(.ref b), (.int (0 : Int32)), (.int (0 : Int32)), .null] rfl (rest := []) rfl pd___CIILjava_lang_Void__V rfl rfl (by decide) (by exact Nat.le_of_ble_eq_true rfl) (by decide) (by decide) (fun v91 T q92 => ?_)
  obtain ⟨h95, S93, ⟨rfl, K2, t, R2⟩, X94⟩ := q92
  have X := X94 [] all0
  show W.Go _ _ _ _ _ _ _ _ _ _ _ (mkF m 9 #[.val (.ref a), .val (.ref b)] [])
  exact W.o_return X d_jdk_42_method_3_9 (by decide) (by decide) fun P hP => ⟨rfl, K2, t, R2⟩
set_option maxRecDepth 65536 in
set_option maxHeartbeats 40000000 in
theorem ctIsL (l : Launch) (Z : State) (a0 : Array Value) (hw : ∀ d ∈ tables_1, d.before a0 Z = true) (a : Addr) (cz cd : Int32) (h0 : Heap) (C0 : Sta Z Z.heap "java/lang/String" "COMPACT_STRINGS" "Z" (.int cz)) (hcz : ¬ cz = 0) (F0 : Fld Z h0 a "java/lang/String" "coder" "B" (.int cd)) :
    W.Ct wd Z a0 el l (⟨"java/lang/String", "isLatin1", "()Z"⟩ : MethodName) jdk_42_method_154_code 1 (some .boolean) ({ frames := 0, cells := 0, slots := 0, locals := 0 } : Room) #[(.ref a)] h0 [] (fun v h S => v = some (.int (if cd = 0 then 1 else 0)) ∧ h = h0) := by
  refine W.Ct.walk hwe (plainFor_of_name pn_java_lang_String) ?_
  intro p e s m below meth c T hE0 X
  refine W.castG (show entryFrame m #[(.ref a)] 1 = mkF m 0 #[.val (.ref a)] [] from by first | (simp [entryFrame, mkF, argsToLocals, Value.category]; done) | rfl) ?_
  refine W.o_getstatic X (pc' := 3) d_jdk_42_method_154_0 rfl (hw _ (List.mem_of_getElem? (i := 57) rfl)) Via.refl C0 (fun T X => ?_)
  refine W.o_ifeq X (pt := 17) (pf := 6) d_jdk_42_method_154_3 ⟨by decide, by decide⟩ rfl (fun hc => absurd hc hcz) (fun _ => ?_)
  refine W.o_aloadN X (pc' := 7) d_jdk_42_method_154_6 rfl rfl rfl ?_
  refine W.o_getfield X (pc' := 10) d_jdk_42_method_154_7 rfl (hw _ (List.mem_of_getElem? (i := 29) rfl)) Via.refl F0 (fun T X => ?_)
  refine W.o_ifne X (pt := 17) (pf := 13) d_jdk_42_method_154_10 ⟨by decide, by decide⟩ rfl (fun hc => ?_) (fun hc => ?_)
  · refine W.o_iconst X (0 : Int32) (pc' := 18) d_jdk_42_method_154_17 rfl rfl ?_
    exact W.o_ireturn X d_jdk_42_method_154_18 rfl (Or.inl rfl) (v := 0) rfl (by decide) (by decide) fun P hP => ⟨by simp [hc], rfl⟩
  · refine W.o_iconst X (1 : Int32) (pc' := 14) d_jdk_42_method_154_13 rfl rfl ?_
    refine W.o_goto X (pc' := 18) d_jdk_42_method_154_14 ⟨by decide, by decide⟩ ?_
    exact W.o_ireturn X d_jdk_42_method_154_18 rfl (Or.inl rfl) (v := 1) rfl (by decide) (by decide) fun P hP => ⟨by simp [hc], rfl⟩
set_option maxRecDepth 65536 in
set_option maxHeartbeats 40000000 in
theorem ctMax (l : Launch) (Z : State) (a0 : Array Value) (hw : ∀ d ∈ tables_1, d.before a0 Z = true) (x y : Int32) (h0 : Heap)  :
    W.Ct wd Z a0 el l (⟨"java/lang/Math", "max", "(II)I"⟩ : MethodName) jdk_29_method_65_code 2 (some .int) ({ frames := 0, cells := 0, slots := 0, locals := 0 } : Room) #[(.int x), (.int y)] h0 [] (fun v h S => v = some (.int (if x < y then y else x)) ∧ h = h0) := by
  refine W.Ct.walk hwe (Jvm.Free.JP.mathPlain rfl (by decide +kernel)) ?_
  intro p e s m below meth c T hE0 X
  refine W.castG (show entryFrame m #[(.int x), (.int y)] 2 = mkF m 0 #[.val (.int x), .val (.int y)] [] from by first | (simp [entryFrame, mkF, argsToLocals, Value.category]; done) | rfl) ?_
  refine W.o_iloadN X (pc' := 1) d_jdk_29_method_65_0 rfl rfl ?_
  refine W.o_iloadN X (pc' := 2) d_jdk_29_method_65_1 rfl rfl ?_
  refine W.o_if_icmplt X (pt := 9) (pf := 5) d_jdk_29_method_65_2 ⟨by decide, by decide⟩ rfl (fun hc => ?_) (fun hc => ?_)
  · refine W.o_iloadN X (pc' := 10) d_jdk_29_method_65_9 rfl rfl ?_
    exact W.o_ireturnI X d_jdk_29_method_65_10 rfl (by decide) (by decide) fun P hP => ⟨by simp [hc], rfl⟩
  · refine W.o_iloadN X (pc' := 6) d_jdk_29_method_65_5 rfl rfl ?_
    refine W.o_goto X (pc' := 10) d_jdk_29_method_65_6 ⟨by decide, by decide⟩ ?_
    exact W.o_ireturnI X d_jdk_29_method_65_10 rfl (by decide) (by decide) fun P hP => ⟨by simp [hc], rfl⟩
set_option maxRecDepth 65536 in
set_option maxHeartbeats 40000000 in
theorem ctMin (l : Launch) (Z : State) (a0 : Array Value) (hw : ∀ d ∈ tables_1, d.before a0 Z = true) (x y : Int32) (h0 : Heap)  :
    W.Ct wd Z a0 el l (⟨"java/lang/Math", "min", "(II)I"⟩ : MethodName) jdk_29_method_69_code 2 (some .int) ({ frames := 0, cells := 0, slots := 0, locals := 0 } : Room) #[(.int x), (.int y)] h0 [] (fun v h S => v = some (.int (if y < x then y else x)) ∧ h = h0) := by
  refine W.Ct.walk hwe (Jvm.Free.JP.mathPlain rfl (by decide +kernel)) ?_
  intro p e s m below meth c T hE0 X
  refine W.castG (show entryFrame m #[(.int x), (.int y)] 2 = mkF m 0 #[.val (.int x), .val (.int y)] [] from by first | (simp [entryFrame, mkF, argsToLocals, Value.category]; done) | rfl) ?_
  refine W.o_iloadN X (pc' := 1) d_jdk_29_method_69_0 rfl rfl ?_
  refine W.o_iloadN X (pc' := 2) d_jdk_29_method_69_1 rfl rfl ?_
  refine W.o_if_icmpgt X (pt := 9) (pf := 5) d_jdk_29_method_69_2 ⟨by decide, by decide⟩ rfl (fun hc => ?_) (fun hc => ?_)
  · refine W.o_iloadN X (pc' := 10) d_jdk_29_method_69_9 rfl rfl ?_
    exact W.o_ireturnI X d_jdk_29_method_69_10 rfl (by decide) (by decide) fun P hP => ⟨by simp [hc], rfl⟩
  · refine W.o_iloadN X (pc' := 6) d_jdk_29_method_69_5 rfl rfl ?_
    refine W.o_goto X (pc' := 10) d_jdk_29_method_69_6 ⟨by decide, by decide⟩ ?_
    exact W.o_ireturnI X d_jdk_29_method_69_10 rfl (by decide) (by decide) fun P hP => ⟨by simp [hc], rfl⟩
set_option maxRecDepth 65536 in
set_option maxHeartbeats 40000000 in
theorem ctCE (l : Launch) (Z : State) (a0 : Array Value) (hw : ∀ d ∈ tables_1, d.before a0 Z = true) (x : Int32) (h0 : Heap) (hx : ¬ x < 0 ∧ ¬ 255 < x) :
    W.Ct wd Z a0 el l (⟨"java/lang/StringLatin1", "canEncode", "(I)Z"⟩ : MethodName) jdk_43_method_4_code 1 (some .boolean) ({ frames := 0, cells := 0, slots := 0, locals := 0 } : Room) #[(.int x)] h0 [] (fun v h S => v = some (.int 1) ∧ h = h0) := by
  refine W.Ct.walk hwe (plainFor_of_name pn_java_lang_StringLatin1) ?_
  intro p e s m below meth c T hE0 X
  refine W.castG (show entryFrame m #[(.int x)] 1 = mkF m 0 #[.val (.int x)] [] from by first | (simp [entryFrame, mkF, argsToLocals, Value.category]; done) | rfl) ?_
  refine W.o_iloadN X (pc' := 1) d_jdk_43_method_4_0 rfl rfl ?_
  refine W.o_iflt X (pt := 15) (pf := 4) d_jdk_43_method_4_1 ⟨by decide, by decide⟩ rfl (fun hc => absurd hc hx.1) (fun _ => ?_)
  refine W.o_iloadN X (pc' := 5) d_jdk_43_method_4_4 rfl rfl ?_
  refine W.o_sipush X (255 : Int32) (pc' := 8) d_jdk_43_method_4_5 rfl rfl ?_
  refine W.o_if_icmpgt X (pt := 15) (pf := 11) d_jdk_43_method_4_8 ⟨by decide, by decide⟩ rfl (fun hc => absurd hc hx.2) (fun _ => ?_)
  refine W.o_iconst X (1 : Int32) (pc' := 12) d_jdk_43_method_4_11 rfl rfl ?_
  refine W.o_goto X (pc' := 16) d_jdk_43_method_4_12 ⟨by decide, by decide⟩ ?_
  exact W.o_ireturn X d_jdk_43_method_4_16 rfl (Or.inl rfl) (v := 1) rfl (by decide) (by decide) fun P hP => ⟨rfl, rfl⟩
set_option maxRecDepth 65536 in
set_option maxHeartbeats 40000000 in
theorem ctIOC (l : Launch) (Z : State) (a0 : Array Value) (hw : ∀ d ∈ tables_1, d.before a0 Z = true) (d : Addr) (kd : ClassId) (cs : List Int32) (ch : Int32) (h0 : Heap) (hN : cs.length ≤ 1000) (hch : ¬ ch < 0 ∧ ¬ 255 < ch) (hcs : ∀ c ∈ cs, ¬ c < 0 ∧ ¬ 255 < c) (B0 : Arv Z h0 d kd .byte (Int32.ofNat cs.length) (cs.map lo) (.int 0)) :
    W.Ct wd Z a0 el l (⟨"java/lang/StringLatin1", "indexOfChar", "([BIII)I"⟩ : MethodName) jdk_43_method_23_code 6 (some .int) ({ frames := 0, cells := 0, slots := 0, locals := 0 } : Room) #[(.ref d), (.int ch), (.int (0 : Int32)), (.int (Int32.ofNat cs.length))] h0 [] (fun v h S => v = some (.int (ix cs ch 0 cs.length)) ∧ h = h0) := by
  refine W.Ct.walk hwe (plainFor_of_name pn_java_lang_StringLatin1) ?_
  intro p e s m below meth c T hE0 X
  refine W.castG (show entryFrame m #[(.ref d), (.int ch), (.int (0 : Int32)), (.int (Int32.ofNat cs.length))] 6 = mkF m 0 #[.val (.ref d), .val (.int ch), .val (.int (0 : Int32)), .val (.int (Int32.ofNat cs.length)), .unset, .unset] [] from by first | (simp [entryFrame, mkF, argsToLocals, Value.category]; done) | rfl) ?_
  refine W.o_iloadN X (pc' := 1) d_jdk_43_method_23_0 rfl rfl ?_
  refine W.o_i2b X (pc' := 2) d_jdk_43_method_23_1 rfl ?_
  refine W.o_istore X (pc' := 4) d_jdk_43_method_23_2 rfl (L' := #[.val (.ref d), .val (.int ch), .val (.int (0 : Int32)), .val (.int (Int32.ofNat cs.length)), .val (.int (ch.toInt8.toInt32)), .unset]) rfl ?_
  refine W.o_iloadN X (pc' := 5) d_jdk_43_method_23_4 rfl rfl ?_
  refine W.o_istore X (pc' := 7) d_jdk_43_method_23_5 rfl (L' := #[.val (.ref d), .val (.int ch), .val (.int (0 : Int32)), .val (.int (Int32.ofNat cs.length)), .val (.int (ch.toInt8.toInt32)), .val (.int (0 : Int32))]) rfl ?_
  have loop : ∀ (n k : Nat), k + n = cs.length → ix cs ch 0 cs.length = ix cs ch k n → W.Go wd Z el ({ frames := 0, cells := 0, slots := 0, locals := 0 } : Room).cells ({ frames := 0, cells := 0, slots := 0, locals := 0 } : Room).slots (fun v h S => v = some (.int (ix cs ch 0 cs.length)) ∧ h = h0) p e s below T (mkF m 7 #[.val (.ref d), .val (.int ch), .val (.int (0 : Int32)), .val (.int (Int32.ofNat cs.length)), .val (.int ch.toInt8.toInt32), .val (.int (Int32.ofNat k))] []) := by
    intro n
    induction n with
    | zero =>
      intro k hk hx
      have ek : k = cs.length := by omega
      subst ek
      refine W.o_iload X (pc' := 9) d_jdk_43_method_23_7 rfl rfl ?_
      refine W.o_iloadN X (pc' := 10) d_jdk_43_method_23_9 rfl rfl ?_
      refine W.o_if_icmpge X (pt := 31) (pf := 13) d_jdk_43_method_23_10 ⟨by decide, by decide⟩ rfl (fun _ => ?_) (fun hc => absurd hc (o32_ge (Nat.le_refl _) (by omega)))
      refine W.o_iconst X (-1 : Int32) (pc' := 32) d_jdk_43_method_23_31 rfl rfl ?_
      exact W.o_ireturnI X d_jdk_43_method_23_32 rfl (by decide) (by decide) fun P hP => ⟨by rw [hx]; rfl, rfl⟩
    | succ n ih =>
      intro k hk hx
      have hkl : k < cs.length := by omega
      have hgd : cs.getD k 0 = cs[k] := getD_at hkl
      refine W.o_iload X (pc' := 9) d_jdk_43_method_23_7 rfl rfl ?_
      refine W.o_iloadN X (pc' := 10) d_jdk_43_method_23_9 rfl rfl ?_
      refine W.o_if_icmpge X (pt := 31) (pf := 13) d_jdk_43_method_23_10 ⟨by decide, by decide⟩ rfl (fun hc => absurd (o32_lt hkl (by omega)).2 hc) (fun _ => ?_)
      refine W.o_aloadN X (pc' := 14) d_jdk_43_method_23_13 rfl rfl rfl ?_
      refine W.o_iload X (pc' := 16) d_jdk_43_method_23_14 rfl rfl ?_
      refine W.o_baload X (pc' := 17) d_jdk_43_method_23_16 rfl B0 (o32_lt hkl (by omega)) (v := .int cs[k].toInt8.toInt32) (by rw [o32_clamp (by omega)]; exact getD_lo hkl _) ?_
      refine W.o_iload X (pc' := 19) d_jdk_43_method_23_17 rfl rfl ?_
      refine W.o_if_icmpne X (pt := 25) (pf := 22) d_jdk_43_method_23_19 ⟨by decide, by decide⟩ rfl (fun hc => ?_) (fun hc => ?_)
      · refine W.o_iinc X (1 : Int32) (pc' := 28) d_jdk_43_method_23_25 rfl rfl rfl (L' := #[.val (.ref d), .val (.int ch), .val (.int (0 : Int32)), .val (.int (Int32.ofNat cs.length)), .val (.int ch.toInt8.toInt32), .val (.int ((Int32.ofNat k) + (1 : Int32)))]) rfl ?_
        refine W.o_goto X (pc' := 7) d_jdk_43_method_23_28 ⟨by decide, by decide⟩ ?_
        rw [o32_succ]
        exact ih (k + 1) (by omega) (by rw [hx]; simp only [ix, hgd]; rw [if_neg (fun q => hc (by rw [q]))])
      · refine W.o_iload X (pc' := 24) d_jdk_43_method_23_22 rfl rfl ?_
        exact W.o_ireturnI X d_jdk_43_method_23_24 rfl (by decide) (by decide) fun P hP => ⟨by rw [hx]; simp only [ix, hgd]; rw [if_pos (lo_inj (hcs _ (List.getElem_mem hkl)) hch hc)], rfl⟩
  exact loop cs.length 0 (by omega) rfl
set_option maxRecDepth 65536 in
set_option maxHeartbeats 40000000 in
theorem ctLIO (l : Launch) (Z : State) (a0 : Array Value) (hw : ∀ d ∈ tables_1, d.before a0 Z = true) (d : Addr) (kd : ClassId) (cs : List Int32) (ch : Int32) (h0 : Heap) (hN : cs.length ≤ 1000) (hch : ¬ ch < 0 ∧ ¬ 255 < ch) (hcs : ∀ c ∈ cs, ¬ c < 0 ∧ ¬ 255 < c) (B0 : Arv Z h0 d kd .byte (Int32.ofNat cs.length) (cs.map lo) (.int 0)) :
    W.Ct wd Z a0 el l (⟨"java/lang/StringLatin1", "indexOf", "([BIII)I"⟩ : MethodName) jdk_43_method_22_code 4 (some .int) ({ frames := 1, cells := 0, slots := 0, locals := 17 } : Room) #[(.ref d), (.int ch), (.int (0 : Int32)), (.int (Int32.ofNat cs.length))] h0 [] (fun v h S => v = some (.int (ix cs ch 0 cs.length)) ∧ h = h0) := by
  refine W.Ct.walk hwe (plainFor_of_name pn_java_lang_StringLatin1) ?_
  intro p e s m below meth c T hE0 X
  refine W.castG (show entryFrame m #[(.ref d), (.int ch), (.int (0 : Int32)), (.int (Int32.ofNat cs.length))] 4 = mkF m 0 #[.val (.ref d), .val (.int ch), .val (.int (0 : Int32)), .val (.int (Int32.ofNat cs.length))] [] from by first | (simp [entryFrame, mkF, argsToLocals, Value.category]; done) | rfl) ?_
  refine W.o_iloadN X (pc' := 1) d_jdk_43_method_22_0 rfl rfl ?_
  refine W.o_static X (pc' := 4) d_jdk_43_method_22_1 rfl (z := (⟨"java/lang/StringLatin1", "canEncode", "(I)Z"⟩ : MethodName)) (hw _ (List.mem_of_getElem? (i := 72) rfl)) (hw _ (List.mem_of_getElem? (i := 73) rfl)) (hw _ (List.mem_of_getElem? (i := 70) rfl)) (hw _ (List.mem_of_getElem? (i := 74) rfl)) (by decide) (ctCE l Z a0 hw ch h0 hch) (fun _ q => nomatch q) [(.int ch)] rfl (rest := []) rfl pd__I_Z rfl rfl (by decide) (by exact Nat.le_of_ble_eq_true rfl) (by decide) (by decide) (fun v96 T q97 => ?_)
  obtain ⟨h100, S98, ⟨rfl, eh⟩, X99⟩ := q97
  have eh := eh.symm
  subst eh
  have X := X99 [] all0
  show W.Go _ _ _ _ _ _ _ _ _ _ _ (mkF m 4 #[.val (.ref d), .val (.int ch), .val (.int (0 : Int32)), .val (.int (Int32.ofNat cs.length))] [(.int (1 : Int32))])
  refine W.o_ifne X (pt := 9) (pf := 7) d_jdk_43_method_22_4 ⟨by decide, by decide⟩ rfl (fun _ => ?_) (fun hc => absurd hc (by decide))
  refine W.o_iloadN X (pc' := 10) d_jdk_43_method_22_9 rfl rfl ?_
  refine W.o_iconst X (0 : Int32) (pc' := 11) d_jdk_43_method_22_10 rfl rfl ?_
  refine W.o_static X (pc' := 14) d_jdk_43_method_22_11 rfl (z := (⟨"java/lang/Math", "max", "(II)I"⟩ : MethodName)) (hw _ (List.mem_of_getElem? (i := 75) rfl)) (hw _ (List.mem_of_getElem? (i := 76) rfl)) (hw _ (List.mem_of_getElem? (i := 77) rfl)) (hw _ (List.mem_of_getElem? (i := 78) rfl)) (by decide) (ctMax l Z a0 hw 0 0 h0) (fun _ q => nomatch q) [(.int (0 : Int32)), (.int (0 : Int32))] rfl (rest := []) rfl pd__II_I rfl rfl (by decide) (by exact Nat.le_of_ble_eq_true rfl) (by decide) (by decide) (fun v101 T q102 => ?_)
  obtain ⟨h105, S103, ⟨rfl, eh⟩, X104⟩ := q102
  have eh := eh.symm
  subst eh
  have X := X104 [] all0
  show W.Go _ _ _ _ _ _ _ _ _ _ _ (mkF m 14 #[.val (.ref d), .val (.int ch), .val (.int (0 : Int32)), .val (.int (Int32.ofNat cs.length))] [(.int (0 : Int32))])
  refine W.o_istoreN X (pc' := 15) d_jdk_43_method_22_14 rfl (L' := #[.val (.ref d), .val (.int ch), .val (.int (0 : Int32)), .val (.int (Int32.ofNat cs.length))]) rfl ?_
  refine W.o_iloadN X (pc' := 16) d_jdk_43_method_22_15 rfl rfl ?_
  refine W.o_aloadN X (pc' := 17) d_jdk_43_method_22_16 rfl rfl rfl ?_
  refine W.o_arraylength X (pc' := 18) d_jdk_43_method_22_17 rfl B0 ?_
  refine W.o_static X (pc' := 21) d_jdk_43_method_22_18 rfl (z := (⟨"java/lang/Math", "min", "(II)I"⟩ : MethodName)) (hw _ (List.mem_of_getElem? (i := 79) rfl)) (hw _ (List.mem_of_getElem? (i := 80) rfl)) (hw _ (List.mem_of_getElem? (i := 77) rfl)) (hw _ (List.mem_of_getElem? (i := 81) rfl)) (by decide) (ctMin l Z a0 hw (Int32.ofNat cs.length) (Int32.ofNat cs.length) h0) (fun _ q => nomatch q) [(.int (Int32.ofNat cs.length)), (.int (Int32.ofNat cs.length))] rfl (rest := []) rfl pd__II_I rfl rfl (by decide) (by exact Nat.le_of_ble_eq_true rfl) (by decide) (by decide) (fun v106 T q107 => ?_)
  obtain ⟨h110, S108, ⟨rfl, eh⟩, X109⟩ := q107
  have eh := eh.symm
  subst eh
  have X := X109 [] all0
  show W.Go _ _ _ _ _ _ _ _ _ _ _ (mkF m 21 #[.val (.ref d), .val (.int ch), .val (.int (0 : Int32)), .val (.int (Int32.ofNat cs.length))] [(.int (if (Int32.ofNat cs.length) < (Int32.ofNat cs.length) then (Int32.ofNat cs.length) else (Int32.ofNat cs.length)))])
  rw [ite_self]
  refine W.o_istoreN X (pc' := 22) d_jdk_43_method_22_21 rfl (L' := #[.val (.ref d), .val (.int ch), .val (.int (0 : Int32)), .val (.int (Int32.ofNat cs.length))]) rfl ?_
  refine W.o_iloadN X (pc' := 23) d_jdk_43_method_22_22 rfl rfl ?_
  refine W.o_iloadN X (pc' := 24) d_jdk_43_method_22_23 rfl rfl ?_
  refine W.o_if_icmplt X (pt := 29) (pf := 27) d_jdk_43_method_22_24 ⟨by decide, by decide⟩ rfl (fun hc => ?_) (fun hc => ?_)
  · refine W.o_aloadN X (pc' := 30) d_jdk_43_method_22_29 rfl rfl rfl ?_
    refine W.o_iloadN X (pc' := 31) d_jdk_43_method_22_30 rfl rfl ?_
    refine W.o_iloadN X (pc' := 32) d_jdk_43_method_22_31 rfl rfl ?_
    refine W.o_iloadN X (pc' := 33) d_jdk_43_method_22_32 rfl rfl ?_
    refine W.o_static X (pc' := 36) d_jdk_43_method_22_33 rfl (z := (⟨"java/lang/StringLatin1", "indexOfChar", "([BIII)I"⟩ : MethodName)) (hw _ (List.mem_of_getElem? (i := 95) rfl)) (hw _ (List.mem_of_getElem? (i := 96) rfl)) (hw _ (List.mem_of_getElem? (i := 70) rfl)) (hw _ (List.mem_of_getElem? (i := 97) rfl)) (by decide) (ctIOC l Z a0 hw d kd cs ch h0 hN hch hcs B0) (fun _ q => nomatch q) [(.ref d), (.int ch), (.int (0 : Int32)), (.int (Int32.ofNat cs.length))] rfl (rest := []) rfl pd___BIII_I rfl rfl (by decide) (by exact Nat.le_of_ble_eq_true rfl) (by decide) (by decide) (fun v111 T q112 => ?_)
    obtain ⟨h115, S113, ⟨rfl, eh⟩, X114⟩ := q112
    have eh := eh.symm
    subst eh
    have X := X114 [] all0
    show W.Go _ _ _ _ _ _ _ _ _ _ _ (mkF m 36 #[.val (.ref d), .val (.int ch), .val (.int (0 : Int32)), .val (.int (Int32.ofNat cs.length))] [(.int (ix cs ch 0 cs.length))])
    exact W.o_ireturnI X d_jdk_43_method_22_36 rfl (by decide) (by decide) fun P hP => ⟨rfl, rfl⟩
  · have e0 : cs.length = 0 := by
      apply Classical.byContradiction; intro q
      exact hc (o32_lt (i := 0) (by omega) (by omega)).2
    refine W.o_iconst X (-1 : Int32) (pc' := 28) d_jdk_43_method_22_27 rfl rfl ?_
    exact W.o_ireturnI X d_jdk_43_method_22_28 rfl (by decide) (by decide) fun P hP => ⟨by rw [e0]; rfl, rfl⟩
set_option maxRecDepth 65536 in
set_option maxHeartbeats 40000000 in
theorem ctULen (l : Launch) (Z : State) (a0 : Array Value) (hw : ∀ d ∈ tables_1, d.before a0 Z = true) (d : Addr) (kd : ClassId) (n : Nat) (vs : List Value) (h0 : Heap) (hn : n ≤ 1000) (B0 : Arv Z h0 d kd .byte (Int32.ofNat (2 * n)) vs (.int 0)) :
    W.Ct wd Z a0 el l (⟨"java/lang/StringUTF16", "length", "([B)I"⟩ : MethodName) jdk_52_method_6_code 1 (some .int) ({ frames := 0, cells := 0, slots := 0, locals := 0 } : Room) #[(.ref d)] h0 [] (fun v h S => v = some (.int (Int32.ofNat n)) ∧ h = h0) := by
  refine W.Ct.walk hwe (plainFor_of_name pn_java_lang_StringUTF16) ?_
  intro p e s m below meth c T hE0 X
  refine W.castG (show entryFrame m #[(.ref d)] 1 = mkF m 0 #[.val (.ref d)] [] from by first | (simp [entryFrame, mkF, argsToLocals, Value.category]; done) | rfl) ?_
  refine W.o_aloadN X (pc' := 1) d_jdk_52_method_6_0 rfl rfl rfl ?_
  refine W.o_arraylength X (pc' := 2) d_jdk_52_method_6_1 rfl B0 ?_
  refine W.o_iconst X (1 : Int32) (pc' := 3) d_jdk_52_method_6_2 rfl rfl ?_
  refine W.o_ishr X (pc' := 4) d_jdk_52_method_6_3 rfl ?_
  rw [shr1 (by omega)]
  exact W.o_ireturnI X d_jdk_52_method_6_4 rfl (by decide) (by decide) fun P hP => ⟨rfl, rfl⟩
set_option maxRecDepth 65536 in
set_option maxHeartbeats 40000000 in
theorem ctPre (l : Launch) (Z : State) (a0 : Array Value) (hw : ∀ d ∈ tables_1, d.before a0 Z = true) (n : Nat) (fv : Value) (h0 : Heap) (hfv : fv.isRef = true) (hn : n ≤ 1000) :
    W.Ct wd Z a0 el l (⟨"jdk/internal/util/Preconditions", "checkFromToIndex", "(IIILjava/util/function/BiFunction;)I"⟩ : MethodName) jdk_41_method_12_code 4 (some .int) ({ frames := 0, cells := 0, slots := 0, locals := 0 } : Room) #[(.int (0 : Int32)), (.int (Int32.ofNat n)), (.int (Int32.ofNat n)), fv] h0 [] (fun v h S => v = some (.int (0 : Int32)) ∧ h = h0) := by
  rcases ref_cases hfv with rfl | ⟨fa, rfl⟩
  all_goals
    refine W.Ct.walk hwe (plainFor_of_name pn_jdk_internal_util_Preconditions) ?_
    intro p e s m below meth c T hE0 X
    refine W.castG (show entryFrame m _ 4 = mkF m 0 #[.val (.int (0 : Int32)), .val (.int (Int32.ofNat n)), .val (.int (Int32.ofNat n)), .val _] [] from by first | (simp [entryFrame, mkF, argsToLocals, Value.category]; done) | rfl) ?_
    refine W.o_iloadN X (pc' := 1) d_jdk_41_method_12_0 rfl rfl ?_
    refine W.o_iflt X (pt := 14) (pf := 4) d_jdk_41_method_12_1 ⟨by decide, by decide⟩ rfl (fun hc => absurd hc (by decide)) (fun _ => ?_)
    refine W.o_iloadN X (pc' := 5) d_jdk_41_method_12_4 rfl rfl ?_
    refine W.o_iloadN X (pc' := 6) d_jdk_41_method_12_5 rfl rfl ?_
    refine W.o_if_icmpgt X (pt := 14) (pf := 9) d_jdk_41_method_12_6 ⟨by decide, by decide⟩ rfl (fun hc => absurd hc (o32_nn (by omega))) (fun _ => ?_)
    refine W.o_iloadN X (pc' := 10) d_jdk_41_method_12_9 rfl rfl ?_
    refine W.o_iloadN X (pc' := 11) d_jdk_41_method_12_10 rfl rfl ?_
    refine W.o_if_icmple X (pt := 22) (pf := 14) d_jdk_41_method_12_11 ⟨by decide, by decide⟩ rfl (fun _ => ?_) (fun hc => absurd hc (o32_ge (Nat.le_refl _) (by omega)))
    refine W.o_iloadN X (pc' := 23) d_jdk_41_method_12_22 rfl rfl ?_
    exact W.o_ireturnI X d_jdk_41_method_12_23 rfl (by decide) (by decide) fun P hP => ⟨rfl, rfl⟩
set_option maxRecDepth 65536 in
set_option maxHeartbeats 40000000 in
theorem ctSB (l : Launch) (Z : State) (a0 : Array Value) (hw : ∀ d ∈ tables_1, d.before a0 Z = true) (n : Nat) (fv : Value) (h0 : Heap) (FM : Sta Z Z.heap "jdk/internal/util/Preconditions" "SIOOBE_FORMATTER" "Ljava/util/function/BiFunction;" fv) (hfv : fv.isRef = true) (hn : n ≤ 1000) :
    W.Ct wd Z a0 el l (⟨"java/lang/String", "checkBoundsBeginEnd", "(III)V"⟩ : MethodName) jdk_42_method_158_code 3 none ({ frames := 1, cells := 0, slots := 0, locals := 15 } : Room) #[(.int (0 : Int32)), (.int (Int32.ofNat n)), (.int (Int32.ofNat n))] h0 [] (fun v h S => v = none ∧ h = h0) := by
  refine W.Ct.walk hwe (plainFor_of_name pn_java_lang_String) ?_
  intro p e s m below meth c T hE0 X
  refine W.castG (show entryFrame m #[(.int (0 : Int32)), (.int (Int32.ofNat n)), (.int (Int32.ofNat n))] 3 = mkF m 0 #[.val (.int (0 : Int32)), .val (.int (Int32.ofNat n)), .val (.int (Int32.ofNat n))] [] from by first | (simp [entryFrame, mkF, argsToLocals, Value.category]; done) | rfl) ?_
  refine W.o_iloadN X (pc' := 1) d_jdk_42_method_158_0 rfl rfl ?_
  refine W.o_iloadN X (pc' := 2) d_jdk_42_method_158_1 rfl rfl ?_
  refine W.o_iloadN X (pc' := 3) d_jdk_42_method_158_2 rfl rfl ?_
  refine W.o_getstatic X (pc' := 6) d_jdk_42_method_158_3 rfl (hw _ (List.mem_of_getElem? (i := 135) rfl)) Via.refl FM (fun T X => ?_)
  refine W.o_static X (pc' := 9) d_jdk_42_method_158_6 rfl (z := (⟨"jdk/internal/util/Preconditions", "checkFromToIndex", "(IIILjava/util/function/BiFunction;)I"⟩ : MethodName)) (hw _ (List.mem_of_getElem? (i := 137) rfl)) (hw _ (List.mem_of_getElem? (i := 138) rfl)) (hw _ (List.mem_of_getElem? (i := 136) rfl)) (hw _ (List.mem_of_getElem? (i := 139) rfl)) (by decide) (ctPre l Z a0 hw n fv h0 hfv hn) (fun _ q => nomatch q) [(.int (0 : Int32)), (.int (Int32.ofNat n)), (.int (Int32.ofNat n)), fv] rfl (rest := []) rfl pd__IIILjava_util_function_BiFunction__I rfl rfl (by decide) (by exact Nat.le_of_ble_eq_true rfl) (by decide) (by decide) (fun v116 T q117 => ?_)
  obtain ⟨h120, S118, ⟨rfl, eh⟩, X119⟩ := q117
  have eh := eh.symm
  subst eh
  have X := X119 [] all0
  show W.Go _ _ _ _ _ _ _ _ _ _ _ (mkF m 9 #[.val (.int (0 : Int32)), .val (.int (Int32.ofNat n)), .val (.int (Int32.ofNat n))] [(.int (0 : Int32))])
  refine W.o_pop X (pc' := 10) d_jdk_42_method_158_9 rfl rfl ?_
  exact W.o_return X d_jdk_42_method_158_10 (by decide) (by decide) fun P hP => ⟨rfl, rfl⟩
set_option maxRecDepth 65536 in
set_option maxHeartbeats 40000000 in
theorem ctUB (l : Launch) (Z : State) (a0 : Array Value) (hw : ∀ d ∈ tables_1, d.before a0 Z = true) (n : Nat) (fv : Value) (d : Addr) (kd : ClassId) (vs : List Value) (h0 : Heap) (FM : Sta Z Z.heap "jdk/internal/util/Preconditions" "SIOOBE_FORMATTER" "Ljava/util/function/BiFunction;" fv) (hfv : fv.isRef = true) (hn : n ≤ 1000) (B0 : Arv Z h0 d kd .byte (Int32.ofNat (2 * n)) vs (.int 0)) :
    W.Ct wd Z a0 el l (⟨"java/lang/StringUTF16", "checkBoundsBeginEnd", "(II[B)V"⟩ : MethodName) jdk_52_method_93_code 3 none ({ frames := 2, cells := 0, slots := 0, locals := 29 } : Room) #[(.int (0 : Int32)), (.int (Int32.ofNat n)), (.ref d)] h0 [] (fun v h S => v = none ∧ h = h0) := by
  refine W.Ct.walk hwe (plainFor_of_name pn_java_lang_StringUTF16) ?_
  intro p e s m below meth c T hE0 X
  refine W.castG (show entryFrame m #[(.int (0 : Int32)), (.int (Int32.ofNat n)), (.ref d)] 3 = mkF m 0 #[.val (.int (0 : Int32)), .val (.int (Int32.ofNat n)), .val (.ref d)] [] from by first | (simp [entryFrame, mkF, argsToLocals, Value.category]; done) | rfl) ?_
  refine W.o_iloadN X (pc' := 1) d_jdk_52_method_93_0 rfl rfl ?_
  refine W.o_iloadN X (pc' := 2) d_jdk_52_method_93_1 rfl rfl ?_
  refine W.o_aloadN X (pc' := 3) d_jdk_52_method_93_2 rfl rfl rfl ?_
  refine W.o_static X (pc' := 6) d_jdk_52_method_93_3 rfl (z := (⟨"java/lang/StringUTF16", "length", "([B)I"⟩ : MethodName)) (hw _ (List.mem_of_getElem? (i := 129) rfl)) (hw _ (List.mem_of_getElem? (i := 130) rfl)) (hw _ (List.mem_of_getElem? (i := 84) rfl)) (hw _ (List.mem_of_getElem? (i := 131) rfl)) (by decide) (ctULen l Z a0 hw d kd n vs h0 hn B0) (fun _ q => nomatch q) [(.ref d)] rfl (rest := [(.int (Int32.ofNat n)), (.int (0 : Int32))]) rfl pd___B_I rfl rfl (by decide) (by exact Nat.le_of_ble_eq_true rfl) (by decide) (by decide) (fun v121 T q122 => ?_)
  obtain ⟨h125, S123, ⟨rfl, eh⟩, X124⟩ := q122
  have eh := eh.symm
  subst eh
  have X := X124 [] all0
  show W.Go _ _ _ _ _ _ _ _ _ _ _ (mkF m 6 #[.val (.int (0 : Int32)), .val (.int (Int32.ofNat n)), .val (.ref d)] [(.int (Int32.ofNat n)), (.int (Int32.ofNat n)), (.int (0 : Int32))])
  refine W.o_static X (pc' := 9) d_jdk_52_method_93_6 rfl (z := (⟨"java/lang/String", "checkBoundsBeginEnd", "(III)V"⟩ : MethodName)) (hw _ (List.mem_of_getElem? (i := 132) rfl)) (hw _ (List.mem_of_getElem? (i := 133) rfl)) (hw _ (List.mem_of_getElem? (i := 10) rfl)) (hw _ (List.mem_of_getElem? (i := 134) rfl)) (by decide) (ctSB l Z a0 hw n fv h0 FM hfv hn) (fun _ q => nomatch q) [(.int (0 : Int32)), (.int (Int32.ofNat n)), (.int (Int32.ofNat n))] rfl (rest := []) rfl pd__III_V rfl rfl (by decide) (by exact Nat.le_of_ble_eq_true rfl) (by decide) (by decide) (fun v126 T q127 => ?_)
  obtain ⟨h130, S128, ⟨rfl, eh⟩, X129⟩ := q127
  have eh := eh.symm
  subst eh
  have X := X129 [] all0
  show W.Go _ _ _ _ _ _ _ _ _ _ _ (mkF m 9 #[.val (.int (0 : Int32)), .val (.int (Int32.ofNat n)), .val (.ref d)] [])
  exact W.o_return X d_jdk_52_method_93_9 (by decide) (by decide) fun P hP => ⟨rfl, rfl⟩
set_option maxRecDepth 65536 in
set_option maxHeartbeats 40000000 in
theorem ctIOU (l : Launch) (Z : State) (a0 : Array Value) (hw : ∀ d ∈ tables_1, d.before a0 Z = true) (d : Addr) (kd : ClassId) (cs : List Int32) (ch : Int32) (h0 : Heap) (AS : Sta Z Z.heap "java/lang/StringUTF16" "$assertionsDisabled" "Z" (.int (1 : Int32))) (HI : Sta Z Z.heap "java/lang/StringUTF16" "HI_BYTE_SHIFT" "I" (.int (0 : Int32))) (LO : Sta Z Z.heap "java/lang/StringUTF16" "LO_BYTE_SHIFT" "I" (.int (8 : Int32))) (hN : cs.length ≤ 1000) (hcs : ∀ c ∈ cs, ¬ c < 0 ∧ ¬ 65535 < c) (B0 : Arv Z h0 d kd .byte (Int32.ofNat (2 * cs.length)) (utf cs) (.int 0)) :
    W.Ct wd Z a0 el l (⟨"java/lang/StringUTF16", "indexOfCharUnsafe", "([BIII)I"⟩ : MethodName) jdk_52_method_48_code 5 (some .int) ({ frames := 1, cells := 0, slots := 0, locals := 14 } : Room) #[(.ref d), (.int ch), (.int (0 : Int32)), (.int (Int32.ofNat cs.length))] h0 [] (fun v h S => v = some (.int (ix cs ch 0 cs.length)) ∧ h = h0) := by
  refine W.Ct.walk hwe (plainFor_of_name pn_java_lang_StringUTF16) ?_
  intro p e s m below meth c T hE0 X
  refine W.castG (show entryFrame m #[(.ref d), (.int ch), (.int (0 : Int32)), (.int (Int32.ofNat cs.length))] 5 = mkF m 0 #[.val (.ref d), .val (.int ch), .val (.int (0 : Int32)), .val (.int (Int32.ofNat cs.length)), .unset] [] from by first | (simp [entryFrame, mkF, argsToLocals, Value.category]; done) | rfl) ?_
  refine W.o_iloadN X (pc' := 1) d_jdk_52_method_48_0 rfl rfl ?_
  refine W.o_istore X (pc' := 3) d_jdk_52_method_48_1 rfl (L' := #[.val (.ref d), .val (.int ch), .val (.int (0 : Int32)), .val (.int (Int32.ofNat cs.length)), .val (.int (0 : Int32))]) rfl ?_
  have loop : ∀ (n k : Nat), k + n = cs.length → ix cs ch 0 cs.length = ix cs ch k n → ∀ T : State, W.St wd Z a0 el (⟨"java/lang/StringUTF16", "indexOfCharUnsafe", "([BIII)I"⟩ : MethodName) jdk_52_method_48_code 5 (some .int) p l e ({ frames := 1, cells := 0, slots := 0, locals := 14 } : Room) s m #[(.ref d), (.int ch), (.int (0 : Int32)), (.int (Int32.ofNat cs.length))] below meth c T h0 [] 0 0 → W.Go wd Z el ({ frames := 1, cells := 0, slots := 0, locals := 14 } : Room).cells ({ frames := 1, cells := 0, slots := 0, locals := 14 } : Room).slots (fun v h S => v = some (.int (ix cs ch 0 cs.length)) ∧ h = h0) p e s below T (mkF m 3 #[.val (.ref d), .val (.int ch), .val (.int (0 : Int32)), .val (.int (Int32.ofNat cs.length)), .val (.int (Int32.ofNat k))] []) := by
    intro n
    induction n with
    | zero =>
      intro k hk hx T X
      have ek : k = cs.length := by omega
      subst ek
      refine W.o_iload X (pc' := 5) d_jdk_52_method_48_3 rfl rfl ?_
      refine W.o_iloadN X (pc' := 6) d_jdk_52_method_48_5 rfl rfl ?_
      refine W.o_if_icmpge X (pt := 28) (pf := 9) d_jdk_52_method_48_6 ⟨by decide, by decide⟩ rfl (fun _ => ?_) (fun hc => absurd hc (o32_ge (Nat.le_refl _) (by omega)))
      refine W.o_iconst X (-1 : Int32) (pc' := 29) d_jdk_52_method_48_28 rfl rfl ?_
      exact W.o_ireturnI X d_jdk_52_method_48_29 rfl (by decide) (by decide) fun P hP => ⟨by rw [hx]; rfl, rfl⟩
    | succ n ih =>
      intro k hk hx T X
      have hkl : k < cs.length := by omega
      have hgd : cs.getD k 0 = cs[k] := getD_at hkl
      refine W.o_iload X (pc' := 5) d_jdk_52_method_48_3 rfl rfl ?_
      refine W.o_iloadN X (pc' := 6) d_jdk_52_method_48_5 rfl rfl ?_
      refine W.o_if_icmpge X (pt := 28) (pf := 9) d_jdk_52_method_48_6 ⟨by decide, by decide⟩ rfl (fun hc => absurd (o32_lt hkl (by omega)).2 hc) (fun _ => ?_)
      refine W.o_aloadN X (pc' := 10) d_jdk_52_method_48_9 rfl rfl rfl ?_
      refine W.o_iload X (pc' := 12) d_jdk_52_method_48_10 rfl rfl ?_
      refine W.o_static X (pc' := 15) d_jdk_52_method_48_12 rfl (z := (⟨"java/lang/StringUTF16", "getChar", "([BI)C"⟩ : MethodName)) (hw _ (List.mem_of_getElem? (i := 114) rfl)) (hw _ (List.mem_of_getElem? (i := 115) rfl)) (hw _ (List.mem_of_getElem? (i := 84) rfl)) (hw _ (List.mem_of_getElem? (i := 116) rfl)) (by decide) (ctGet l Z a0 hw d kd cs k h0 AS HI LO hN hkl hcs B0) (fun _ q => nomatch q) [(.ref d), (.int (Int32.ofNat k))] rfl (rest := []) rfl pd___BI_C rfl rfl (by decide) (by exact Nat.le_of_ble_eq_true rfl) (by decide) (by decide) (fun v131 T q132 => ?_)
      obtain ⟨h135, S133, ⟨rfl, eh⟩, X134⟩ := q132
      have eh := eh.symm
      subst eh
      have X := X134 [] all0
      show W.Go _ _ _ _ _ _ _ _ _ _ _ (mkF m 15 #[.val (.ref d), .val (.int ch), .val (.int (0 : Int32)), .val (.int (Int32.ofNat cs.length)), .val (.int (Int32.ofNat k))] [(.int cs[k])])
      refine W.o_iloadN X (pc' := 16) d_jdk_52_method_48_15 rfl rfl ?_
      refine W.o_if_icmpne X (pt := 22) (pf := 19) d_jdk_52_method_48_16 ⟨by decide, by decide⟩ rfl (fun hc => ?_) (fun hc => ?_)
      · refine W.o_iinc X (1 : Int32) (pc' := 25) d_jdk_52_method_48_22 rfl rfl rfl (L' := #[.val (.ref d), .val (.int ch), .val (.int (0 : Int32)), .val (.int (Int32.ofNat cs.length)), .val (.int ((Int32.ofNat k) + (1 : Int32)))]) rfl ?_
        refine W.o_goto X (pc' := 3) d_jdk_52_method_48_25 ⟨by decide, by decide⟩ ?_
        rw [o32_succ]
        exact ih (k + 1) (by omega) (by rw [hx]; simp only [ix, hgd]; rw [if_neg hc]) T X
      · refine W.o_iload X (pc' := 21) d_jdk_52_method_48_19 rfl rfl ?_
        exact W.o_ireturnI X d_jdk_52_method_48_21 rfl (by decide) (by decide) fun P hP => ⟨by rw [hx]; simp only [ix, hgd]; rw [if_pos hc], rfl⟩
  exact loop cs.length 0 (by omega) rfl T X
set_option maxRecDepth 65536 in
set_option maxHeartbeats 40000000 in
theorem ctIOX (l : Launch) (Z : State) (a0 : Array Value) (hw : ∀ d ∈ tables_1, d.before a0 Z = true) (d : Addr) (kd : ClassId) (cs : List Int32) (ch : Int32) (fv : Value) (h0 : Heap) (FM : Sta Z Z.heap "jdk/internal/util/Preconditions" "SIOOBE_FORMATTER" "Ljava/util/function/BiFunction;" fv) (hfv : fv.isRef = true) (AS : Sta Z Z.heap "java/lang/StringUTF16" "$assertionsDisabled" "Z" (.int (1 : Int32))) (HI : Sta Z Z.heap "java/lang/StringUTF16" "HI_BYTE_SHIFT" "I" (.int (0 : Int32))) (LO : Sta Z Z.heap "java/lang/StringUTF16" "LO_BYTE_SHIFT" "I" (.int (8 : Int32))) (hN : cs.length ≤ 1000) (hcs : ∀ c ∈ cs, ¬ c < 0 ∧ ¬ 65535 < c) (B0 : Arv Z h0 d kd .byte (Int32.ofNat (2 * cs.length)) (utf cs) (.int 0)) :
    W.Ct wd Z a0 el l (⟨"java/lang/StringUTF16", "indexOfChar", "([BIII)I"⟩ : MethodName) jdk_52_method_47_code 4 (some .int) ({ frames := 3, cells := 0, slots := 0, locals := 43 } : Room) #[(.ref d), (.int ch), (.int (0 : Int32)), (.int (Int32.ofNat cs.length))] h0 [] (fun v h S => v = some (.int (ix cs ch 0 cs.length)) ∧ h = h0) := by
  refine W.Ct.walk hwe (plainFor_of_name pn_java_lang_StringUTF16) ?_
  intro p e s m below meth c T hE0 X
  refine W.castG (show entryFrame m #[(.ref d), (.int ch), (.int (0 : Int32)), (.int (Int32.ofNat cs.length))] 4 = mkF m 0 #[.val (.ref d), .val (.int ch), .val (.int (0 : Int32)), .val (.int (Int32.ofNat cs.length))] [] from by first | (simp [entryFrame, mkF, argsToLocals, Value.category]; done) | rfl) ?_
  refine W.o_iloadN X (pc' := 1) d_jdk_52_method_47_0 rfl rfl ?_
  refine W.o_iloadN X (pc' := 2) d_jdk_52_method_47_1 rfl rfl ?_
  refine W.o_aloadN X (pc' := 3) d_jdk_52_method_47_2 rfl rfl rfl ?_
  refine W.o_static X (pc' := 6) d_jdk_52_method_47_3 rfl (z := (⟨"java/lang/StringUTF16", "checkBoundsBeginEnd", "(II[B)V"⟩ : MethodName)) (hw _ (List.mem_of_getElem? (i := 126) rfl)) (hw _ (List.mem_of_getElem? (i := 127) rfl)) (hw _ (List.mem_of_getElem? (i := 84) rfl)) (hw _ (List.mem_of_getElem? (i := 128) rfl)) (by decide) (ctUB l Z a0 hw cs.length fv d kd _ h0 FM hfv hN B0) (fun _ q => nomatch q) [(.int (0 : Int32)), (.int (Int32.ofNat cs.length)), (.ref d)] rfl (rest := []) rfl pd__II_B_V rfl rfl (by decide) (by exact Nat.le_of_ble_eq_true rfl) (by decide) (by decide) (fun v136 T q137 => ?_)
  obtain ⟨h140, S138, ⟨rfl, eh⟩, X139⟩ := q137
  have eh := eh.symm
  subst eh
  have X := X139 [] all0
  show W.Go _ _ _ _ _ _ _ _ _ _ _ (mkF m 6 #[.val (.ref d), .val (.int ch), .val (.int (0 : Int32)), .val (.int (Int32.ofNat cs.length))] [])
  refine W.o_aloadN X (pc' := 7) d_jdk_52_method_47_6 rfl rfl rfl ?_
  refine W.o_iloadN X (pc' := 8) d_jdk_52_method_47_7 rfl rfl ?_
  refine W.o_iloadN X (pc' := 9) d_jdk_52_method_47_8 rfl rfl ?_
  refine W.o_iloadN X (pc' := 10) d_jdk_52_method_47_9 rfl rfl ?_
  refine W.o_static X (pc' := 13) d_jdk_52_method_47_10 rfl (z := (⟨"java/lang/StringUTF16", "indexOfCharUnsafe", "([BIII)I"⟩ : MethodName)) (hw _ (List.mem_of_getElem? (i := 140) rfl)) (hw _ (List.mem_of_getElem? (i := 141) rfl)) (hw _ (List.mem_of_getElem? (i := 84) rfl)) (hw _ (List.mem_of_getElem? (i := 142) rfl)) (by decide) (ctIOU l Z a0 hw d kd cs ch h0 AS HI LO hN hcs B0) (fun _ q => nomatch q) [(.ref d), (.int ch), (.int (0 : Int32)), (.int (Int32.ofNat cs.length))] rfl (rest := []) rfl pd___BIII_I rfl rfl (by decide) (by exact Nat.le_of_ble_eq_true rfl) (by decide) (by decide) (fun v141 T q142 => ?_)
  obtain ⟨h145, S143, ⟨rfl, eh⟩, X144⟩ := q142
  have eh := eh.symm
  subst eh
  have X := X144 [] all0
  show W.Go _ _ _ _ _ _ _ _ _ _ _ (mkF m 13 #[.val (.ref d), .val (.int ch), .val (.int (0 : Int32)), .val (.int (Int32.ofNat cs.length))] [(.int (ix cs ch 0 cs.length))])
  exact W.o_ireturnI X d_jdk_52_method_47_13 rfl (by decide) (by decide) fun P hP => ⟨rfl, rfl⟩
set_option maxRecDepth 65536 in
set_option maxHeartbeats 40000000 in
theorem ctUIO (l : Launch) (Z : State) (a0 : Array Value) (hw : ∀ d ∈ tables_1, d.before a0 Z = true) (d : Addr) (kd : ClassId) (cs : List Int32) (ch : Int32) (fv : Value) (h0 : Heap) (FM : Sta Z Z.heap "jdk/internal/util/Preconditions" "SIOOBE_FORMATTER" "Ljava/util/function/BiFunction;" fv) (hfv : fv.isRef = true) (hch : ch < 65536) (AS : Sta Z Z.heap "java/lang/StringUTF16" "$assertionsDisabled" "Z" (.int (1 : Int32))) (HI : Sta Z Z.heap "java/lang/StringUTF16" "HI_BYTE_SHIFT" "I" (.int (0 : Int32))) (LO : Sta Z Z.heap "java/lang/StringUTF16" "LO_BYTE_SHIFT" "I" (.int (8 : Int32))) (hN : cs.length ≤ 1000) (hcs : ∀ c ∈ cs, ¬ c < 0 ∧ ¬ 65535 < c) (B0 : Arv Z h0 d kd .byte (Int32.ofNat (2 * cs.length)) (utf cs) (.int 0)) :
    W.Ct wd Z a0 el l (⟨"java/lang/StringUTF16", "indexOf", "([BIII)I"⟩ : MethodName) jdk_52_method_40_code 4 (some .int) ({ frames := 4, cells := 0, slots := 0, locals := 58 } : Room) #[(.ref d), (.int ch), (.int (0 : Int32)), (.int (Int32.ofNat cs.length))] h0 [] (fun v h S => v = some (.int (ix cs ch 0 cs.length)) ∧ h = h0) := by
  refine W.Ct.walk hwe (plainFor_of_name pn_java_lang_StringUTF16) ?_
  intro p e s m below meth c T hE0 X
  refine W.castG (show entryFrame m #[(.ref d), (.int ch), (.int (0 : Int32)), (.int (Int32.ofNat cs.length))] 4 = mkF m 0 #[.val (.ref d), .val (.int ch), .val (.int (0 : Int32)), .val (.int (Int32.ofNat cs.length))] [] from by first | (simp [entryFrame, mkF, argsToLocals, Value.category]; done) | rfl) ?_
  refine W.o_iloadN X (pc' := 1) d_jdk_52_method_40_0 rfl rfl ?_
  refine W.o_iconst X (0 : Int32) (pc' := 2) d_jdk_52_method_40_1 rfl rfl ?_
  refine W.o_static X (pc' := 5) d_jdk_52_method_40_2 rfl (z := (⟨"java/lang/Math", "max", "(II)I"⟩ : MethodName)) (hw _ (List.mem_of_getElem? (i := 120) rfl)) (hw _ (List.mem_of_getElem? (i := 76) rfl)) (hw _ (List.mem_of_getElem? (i := 77) rfl)) (hw _ (List.mem_of_getElem? (i := 78) rfl)) (by decide) (ctMax l Z a0 hw 0 0 h0) (fun _ q => nomatch q) [(.int (0 : Int32)), (.int (0 : Int32))] rfl (rest := []) rfl pd__II_I rfl rfl (by decide) (by exact Nat.le_of_ble_eq_true rfl) (by decide) (by decide) (fun v146 T q147 => ?_)
  obtain ⟨h150, S148, ⟨rfl, eh⟩, X149⟩ := q147
  have eh := eh.symm
  subst eh
  have X := X149 [] all0
  show W.Go _ _ _ _ _ _ _ _ _ _ _ (mkF m 5 #[.val (.ref d), .val (.int ch), .val (.int (0 : Int32)), .val (.int (Int32.ofNat cs.length))] [(.int (0 : Int32))])
  refine W.o_istoreN X (pc' := 6) d_jdk_52_method_40_5 rfl (L' := #[.val (.ref d), .val (.int ch), .val (.int (0 : Int32)), .val (.int (Int32.ofNat cs.length))]) rfl ?_
  refine W.o_iloadN X (pc' := 7) d_jdk_52_method_40_6 rfl rfl ?_
  refine W.o_aloadN X (pc' := 8) d_jdk_52_method_40_7 rfl rfl rfl ?_
  refine W.o_arraylength X (pc' := 9) d_jdk_52_method_40_8 rfl B0 ?_
  refine W.o_iconst X (1 : Int32) (pc' := 10) d_jdk_52_method_40_9 rfl rfl ?_
  refine W.o_ishr X (pc' := 11) d_jdk_52_method_40_10 rfl ?_
  rw [shr1 (by omega)]
  refine W.o_static X (pc' := 14) d_jdk_52_method_40_11 rfl (z := (⟨"java/lang/Math", "min", "(II)I"⟩ : MethodName)) (hw _ (List.mem_of_getElem? (i := 121) rfl)) (hw _ (List.mem_of_getElem? (i := 80) rfl)) (hw _ (List.mem_of_getElem? (i := 77) rfl)) (hw _ (List.mem_of_getElem? (i := 81) rfl)) (by decide) (ctMin l Z a0 hw (Int32.ofNat cs.length) (Int32.ofNat cs.length) h0) (fun _ q => nomatch q) [(.int (Int32.ofNat cs.length)), (.int (Int32.ofNat cs.length))] rfl (rest := []) rfl pd__II_I rfl rfl (by decide) (by exact Nat.le_of_ble_eq_true rfl) (by decide) (by decide) (fun v151 T q152 => ?_)
  obtain ⟨h155, S153, ⟨rfl, eh⟩, X154⟩ := q152
  have eh := eh.symm
  subst eh
  have X := X154 [] all0
  show W.Go _ _ _ _ _ _ _ _ _ _ _ (mkF m 14 #[.val (.ref d), .val (.int ch), .val (.int (0 : Int32)), .val (.int (Int32.ofNat cs.length))] [(.int (if (Int32.ofNat cs.length) < (Int32.ofNat cs.length) then (Int32.ofNat cs.length) else (Int32.ofNat cs.length)))])
  rw [ite_self]
  refine W.o_istoreN X (pc' := 15) d_jdk_52_method_40_14 rfl (L' := #[.val (.ref d), .val (.int ch), .val (.int (0 : Int32)), .val (.int (Int32.ofNat cs.length))]) rfl ?_
  refine W.o_iloadN X (pc' := 16) d_jdk_52_method_40_15 rfl rfl ?_
  refine W.o_iloadN X (pc' := 17) d_jdk_52_method_40_16 rfl rfl ?_
  refine W.o_if_icmplt X (pt := 22) (pf := 20) d_jdk_52_method_40_17 ⟨by decide, by decide⟩ rfl (fun hc => ?_) (fun hc => ?_)
  · refine W.o_iloadN X (pc' := 23) d_jdk_52_method_40_22 rfl rfl ?_
    refine W.o_ldcI X (v := (65536 : Int32)) (pc' := 25) d_jdk_52_method_40_23 rfl (hw _ (List.mem_of_getElem? (i := 122) rfl)) ?_
    refine W.o_if_icmpge X (pt := 36) (pf := 28) d_jdk_52_method_40_25 ⟨by decide, by decide⟩ rfl (fun hc => absurd hch hc) (fun _ => ?_)
    refine W.o_aloadN X (pc' := 29) d_jdk_52_method_40_28 rfl rfl rfl ?_
    refine W.o_iloadN X (pc' := 30) d_jdk_52_method_40_29 rfl rfl ?_
    refine W.o_iloadN X (pc' := 31) d_jdk_52_method_40_30 rfl rfl ?_
    refine W.o_iloadN X (pc' := 32) d_jdk_52_method_40_31 rfl rfl ?_
    refine W.o_static X (pc' := 35) d_jdk_52_method_40_32 rfl (z := (⟨"java/lang/StringUTF16", "indexOfChar", "([BIII)I"⟩ : MethodName)) (hw _ (List.mem_of_getElem? (i := 123) rfl)) (hw _ (List.mem_of_getElem? (i := 124) rfl)) (hw _ (List.mem_of_getElem? (i := 84) rfl)) (hw _ (List.mem_of_getElem? (i := 125) rfl)) (by decide) (ctIOX l Z a0 hw d kd cs ch fv h0 FM hfv AS HI LO hN hcs B0) (fun _ q => nomatch q) [(.ref d), (.int ch), (.int (0 : Int32)), (.int (Int32.ofNat cs.length))] rfl (rest := []) rfl pd___BIII_I rfl rfl (by decide) (by exact Nat.le_of_ble_eq_true rfl) (by decide) (by decide) (fun v156 T q157 => ?_)
    obtain ⟨h160, S158, ⟨rfl, eh⟩, X159⟩ := q157
    have eh := eh.symm
    subst eh
    have X := X159 [] all0
    show W.Go _ _ _ _ _ _ _ _ _ _ _ (mkF m 35 #[.val (.ref d), .val (.int ch), .val (.int (0 : Int32)), .val (.int (Int32.ofNat cs.length))] [(.int (ix cs ch 0 cs.length))])
    exact W.o_ireturnI X d_jdk_52_method_40_35 rfl (by decide) (by decide) fun P hP => ⟨rfl, rfl⟩
  · have e0 : cs.length = 0 := by
      apply Classical.byContradiction; intro q
      exact hc (o32_lt (i := 0) (by omega) (by omega)).2
    refine W.o_iconst X (-1 : Int32) (pc' := 21) d_jdk_52_method_40_20 rfl rfl ?_
    exact W.o_ireturnI X d_jdk_52_method_40_21 rfl (by decide) (by decide) fun P hP => ⟨by rw [e0]; rfl, rfl⟩
set_option maxRecDepth 65536 in
set_option maxHeartbeats 40000000 in
theorem ctCdr (l : Launch) (Z : State) (a0 : Array Value) (hw : ∀ d ∈ tables_1, d.before a0 Z = true) (a : Addr) (cz cd : Int32) (h0 : Heap) (C0 : Sta Z Z.heap "java/lang/String" "COMPACT_STRINGS" "Z" (.int cz)) (hcz : ¬ cz = 0) (hcd : nar .byte cd = cd) (F0 : Fld Z h0 a "java/lang/String" "coder" "B" (.int cd)) :
    W.Ct wd Z a0 el l (⟨"java/lang/String", "coder", "()B"⟩ : MethodName) jdk_42_method_152_code 1 (some .byte) ({ frames := 0, cells := 0, slots := 0, locals := 0 } : Room) #[(.ref a)] h0 [] (fun v h S => v = some (.int cd) ∧ h = h0) := by
  refine W.Ct.walk hwe (plainFor_of_name pn_java_lang_String) ?_
  intro p e s m below meth c T hE0 X
  refine W.castG (show entryFrame m #[(.ref a)] 1 = mkF m 0 #[.val (.ref a)] [] from by first | (simp [entryFrame, mkF, argsToLocals, Value.category]; done) | rfl) ?_
  refine W.o_getstatic X (pc' := 3) d_jdk_42_method_152_0 rfl (hw _ (List.mem_of_getElem? (i := 57) rfl)) Via.refl C0 (fun T X => ?_)
  refine W.o_ifeq X (pt := 13) (pf := 6) d_jdk_42_method_152_3 ⟨by decide, by decide⟩ rfl (fun hc => absurd hc hcz) (fun _ => ?_)
  refine W.o_aloadN X (pc' := 7) d_jdk_42_method_152_6 rfl rfl rfl ?_
  refine W.o_getfield X (pc' := 10) d_jdk_42_method_152_7 rfl (hw _ (List.mem_of_getElem? (i := 29) rfl)) Via.refl F0 (fun T X => ?_)
  refine W.o_goto X (pc' := 14) d_jdk_42_method_152_10 ⟨by decide, by decide⟩ ?_
  exact W.o_ireturn X d_jdk_42_method_152_14 rfl (Or.inr (Or.inl rfl)) (v := cd) hcd (by decide) (by decide) fun P hP => ⟨rfl, rfl⟩
theorem shr0 {n : Nat} (h : n < 1000000) : Int32.ofNat n >>> ((0 : Int32) &&& 31) = Int32.ofNat n := by
  apply Int32.toInt_inj.mp
  rw [c_ishr (Int32.ofNat n) 0 0 rfl]
  omega
set_option maxRecDepth 65536 in
set_option maxHeartbeats 40000000 in
theorem ctLen (l : Launch) (Z : State) (a0 : Array Value) (hw : ∀ d ∈ tables_1, d.before a0 Z = true) (a t : Addr) (cs : List Int32) (cz : Int32) (h0 : Heap) (C0 : Sta Z Z.heap "java/lang/String" "COMPACT_STRINGS" "Z" (.int cz)) (hcz : ¬ cz = 0) (G0 : StrG Z h0 a t cs) :
    W.Ct wd Z a0 el l (⟨"java/lang/String", "length", "()I"⟩ : MethodName) jdk_42_method_54_code 1 (some .int) ({ frames := 1, cells := 0, slots := 0, locals := 13 } : Room) #[(.ref a)] h0 [] (fun v h S => v = some (.int (Int32.ofNat cs.length)) ∧ h = h0) := by
  refine W.Ct.walk hwe (plainFor_of_name pn_java_lang_String) ?_
  intro p e s m below meth c T hE0 X
  refine W.castG (show entryFrame m #[(.ref a)] 1 = mkF m 0 #[.val (.ref a)] [] from by first | (simp [entryFrame, mkF, argsToLocals, Value.category]; done) | rfl) ?_
  obtain ⟨E0, F0, hN, hch, R0⟩ := G0
  rcases R0 with ⟨F1, ⟨kt, B0⟩, hl⟩ | ⟨F1, kt, B0⟩
  · refine W.o_aloadN X (pc' := 1) d_jdk_42_method_54_0 rfl rfl rfl ?_
    refine W.o_getfield X (pc' := 4) d_jdk_42_method_54_1 rfl (hw _ (List.mem_of_getElem? (i := 28) rfl)) Via.refl F0 (fun T X => ?_)
    refine W.o_arraylength X (pc' := 5) d_jdk_42_method_54_4 rfl B0 ?_
    refine W.o_aloadN X (pc' := 6) d_jdk_42_method_54_5 rfl rfl rfl ?_
    refine W.o_virtual X (pc' := 9) d_jdk_42_method_54_6 rfl (u := (⟨"java/lang/String", "coder", "()B"⟩ : MethodName)) (z := (⟨"java/lang/String", "coder", "()B"⟩ : MethodName)) (hw _ (List.mem_of_getElem? (i := 63) rfl)) (hw _ (List.mem_of_getElem? (i := 64) rfl)) (fun s' hZ => notFace_of_selects (args := #[]) (mvT hZ (hw _ (List.mem_of_getElem? (i := 66) rfl)))) (hw _ (List.mem_of_getElem? (i := 66) rfl)) (hw _ (List.mem_of_getElem? (i := 65) rfl)) (hw _ (List.mem_of_getElem? (i := 10) rfl)) (hw _ (List.mem_of_getElem? (i := 67) rfl)) (by decide) E0 (ctCdr l Z a0 hw a cz (0 : Int32) h0 C0 hcz (by decide) F1) (fun _ q => nomatch q) [] rfl (rest := [(.int (Int32.ofNat cs.length))]) rfl pd___B rfl rfl (by decide) (by exact Nat.le_of_ble_eq_true rfl) (by decide) (by decide) (fun v161 T q162 => ?_)
    obtain ⟨h165, S163, ⟨rfl, eh⟩, X164⟩ := q162
    have eh := eh.symm
    subst eh
    have X := X164 [] all0
    show W.Go _ _ _ _ _ _ _ _ _ _ _ (mkF m 9 #[.val (.ref a)] [(.int (0 : Int32)), (.int (Int32.ofNat cs.length))])
    refine W.o_ishr X (pc' := 10) d_jdk_42_method_54_9 rfl ?_
    rw [shr0 (by omega)]
    exact W.o_ireturnI X d_jdk_42_method_54_10 rfl (by decide) (by decide) fun P hP => ⟨rfl, rfl⟩
  · refine W.o_aloadN X (pc' := 1) d_jdk_42_method_54_0 rfl rfl rfl ?_
    refine W.o_getfield X (pc' := 4) d_jdk_42_method_54_1 rfl (hw _ (List.mem_of_getElem? (i := 28) rfl)) Via.refl F0 (fun T X => ?_)
    refine W.o_arraylength X (pc' := 5) d_jdk_42_method_54_4 rfl B0 ?_
    refine W.o_aloadN X (pc' := 6) d_jdk_42_method_54_5 rfl rfl rfl ?_
    refine W.o_virtual X (pc' := 9) d_jdk_42_method_54_6 rfl (u := (⟨"java/lang/String", "coder", "()B"⟩ : MethodName)) (z := (⟨"java/lang/String", "coder", "()B"⟩ : MethodName)) (hw _ (List.mem_of_getElem? (i := 63) rfl)) (hw _ (List.mem_of_getElem? (i := 64) rfl)) (fun s' hZ => notFace_of_selects (args := #[]) (mvT hZ (hw _ (List.mem_of_getElem? (i := 66) rfl)))) (hw _ (List.mem_of_getElem? (i := 66) rfl)) (hw _ (List.mem_of_getElem? (i := 65) rfl)) (hw _ (List.mem_of_getElem? (i := 10) rfl)) (hw _ (List.mem_of_getElem? (i := 67) rfl)) (by decide) E0 (ctCdr l Z a0 hw a cz (1 : Int32) h0 C0 hcz (by decide) F1) (fun _ q => nomatch q) [] rfl (rest := [(.int (Int32.ofNat (2 * cs.length)))]) rfl pd___B rfl rfl (by decide) (by exact Nat.le_of_ble_eq_true rfl) (by decide) (by decide) (fun v166 T q167 => ?_)
    obtain ⟨h170, S168, ⟨rfl, eh⟩, X169⟩ := q167
    have eh := eh.symm
    subst eh
    have X := X169 [] all0
    show W.Go _ _ _ _ _ _ _ _ _ _ _ (mkF m 9 #[.val (.ref a)] [(.int (1 : Int32)), (.int (Int32.ofNat (2 * cs.length)))])
    refine W.o_ishr X (pc' := 10) d_jdk_42_method_54_9 rfl ?_
    rw [shr1 (by omega)]
    exact W.o_ireturnI X d_jdk_42_method_54_10 rfl (by decide) (by decide) fun P hP => ⟨rfl, rfl⟩
set_option maxRecDepth 65536 in
set_option maxHeartbeats 40000000 in
theorem ctSII (l : Launch) (Z : State) (a0 : Array Value) (hw : ∀ d ∈ tables_1, d.before a0 Z = true) (a t : Addr) (cs : List Int32) (ch : Int32) (fv : Value) (cz : Int32) (h0 : Heap) (AS : Sta Z Z.heap "java/lang/StringUTF16" "$assertionsDisabled" "Z" (.int (1 : Int32))) (HI : Sta Z Z.heap "java/lang/StringUTF16" "HI_BYTE_SHIFT" "I" (.int (0 : Int32))) (LO : Sta Z Z.heap "java/lang/StringUTF16" "LO_BYTE_SHIFT" "I" (.int (8 : Int32))) (FM : Sta Z Z.heap "jdk/internal/util/Preconditions" "SIOOBE_FORMATTER" "Ljava/util/function/BiFunction;" fv) (hfv : fv.isRef = true) (C0 : Sta Z Z.heap "java/lang/String" "COMPACT_STRINGS" "Z" (.int cz)) (hcz : ¬ cz = 0) (hch : ¬ ch < 0 ∧ ¬ 255 < ch) (hch2 : ch < 65536) (G0 : StrG Z h0 a t cs) :
    W.Ct wd Z a0 el l (⟨"java/lang/String", "indexOf", "(II)I"⟩ : MethodName) jdk_42_method_80_code 3 (some .int) ({ frames := 5, cells := 0, slots := 0, locals := 73 } : Room) #[(.ref a), (.int ch), (.int (0 : Int32))] h0 [] (fun v h S => v = some (.int (ix cs ch 0 cs.length)) ∧ h = h0) := by
  refine W.Ct.walk hwe (plainFor_of_name pn_java_lang_String) ?_
  intro p e s m below meth c T hE0 X
  refine W.castG (show entryFrame m #[(.ref a), (.int ch), (.int (0 : Int32))] 3 = mkF m 0 #[.val (.ref a), .val (.int ch), .val (.int (0 : Int32))] [] from by first | (simp [entryFrame, mkF, argsToLocals, Value.category]; done) | rfl) ?_
  have G0' := G0
  obtain ⟨E0, F0, hN, hcs, R0⟩ := G0
  rcases R0 with ⟨F1, ⟨kt, B0⟩, hl⟩ | ⟨F1, kt, B0⟩
  · refine W.o_aloadN X (pc' := 1) d_jdk_42_method_80_0 rfl rfl rfl ?_
    refine W.o_virtual X (pc' := 4) d_jdk_42_method_80_1 rfl (u := (⟨"java/lang/String", "isLatin1", "()Z"⟩ : MethodName)) (z := (⟨"java/lang/String", "isLatin1", "()Z"⟩ : MethodName)) (hw _ (List.mem_of_getElem? (i := 52) rfl)) (hw _ (List.mem_of_getElem? (i := 53) rfl)) (fun s' hZ => notFace_of_selects (args := #[]) (mvT hZ (hw _ (List.mem_of_getElem? (i := 55) rfl)))) (hw _ (List.mem_of_getElem? (i := 55) rfl)) (hw _ (List.mem_of_getElem? (i := 54) rfl)) (hw _ (List.mem_of_getElem? (i := 10) rfl)) (hw _ (List.mem_of_getElem? (i := 56) rfl)) (by decide) E0 (ctIsL l Z a0 hw a cz (0 : Int32) h0 C0 hcz F1) (fun _ q => nomatch q) [] rfl (rest := []) rfl pd___Z rfl rfl (by decide) (by exact Nat.le_of_ble_eq_true rfl) (by decide) (by decide) (fun v171 T q172 => ?_)
    obtain ⟨h175, S173, ⟨rfl, eh⟩, X174⟩ := q172
    have eh := eh.symm
    subst eh
    have X := X174 [] all0
    show W.Go _ _ _ _ _ _ _ _ _ _ _ (mkF m 4 #[.val (.ref a), .val (.int ch), .val (.int (0 : Int32))] [(.int (1 : Int32))])
    refine W.o_ifeq X (pt := 23) (pf := 7) d_jdk_42_method_80_4 ⟨by decide, by decide⟩ rfl (fun hc => absurd hc (by decide)) (fun _ => ?_)
    refine W.o_aloadN X (pc' := 8) d_jdk_42_method_80_7 rfl rfl rfl ?_
    refine W.o_getfield X (pc' := 11) d_jdk_42_method_80_8 rfl (hw _ (List.mem_of_getElem? (i := 28) rfl)) Via.refl F0 (fun T X => ?_)
    refine W.o_iloadN X (pc' := 12) d_jdk_42_method_80_11 rfl rfl ?_
    refine W.o_iloadN X (pc' := 13) d_jdk_42_method_80_12 rfl rfl ?_
    refine W.o_aloadN X (pc' := 14) d_jdk_42_method_80_13 rfl rfl rfl ?_
    refine W.o_virtual X (pc' := 17) d_jdk_42_method_80_14 rfl (u := (⟨"java/lang/String", "length", "()I"⟩ : MethodName)) (z := (⟨"java/lang/String", "length", "()I"⟩ : MethodName)) (hw _ (List.mem_of_getElem? (i := 58) rfl)) (hw _ (List.mem_of_getElem? (i := 59) rfl)) (fun s' hZ => notFace_of_selects (args := #[]) (mvT hZ (hw _ (List.mem_of_getElem? (i := 61) rfl)))) (hw _ (List.mem_of_getElem? (i := 61) rfl)) (hw _ (List.mem_of_getElem? (i := 60) rfl)) (hw _ (List.mem_of_getElem? (i := 10) rfl)) (hw _ (List.mem_of_getElem? (i := 62) rfl)) (by decide) E0 (ctLen l Z a0 hw a t cs cz h0 C0 hcz G0') (fun _ q => nomatch q) [] rfl (rest := [(.int (0 : Int32)), (.int ch), (.ref t)]) rfl pd___I rfl rfl (by decide) (by exact Nat.le_of_ble_eq_true rfl) (by decide) (by decide) (fun v176 T q177 => ?_)
    obtain ⟨h180, S178, ⟨rfl, eh⟩, X179⟩ := q177
    have eh := eh.symm
    subst eh
    have X := X179 [] all0
    show W.Go _ _ _ _ _ _ _ _ _ _ _ (mkF m 17 #[.val (.ref a), .val (.int ch), .val (.int (0 : Int32))] [(.int (Int32.ofNat cs.length)), (.int (0 : Int32)), (.int ch), (.ref t)])
    refine W.o_static X (pc' := 20) d_jdk_42_method_80_17 rfl (z := (⟨"java/lang/StringLatin1", "indexOf", "([BIII)I"⟩ : MethodName)) (hw _ (List.mem_of_getElem? (i := 68) rfl)) (hw _ (List.mem_of_getElem? (i := 69) rfl)) (hw _ (List.mem_of_getElem? (i := 70) rfl)) (hw _ (List.mem_of_getElem? (i := 71) rfl)) (by decide) (ctLIO l Z a0 hw t kt cs ch h0 hN hch (fun c hm => ⟨(hcs c hm).1, hl c hm⟩) B0) (fun _ q => nomatch q) [(.ref t), (.int ch), (.int (0 : Int32)), (.int (Int32.ofNat cs.length))] rfl (rest := []) rfl pd___BIII_I rfl rfl (by decide) (by exact Nat.le_of_ble_eq_true rfl) (by decide) (by decide) (fun v181 T q182 => ?_)
    obtain ⟨h185, S183, ⟨rfl, eh⟩, X184⟩ := q182
    have eh := eh.symm
    subst eh
    have X := X184 [] all0
    show W.Go _ _ _ _ _ _ _ _ _ _ _ (mkF m 20 #[.val (.ref a), .val (.int ch), .val (.int (0 : Int32))] [(.int (ix cs ch 0 cs.length))])
    refine W.o_goto X (pc' := 36) d_jdk_42_method_80_20 ⟨by decide, by decide⟩ ?_
    exact W.o_ireturnI X d_jdk_42_method_80_36 rfl (by decide) (by decide) fun P hP => ⟨rfl, rfl⟩
  · refine W.o_aloadN X (pc' := 1) d_jdk_42_method_80_0 rfl rfl rfl ?_
    refine W.o_virtual X (pc' := 4) d_jdk_42_method_80_1 rfl (u := (⟨"java/lang/String", "isLatin1", "()Z"⟩ : MethodName)) (z := (⟨"java/lang/String", "isLatin1", "()Z"⟩ : MethodName)) (hw _ (List.mem_of_getElem? (i := 52) rfl)) (hw _ (List.mem_of_getElem? (i := 53) rfl)) (fun s' hZ => notFace_of_selects (args := #[]) (mvT hZ (hw _ (List.mem_of_getElem? (i := 55) rfl)))) (hw _ (List.mem_of_getElem? (i := 55) rfl)) (hw _ (List.mem_of_getElem? (i := 54) rfl)) (hw _ (List.mem_of_getElem? (i := 10) rfl)) (hw _ (List.mem_of_getElem? (i := 56) rfl)) (by decide) E0 (ctIsL l Z a0 hw a cz (1 : Int32) h0 C0 hcz F1) (fun _ q => nomatch q) [] rfl (rest := []) rfl pd___Z rfl rfl (by decide) (by exact Nat.le_of_ble_eq_true rfl) (by decide) (by decide) (fun v186 T q187 => ?_)
    obtain ⟨h190, S188, ⟨rfl, eh⟩, X189⟩ := q187
    have eh := eh.symm
    subst eh
    have X := X189 [] all0
    show W.Go _ _ _ _ _ _ _ _ _ _ _ (mkF m 4 #[.val (.ref a), .val (.int ch), .val (.int (0 : Int32))] [(.int (0 : Int32))])
    refine W.o_ifeq X (pt := 23) (pf := 7) d_jdk_42_method_80_4 ⟨by decide, by decide⟩ rfl (fun _ => ?_) (fun hc => absurd (by decide) hc)
    refine W.o_aloadN X (pc' := 24) d_jdk_42_method_80_23 rfl rfl rfl ?_
    refine W.o_getfield X (pc' := 27) d_jdk_42_method_80_24 rfl (hw _ (List.mem_of_getElem? (i := 28) rfl)) Via.refl F0 (fun T X => ?_)
    refine W.o_iloadN X (pc' := 28) d_jdk_42_method_80_27 rfl rfl ?_
    refine W.o_iloadN X (pc' := 29) d_jdk_42_method_80_28 rfl rfl ?_
    refine W.o_aloadN X (pc' := 30) d_jdk_42_method_80_29 rfl rfl rfl ?_
    refine W.o_virtual X (pc' := 33) d_jdk_42_method_80_30 rfl (u := (⟨"java/lang/String", "length", "()I"⟩ : MethodName)) (z := (⟨"java/lang/String", "length", "()I"⟩ : MethodName)) (hw _ (List.mem_of_getElem? (i := 58) rfl)) (hw _ (List.mem_of_getElem? (i := 59) rfl)) (fun s' hZ => notFace_of_selects (args := #[]) (mvT hZ (hw _ (List.mem_of_getElem? (i := 61) rfl)))) (hw _ (List.mem_of_getElem? (i := 61) rfl)) (hw _ (List.mem_of_getElem? (i := 60) rfl)) (hw _ (List.mem_of_getElem? (i := 10) rfl)) (hw _ (List.mem_of_getElem? (i := 62) rfl)) (by decide) E0 (ctLen l Z a0 hw a t cs cz h0 C0 hcz G0') (fun _ q => nomatch q) [] rfl (rest := [(.int (0 : Int32)), (.int ch), (.ref t)]) rfl pd___I rfl rfl (by decide) (by exact Nat.le_of_ble_eq_true rfl) (by decide) (by decide) (fun v191 T q192 => ?_)
    obtain ⟨h195, S193, ⟨rfl, eh⟩, X194⟩ := q192
    have eh := eh.symm
    subst eh
    have X := X194 [] all0
    show W.Go _ _ _ _ _ _ _ _ _ _ _ (mkF m 33 #[.val (.ref a), .val (.int ch), .val (.int (0 : Int32))] [(.int (Int32.ofNat cs.length)), (.int (0 : Int32)), (.int ch), (.ref t)])
    refine W.o_static X (pc' := 36) d_jdk_42_method_80_33 rfl (z := (⟨"java/lang/StringUTF16", "indexOf", "([BIII)I"⟩ : MethodName)) (hw _ (List.mem_of_getElem? (i := 117) rfl)) (hw _ (List.mem_of_getElem? (i := 118) rfl)) (hw _ (List.mem_of_getElem? (i := 84) rfl)) (hw _ (List.mem_of_getElem? (i := 119) rfl)) (by decide) (ctUIO l Z a0 hw t kt cs ch fv h0 FM hfv hch2 AS HI LO hN hcs B0) (fun _ q => nomatch q) [(.ref t), (.int ch), (.int (0 : Int32)), (.int (Int32.ofNat cs.length))] rfl (rest := []) rfl pd___BIII_I rfl rfl (by decide) (by exact Nat.le_of_ble_eq_true rfl) (by decide) (by decide) (fun v196 T q197 => ?_)
    obtain ⟨h200, S198, ⟨rfl, eh⟩, X199⟩ := q197
    have eh := eh.symm
    subst eh
    have X := X199 [] all0
    show W.Go _ _ _ _ _ _ _ _ _ _ _ (mkF m 36 #[.val (.ref a), .val (.int ch), .val (.int (0 : Int32))] [(.int (ix cs ch 0 cs.length))])
    exact W.o_ireturnI X d_jdk_42_method_80_36 rfl (by decide) (by decide) fun P hP => ⟨rfl, rfl⟩
set_option maxRecDepth 65536 in
set_option maxHeartbeats 40000000 in
theorem ctSI (l : Launch) (Z : State) (a0 : Array Value) (hw : ∀ d ∈ tables_1, d.before a0 Z = true) (a t : Addr) (cs : List Int32) (ch : Int32) (fv : Value) (cz : Int32) (h0 : Heap) (AS : Sta Z Z.heap "java/lang/StringUTF16" "$assertionsDisabled" "Z" (.int (1 : Int32))) (HI : Sta Z Z.heap "java/lang/StringUTF16" "HI_BYTE_SHIFT" "I" (.int (0 : Int32))) (LO : Sta Z Z.heap "java/lang/StringUTF16" "LO_BYTE_SHIFT" "I" (.int (8 : Int32))) (FM : Sta Z Z.heap "jdk/internal/util/Preconditions" "SIOOBE_FORMATTER" "Ljava/util/function/BiFunction;" fv) (hfv : fv.isRef = true) (C0 : Sta Z Z.heap "java/lang/String" "COMPACT_STRINGS" "Z" (.int cz)) (hcz : ¬ cz = 0) (hch : ¬ ch < 0 ∧ ¬ 255 < ch) (hch2 : ch < 65536) (G0 : StrG Z h0 a t cs) :
    W.Ct wd Z a0 el l (⟨"java/lang/String", "indexOf", "(I)I"⟩ : MethodName) jdk_42_method_79_code 2 (some .int) ({ frames := 6, cells := 0, slots := 0, locals := 87 } : Room) #[(.ref a), (.int ch)] h0 [] (fun v h S => v = some (.int (ix cs ch 0 cs.length)) ∧ h = h0) := by
  refine W.Ct.walk hwe (plainFor_of_name pn_java_lang_String) ?_
  intro p e s m below meth c T hE0 X
  refine W.castG (show entryFrame m #[(.ref a), (.int ch)] 2 = mkF m 0 #[.val (.ref a), .val (.int ch)] [] from by first | (simp [entryFrame, mkF, argsToLocals, Value.category]; done) | rfl) ?_
  refine W.o_aloadN X (pc' := 1) d_jdk_42_method_79_0 rfl rfl rfl ?_
  refine W.o_iloadN X (pc' := 2) d_jdk_42_method_79_1 rfl rfl ?_
  refine W.o_iconst X (0 : Int32) (pc' := 3) d_jdk_42_method_79_2 rfl rfl ?_
  refine W.o_virtual X (pc' := 6) d_jdk_42_method_79_3 rfl (u := (⟨"java/lang/String", "indexOf", "(II)I"⟩ : MethodName)) (z := (⟨"java/lang/String", "indexOf", "(II)I"⟩ : MethodName)) (hw _ (List.mem_of_getElem? (i := 47) rfl)) (hw _ (List.mem_of_getElem? (i := 48) rfl)) (fun s' hZ => notFace_of_selects (args := #[]) (mvT hZ (hw _ (List.mem_of_getElem? (i := 50) rfl)))) (hw _ (List.mem_of_getElem? (i := 50) rfl)) (hw _ (List.mem_of_getElem? (i := 49) rfl)) (hw _ (List.mem_of_getElem? (i := 10) rfl)) (hw _ (List.mem_of_getElem? (i := 51) rfl)) (by decide) G0.1 (ctSII l Z a0 hw a t cs ch fv cz h0 AS HI LO FM hfv C0 hcz hch hch2 G0) (fun _ q => nomatch q) [(.int ch), (.int (0 : Int32))] rfl (rest := []) rfl pd__II_I rfl rfl (by decide) (by exact Nat.le_of_ble_eq_true rfl) (by decide) (by decide) (fun v201 T q202 => ?_)
  obtain ⟨h205, S203, ⟨rfl, eh⟩, X204⟩ := q202
  have eh := eh.symm
  subst eh
  have X := X204 [] all0
  show W.Go _ _ _ _ _ _ _ _ _ _ _ (mkF m 6 #[.val (.ref a), .val (.int ch)] [(.int (ix cs ch 0 cs.length))])
  exact W.o_ireturnI X d_jdk_42_method_79_6 rfl (by decide) (by decide) fun P hP => ⟨rfl, rfl⟩
set_option maxRecDepth 65536 in
set_option maxHeartbeats 40000000 in
theorem ctAI (l : Launch) (Z : State) (a0 : Array Value) (hw : ∀ d ∈ tables_1, d.before a0 Z = true) (a : Addr) (h0 : Heap)  :
    W.Ct wd Z a0 el l (⟨"com/example/corbel/corbel/util/AntPathMatcher", "<init>", "()V"⟩ : MethodName) prog_56_method_1_code 1 none ({ frames := 1, cells := 0, slots := 0, locals := 12 } : Room) #[(.ref a)] h0 [] (fun v h S => v = none ∧ h = h0) := by
  refine W.Ct.walk hwe (plainFor_of_name pn_com_example_corbel_corbel_util_AntPathMatcher) ?_
  intro p e s m below meth c T hE0 X
  refine W.castG (show entryFrame m #[(.ref a)] 1 = mkF m 0 #[.val (.ref a)] [] from by first | (simp [entryFrame, mkF, argsToLocals, Value.category]; done) | rfl) ?_
  refine W.o_aloadN X (pc' := 1) d_prog_56_method_1_0 rfl rfl rfl ?_
  refine W.o_initO X (pc' := 4) d_prog_56_method_1_1 rfl (hw _ (List.mem_of_getElem? (i := 36) rfl)) (hw _ (List.mem_of_getElem? (i := 20) rfl)) (hw _ (List.mem_of_getElem? (i := 21) rfl)) rfl (by decide) (by decide) (fun T X => ?_)
  exact W.o_return X d_prog_56_method_1_4 (by decide) (by decide) fun P hP => ⟨rfl, rfl⟩
set_option maxRecDepth 65536 in
set_option maxHeartbeats 40000000 in
theorem ctIP (l : Launch) (Z : State) (a0 : Array Value) (hw : ∀ d ∈ tables_1, d.before a0 Z = true) (pm a t : Addr) (cs : List Int32) (fv : Value) (cz : Int32) (h0 : Heap) (AS : Sta Z Z.heap "java/lang/StringUTF16" "$assertionsDisabled" "Z" (.int (1 : Int32))) (HI : Sta Z Z.heap "java/lang/StringUTF16" "HI_BYTE_SHIFT" "I" (.int (0 : Int32))) (LO : Sta Z Z.heap "java/lang/StringUTF16" "LO_BYTE_SHIFT" "I" (.int (8 : Int32))) (FM : Sta Z Z.heap "jdk/internal/util/Preconditions" "SIOOBE_FORMATTER" "Ljava/util/function/BiFunction;" fv) (hfv : fv.isRef = true) (C0 : Sta Z Z.heap "java/lang/String" "COMPACT_STRINGS" "Z" (.int cz)) (hcz : ¬ cz = 0) (G0 : StrG Z h0 a t cs) :
    W.Ct wd Z a0 el l (⟨"com/example/corbel/corbel/util/AntPathMatcher", "isPattern", "(Ljava/lang/String;)Z"⟩ : MethodName) prog_56_method_2_code 2 (some .boolean) ({ frames := 7, cells := 0, slots := 0, locals := 100 } : Room) #[(.ref pm), (.ref a)] h0 [] (fun v h S => v = some (.int (b2i (pat cs))) ∧ h = h0) := by
  refine W.Ct.walk hwe (plainFor_of_name pn_com_example_corbel_corbel_util_AntPathMatcher) ?_
  intro p e s m below meth c T hE0 X
  refine W.castG (show entryFrame m #[(.ref pm), (.ref a)] 2 = mkF m 0 #[.val (.ref pm), .val (.ref a)] [] from by first | (simp [entryFrame, mkF, argsToLocals, Value.category]; done) | rfl) ?_
  have hix := ix_pat cs G0.2.2.1
  refine W.o_aloadN X (pc' := 1) d_prog_56_method_2_0 rfl rfl rfl ?_
  refine W.o_bipush X (42 : Int32) (pc' := 3) d_prog_56_method_2_1 rfl rfl ?_
  refine W.o_virtual X (pc' := 6) d_prog_56_method_2_3 rfl (u := (⟨"java/lang/String", "indexOf", "(I)I"⟩ : MethodName)) (z := (⟨"java/lang/String", "indexOf", "(I)I"⟩ : MethodName)) (hw _ (List.mem_of_getElem? (i := 42) rfl)) (hw _ (List.mem_of_getElem? (i := 43) rfl)) (fun s' hZ => notFace_of_selects (args := #[]) (mvT hZ (hw _ (List.mem_of_getElem? (i := 45) rfl)))) (hw _ (List.mem_of_getElem? (i := 45) rfl)) (hw _ (List.mem_of_getElem? (i := 44) rfl)) (hw _ (List.mem_of_getElem? (i := 10) rfl)) (hw _ (List.mem_of_getElem? (i := 46) rfl)) (by decide) G0.1 (ctSI l Z a0 hw a t cs (42 : Int32) fv cz h0 AS HI LO FM hfv C0 hcz (by decide) (by decide) G0) (fun _ q => nomatch q) [(.int (42 : Int32))] rfl (rest := []) rfl pd__I_I rfl rfl (by decide) (by exact Nat.le_of_ble_eq_true rfl) (by decide) (by decide) (fun v206 T q207 => ?_)
  obtain ⟨h210, S208, ⟨rfl, eh⟩, X209⟩ := q207
  have eh := eh.symm
  subst eh
  have X := X209 [] all0
  show W.Go _ _ _ _ _ _ _ _ _ _ _ (mkF m 6 #[.val (.ref pm), .val (.ref a)] [(.int (ix cs (42 : Int32) 0 cs.length))])
  refine W.o_ifge X (pt := 18) (pf := 9) d_prog_56_method_2_6 ⟨by decide, by decide⟩ rfl (fun h1 => ?_) (fun h1 => ?_)
  · refine W.o_iconst X (1 : Int32) (pc' := 19) d_prog_56_method_2_18 rfl rfl ?_
    refine W.o_goto X (pc' := 23) d_prog_56_method_2_19 ⟨by decide, by decide⟩ ?_
    exact W.o_ireturn X d_prog_56_method_2_23 rfl (Or.inl rfl) (v := 1) rfl (by decide) (by decide) fun P hP => ⟨by rw [hix.mp (Or.inl h1)]; rfl, rfl⟩
  · refine W.o_aloadN X (pc' := 10) d_prog_56_method_2_9 rfl rfl rfl ?_
    refine W.o_bipush X (63 : Int32) (pc' := 12) d_prog_56_method_2_10 rfl rfl ?_
    refine W.o_virtual X (pc' := 15) d_prog_56_method_2_12 rfl (u := (⟨"java/lang/String", "indexOf", "(I)I"⟩ : MethodName)) (z := (⟨"java/lang/String", "indexOf", "(I)I"⟩ : MethodName)) (hw _ (List.mem_of_getElem? (i := 42) rfl)) (hw _ (List.mem_of_getElem? (i := 43) rfl)) (fun s' hZ => notFace_of_selects (args := #[]) (mvT hZ (hw _ (List.mem_of_getElem? (i := 45) rfl)))) (hw _ (List.mem_of_getElem? (i := 45) rfl)) (hw _ (List.mem_of_getElem? (i := 44) rfl)) (hw _ (List.mem_of_getElem? (i := 10) rfl)) (hw _ (List.mem_of_getElem? (i := 46) rfl)) (by decide) G0.1 (ctSI l Z a0 hw a t cs (63 : Int32) fv cz h0 AS HI LO FM hfv C0 hcz (by decide) (by decide) G0) (fun _ q => nomatch q) [(.int (63 : Int32))] rfl (rest := []) rfl pd__I_I rfl rfl (by decide) (by exact Nat.le_of_ble_eq_true rfl) (by decide) (by decide) (fun v211 T q212 => ?_)
    obtain ⟨h215, S213, ⟨rfl, eh⟩, X214⟩ := q212
    have eh := eh.symm
    subst eh
    have X := X214 [] all0
    show W.Go _ _ _ _ _ _ _ _ _ _ _ (mkF m 15 #[.val (.ref pm), .val (.ref a)] [(.int (ix cs (63 : Int32) 0 cs.length))])
    refine W.o_iflt X (pt := 22) (pf := 18) d_prog_56_method_2_15 ⟨by decide, by decide⟩ rfl (fun h2 => ?_) (fun h2 => ?_)
    · refine W.o_iconst X (0 : Int32) (pc' := 23) d_prog_56_method_2_22 rfl rfl ?_
      have e : pat cs = false := Bool.eq_false_iff.mpr fun q => (hix.mpr q).elim (fun z => z h1) (fun z => z h2)
      exact W.o_ireturn X d_prog_56_method_2_23 rfl (Or.inl rfl) (v := 0) rfl (by decide) (by decide) fun P hP => ⟨by rw [e]; rfl, rfl⟩
    · refine W.o_iconst X (1 : Int32) (pc' := 19) d_prog_56_method_2_18 rfl rfl ?_
      refine W.o_goto X (pc' := 23) d_prog_56_method_2_19 ⟨by decide, by decide⟩ ?_
      exact W.o_ireturn X d_prog_56_method_2_23 rfl (Or.inl rfl) (v := 1) rfl (by decide) (by decide) fun P hP => ⟨by rw [hix.mp (Or.inr h2)]; rfl, rfl⟩
set_option maxRecDepth 65536 in
set_option maxHeartbeats 40000000 in
theorem ctPick (l : Launch) (Z : State) (a0 : Array Value) (hw : ∀ d ∈ tables_1, d.before a0 Z = true) (x : Int32) (h0 : Heap)  :
    W.Ct wd Z a0 el l (⟨"com/example/corbel/corbel/util/AntPathMatcherIsPatternPinLaw", "pick", "(I)C"⟩ : MethodName) method_3_code 2 (some .char) ({ frames := 0, cells := 0, slots := 0, locals := 0 } : Room) #[(.int x)] h0 [] (fun v h S => ∃ c, v = some (.int c) ∧ rw16 c ∧ h = h0) := by
  refine W.Ct.walk hwe (plainFor_of_name pn_com_example_corbel_corbel_util_AntPathMatcherIsPatternPinLaw) ?_
  intro p e s m below meth c T hE0 X
  refine W.castG (show entryFrame m #[(.int x)] 2 = mkF m 0 #[.val (.int x), .unset] [] from by first | (simp [entryFrame, mkF, argsToLocals, Value.category]; done) | rfl) ?_
  refine W.o_iloadN X (pc' := 1) d_method_3_0 rfl rfl ?_
  refine W.o_iconst X (3 : Int32) (pc' := 2) d_method_3_1 rfl rfl ?_
  refine W.o_iand X (pc' := 3) d_method_3_2 rfl ?_
  refine W.o_istoreN X (pc' := 4) d_method_3_3 rfl (L' := #[.val (.int x), .val (.int (x &&& (3 : Int32)))]) rfl ?_
  refine W.o_iloadN X (pc' := 5) d_method_3_4 rfl rfl ?_
  refine W.o_ifne X (pt := 11) (pf := 8) d_method_3_5 ⟨by decide, by decide⟩ rfl (fun hc0 => ?_) (fun hc0 => ?_)
  · refine W.o_iloadN X (pc' := 12) d_method_3_11 rfl rfl ?_
    refine W.o_iconst X (1 : Int32) (pc' := 13) d_method_3_12 rfl rfl ?_
    refine W.o_if_icmpne X (pt := 19) (pf := 16) d_method_3_13 ⟨by decide, by decide⟩ rfl (fun hc1 => ?_) (fun hc1 => ?_)
    · refine W.o_iloadN X (pc' := 20) d_method_3_19 rfl rfl ?_
      refine W.o_bipush X (16 : Int32) (pc' := 22) d_method_3_20 rfl rfl ?_
      refine W.o_iushr X (pc' := 23) d_method_3_22 rfl ?_
      refine W.o_i2c X (pc' := 24) d_method_3_23 rfl ?_
      exact W.o_ireturn X d_method_3_24 rfl (Or.inr (Or.inr (Or.inl rfl))) (v := (((x.toUInt32 >>> ((16 : Int32) &&& 31).toUInt32).toInt32).toUInt32.toUInt16.toUInt32.toInt32)) (nar_ch (i2c_rng _).1 (i2c_rng _).2) (by decide) (by decide) fun P hP => ⟨_, rfl, i2c_rng _, rfl⟩
    · refine W.o_bipush X (63 : Int32) (pc' := 18) d_method_3_16 rfl rfl ?_
      exact W.o_ireturn X d_method_3_18 rfl (Or.inr (Or.inr (Or.inl rfl))) (v := (63 : Int32)) rfl (by decide) (by decide) fun P hP => ⟨_, rfl, (by unfold rw16; decide), rfl⟩
  · refine W.o_bipush X (42 : Int32) (pc' := 10) d_method_3_8 rfl rfl ?_
    exact W.o_ireturn X d_method_3_10 rfl (Or.inr (Or.inr (Or.inl rfl))) (v := (42 : Int32)) rfl (by decide) (by decide) fun P hP => ⟨_, rfl, (by unfold rw16; decide), rfl⟩
set_option maxRecDepth 65536 in
set_option maxHeartbeats 40000000 in
theorem ctWild (l : Launch) (Z : State) (a0 : Array Value) (hw : ∀ d ∈ tables_1, d.before a0 Z = true) (ch : Int32) (h0 : Heap)  :
    W.Ct wd Z a0 el l (⟨"com/example/corbel/corbel/util/AntPathMatcherIsPatternPinLaw", "wild", "(C)Z"⟩ : MethodName) method_4_code 1 (some .boolean) ({ frames := 0, cells := 0, slots := 0, locals := 0 } : Room) #[(.int ch)] h0 [] (fun v h S => v = some (.int (b2i (isW ch))) ∧ h = h0) := by
  refine W.Ct.walk hwe (plainFor_of_name pn_com_example_corbel_corbel_util_AntPathMatcherIsPatternPinLaw) ?_
  intro p e s m below meth c T hE0 X
  refine W.castG (show entryFrame m #[(.int ch)] 1 = mkF m 0 #[.val (.int ch)] [] from by first | (simp [entryFrame, mkF, argsToLocals, Value.category]; done) | rfl) ?_
  refine W.o_iloadN X (pc' := 1) d_method_4_0 rfl rfl ?_
  refine W.o_bipush X (42 : Int32) (pc' := 3) d_method_4_1 rfl rfl ?_
  refine W.o_if_icmpeq X (pt := 12) (pf := 6) d_method_4_3 ⟨by decide, by decide⟩ rfl (fun h1 => ?_) (fun h1 => ?_)
  · refine W.o_iconst X (1 : Int32) (pc' := 13) d_method_4_12 rfl rfl ?_
    refine W.o_goto X (pc' := 17) d_method_4_13 ⟨by decide, by decide⟩ ?_
    exact W.o_ireturn X d_method_4_17 rfl (Or.inl rfl) (v := 1) rfl (by decide) (by decide) fun P hP => ⟨by simp [isW, b2i, h1], rfl⟩
  · refine W.o_iloadN X (pc' := 7) d_method_4_6 rfl rfl ?_
    refine W.o_bipush X (63 : Int32) (pc' := 9) d_method_4_7 rfl rfl ?_
    refine W.o_if_icmpne X (pt := 16) (pf := 12) d_method_4_9 ⟨by decide, by decide⟩ rfl (fun h2 => ?_) (fun h2 => ?_)
    · refine W.o_iconst X (0 : Int32) (pc' := 17) d_method_4_16 rfl rfl ?_
      exact W.o_ireturn X d_method_4_17 rfl (Or.inl rfl) (v := 0) rfl (by decide) (by decide) fun P hP => ⟨by simp [isW, b2i, h1, h2], rfl⟩
    · refine W.o_iconst X (1 : Int32) (pc' := 13) d_method_4_12 rfl rfl ?_
      refine W.o_goto X (pc' := 17) d_method_4_13 ⟨by decide, by decide⟩ ?_
      exact W.o_ireturn X d_method_4_17 rfl (Or.inl rfl) (v := 1) rfl (by decide) (by decide) fun P hP => ⟨by simp [isW, b2i, h1, h2], rfl⟩
set_option maxRecDepth 65536 in
set_option maxHeartbeats 40000000 in
theorem ctMake (l : Launch) (Z : State) (a0 : Array Value) (hw : ∀ d ∈ tables_1, d.before a0 Z = true) (n : Nat) (c0 c1 c2 c3 cz : Int32) (h0 : Heap) (AS : Sta Z Z.heap "java/lang/StringUTF16" "$assertionsDisabled" "Z" (.int (1 : Int32))) (HI : Sta Z Z.heap "java/lang/StringUTF16" "HI_BYTE_SHIFT" "I" (.int (0 : Int32))) (LO : Sta Z Z.heap "java/lang/StringUTF16" "LO_BYTE_SHIFT" "I" (.int (8 : Int32))) (C0 : Sta Z Z.heap "java/lang/String" "COMPACT_STRINGS" "Z" (.int cz)) (hcz : ¬ cz = 0) (hn : n ≤ 4) (qc0 : rw16 c0) (qc1 : rw16 c1) (qc2 : rw16 c2) (qc3 : rw16 c3) :
    W.Ct wd Z a0 el l (⟨"com/example/corbel/corbel/util/AntPathMatcherIsPatternPinLaw", "make", "(ICCCC)Ljava/lang/String;"⟩ : MethodName) method_5_code 6 (some (.object "java/lang/String")) ({ frames := 6, cells := 6, slots := 40, locals := 104 } : Room) #[(.int (Int32.ofNat n)), (.int c0), (.int c1), (.int c2), (.int c3)] h0 [] (fun v h S => ∃ a t, v = some (.ref a) ∧ Keep h0 h [] ∧ h0.size ≤ a ∧ StrG Z h a t (mkS n c0 c1 c2 c3)) := by
  refine W.Ct.walk hwe (plainFor_of_name pn_com_example_corbel_corbel_util_AntPathMatcherIsPatternPinLaw) ?_
  intro p e s m below meth c T hE0 X
  refine W.castG (show entryFrame m #[(.int (Int32.ofNat n)), (.int c0), (.int c1), (.int c2), (.int c3)] 6 = mkF m 0 #[.val (.int (Int32.ofNat n)), .val (.int c0), .val (.int c1), .val (.int c2), .val (.int c3), .unset] [] from by first | (simp [entryFrame, mkF, argsToLocals, Value.category]; done) | rfl) ?_
  refine W.o_iloadN X (pc' := 1) d_method_5_0 rfl rfl ?_
  refine W.o_ifne X (pt := 15) (pf := 4) d_method_5_1 ⟨by decide, by decide⟩ rfl (fun hn0 => ?_) (fun hn0 => ?_)
  · have e0 : n ≠ 0 := fun q => hn0 (by rw [q]; rfl)
    refine W.o_iloadN X (pc' := 16) d_method_5_15 rfl rfl ?_
    refine W.o_iconst X (1 : Int32) (pc' := 17) d_method_5_16 rfl rfl ?_
    refine W.o_if_icmpne X (pt := 40) (pf := 20) d_method_5_17 ⟨by decide, by decide⟩ rfl (fun hn1 => ?_) (fun hn1 => ?_)
    · have e1 : n ≠ 1 := fun q => hn1 (by rw [q]; rfl)
      refine W.o_iloadN X (pc' := 41) d_method_5_40 rfl rfl ?_
      refine W.o_iconst X (2 : Int32) (pc' := 42) d_method_5_41 rfl rfl ?_
      refine W.o_if_icmpne X (pt := 70) (pf := 45) d_method_5_42 ⟨by decide, by decide⟩ rfl (fun hn2 => ?_) (fun hn2 => ?_)
      · have e2 : n ≠ 2 := fun q => hn2 (by rw [q]; rfl)
        refine W.o_iloadN X (pc' := 71) d_method_5_70 rfl rfl ?_
        refine W.o_iconst X (3 : Int32) (pc' := 72) d_method_5_71 rfl rfl ?_
        refine W.o_if_icmpne X (pt := 105) (pf := 75) d_method_5_72 ⟨by decide, by decide⟩ rfl (fun hn3 => ?_) (fun hn3 => ?_)
        · have e3 : n ≠ 3 := fun q => hn3 (by rw [q]; rfl)
          refine W.o_iconst X (4 : Int32) (pc' := 106) d_method_5_105 rfl rfl ?_
          refine W.o_newarray X (pc' := 108) d_method_5_106 rfl (hw _ (List.mem_of_getElem? (i := 11) rfl)) (by decide) (cap := 4) (by decide) (by decide) (by decide) (by decide) (fun T h354 b355 k356 g357 z358 e359 a360 X => ?_)
          have f362 : Arv Z h354 b355 k356 .char (4 : Int32) [(.int (0 : Int32)), (.int (0 : Int32)), (.int (0 : Int32)), (.int (0 : Int32))] (.int (0 : Int32)) := a360.pad (pad_rep [] (.int (0 : Int32)) 4)
          refine W.o_astore X (pc' := 110) d_method_5_108 rfl (L' := #[.val (.int (Int32.ofNat n)), .val (.int c0), .val (.int c1), .val (.int c2), .val (.int c3), .val (.ref b355)]) rfl rfl ?_
          refine W.o_aload X (pc' := 112) d_method_5_110 rfl rfl rfl ?_
          refine W.o_iconst X (0 : Int32) (pc' := 113) d_method_5_112 rfl rfl ?_
          refine W.o_iloadN X (pc' := 114) d_method_5_113 rfl rfl ?_
          refine W.o_castore X (pc' := 115) d_method_5_114 rfl f362 0 rfl ⟨by decide, by decide⟩ (by exact Nat.le_of_ble_eq_true rfl) z358 (Or.inr (Or.inl (by simp))) (fun T h363 w364 a365 X => ?_)
          rw [nar_ch qc0.1 qc0.2] at a365
          have f366 : Arv Z h363 b355 k356 .char (4 : Int32) [(.int c0), (.int (0 : Int32)), (.int (0 : Int32)), (.int (0 : Int32))] (.int (0 : Int32)) := a365
          refine W.o_aload X (pc' := 117) d_method_5_115 rfl rfl rfl ?_
          refine W.o_iconst X (1 : Int32) (pc' := 118) d_method_5_117 rfl rfl ?_
          refine W.o_iloadN X (pc' := 119) d_method_5_118 rfl rfl ?_
          refine W.o_castore X (pc' := 120) d_method_5_119 rfl f366 1 rfl ⟨by decide, by decide⟩ (by exact Nat.le_of_ble_eq_true rfl) z358 (Or.inr (Or.inl (by simp))) (fun T h367 w368 a369 X => ?_)
          rw [nar_ch qc1.1 qc1.2] at a369
          have f370 : Arv Z h367 b355 k356 .char (4 : Int32) [(.int c0), (.int c1), (.int (0 : Int32)), (.int (0 : Int32))] (.int (0 : Int32)) := a369
          refine W.o_aload X (pc' := 122) d_method_5_120 rfl rfl rfl ?_
          refine W.o_iconst X (2 : Int32) (pc' := 123) d_method_5_122 rfl rfl ?_
          refine W.o_iloadN X (pc' := 124) d_method_5_123 rfl rfl ?_
          refine W.o_castore X (pc' := 125) d_method_5_124 rfl f370 2 rfl ⟨by decide, by decide⟩ (by exact Nat.le_of_ble_eq_true rfl) z358 (Or.inr (Or.inl (by simp))) (fun T h371 w372 a373 X => ?_)
          rw [nar_ch qc2.1 qc2.2] at a373
          have f374 : Arv Z h371 b355 k356 .char (4 : Int32) [(.int c0), (.int c1), (.int c2), (.int (0 : Int32))] (.int (0 : Int32)) := a373
          refine W.o_aload X (pc' := 127) d_method_5_125 rfl rfl rfl ?_
          refine W.o_iconst X (3 : Int32) (pc' := 128) d_method_5_127 rfl rfl ?_
          refine W.o_iload X (pc' := 130) d_method_5_128 rfl rfl ?_
          refine W.o_castore X (pc' := 131) d_method_5_130 rfl f374 3 rfl ⟨by decide, by decide⟩ (by exact Nat.le_of_ble_eq_true rfl) z358 (Or.inr (Or.inl (by simp))) (fun T h375 w376 a377 X => ?_)
          rw [nar_ch qc3.1 qc3.2] at a377
          have f378 : Arv Z h375 b355 k356 .char (4 : Int32) [(.int c0), (.int c1), (.int c2), (.int c3)] (.int (0 : Int32)) := a377
          refine W.o_new X (pc' := 134) d_method_5_131 rfl (hw _ (List.mem_of_getElem? (i := 8) rfl)) (hw _ (List.mem_of_getElem? (i := 9) rfl)) (hw _ (List.mem_of_getElem? (i := 10) rfl)) (by decide) (by decide) (fun T h379 b380 g381 z382 e383 a384 D385 X => ?_)
          have f386 : Fld Z h379 b380 "java/lang/String" "value" "[B" .null := D385 (Or.inr (hw _ (List.mem_of_getElem? (i := 24) rfl))) (ty := (.array .byte)) (by decide)
          have f387 : Fld Z h379 b380 "java/lang/String" "coder" "B" (.int (0 : Int32)) := D385 (Or.inr (hw _ (List.mem_of_getElem? (i := 25) rfl))) (ty := .byte) (by decide)
          refine W.o_dup X (pc' := 135) d_method_5_134 rfl rfl ?_
          refine W.o_aload X (pc' := 137) d_method_5_135 rfl rfl rfl ?_
          have f392 := (f378.ext e383)
          refine W.o_special X (pc' := 140) d_method_5_137 rfl (z := (⟨"java/lang/String", "<init>", "([C)V"⟩ : MethodName)) rfl (hw _ (List.mem_of_getElem? (i := 12) rfl)) (hw _ (List.mem_of_getElem? (i := 13) rfl)) (hw _ (List.mem_of_getElem? (i := 10) rfl)) (hw _ (List.mem_of_getElem? (i := 14) rfl)) (by decide) (ctNew1 l Z a0 hw b380 b355 k356 [c0, c1, c2, c3] cz h379 AS HI LO (by exact Nat.le_of_ble_eq_true rfl) (by exact Nat.succ_ne_zero _) (allI qc0 (allI qc1 (allI qc2 (allI qc3 (fun _ q => nomatch q))))) C0 hcz z382 a384 f386 f387 f392) (allS ⟨a384.lt, (Or.inr (Or.inl (by simp)))⟩ all0) [(.ref b355)] rfl (rest := [(.ref b380)]) rfl pd___C_V rfl rfl (by decide) (by exact Nat.le_of_ble_eq_true rfl) (by decide) (by decide) (fun v393 T q394 => ?_)
          obtain ⟨h397, S395, ⟨rfl, K388, t389, g390, R391⟩, X396⟩ := q394
          have X := X396 [] all0
          show W.Go _ _ _ _ _ _ _ _ _ _ _ (mkF m 140 #[.val (.int (Int32.ofNat n)), .val (.int c0), .val (.int c1), .val (.int c2), .val (.int c3), .val (.ref b355)] [(.ref b380)])
          obtain rfl : n = 4 := by omega
          exact W.o_areturn X d_method_5_140 rfl rfl rfl (by decide) (by decide) fun P hP => ⟨b380, t389, rfl, ((((((((Keep.refl h0 []).ext e359).wr w364 (Or.inr (Nat.le_trans (Nat.le_refl _) (Nat.le_of_eq g357.symm)))).wr w368 (Or.inr (Nat.le_trans (Nat.le_refl _) (Nat.le_of_eq g357.symm)))).wr w372 (Or.inr (Nat.le_trans (Nat.le_refl _) (Nat.le_of_eq g357.symm)))).wr w376 (Or.inr (Nat.le_trans (Nat.le_refl _) (Nat.le_of_eq g357.symm)))).ext e383).trans K388 (allS (Or.inr (Nat.le_trans (Nat.le_trans (Nat.le_trans (Nat.le_trans (Nat.le_trans (Nat.le_trans (Nat.le_refl _) e359.1) (Nat.le_of_eq w364.size.symm)) (Nat.le_of_eq w368.size.symm)) (Nat.le_of_eq w372.size.symm)) (Nat.le_of_eq w376.size.symm)) (Nat.le_of_eq g381.symm))) all0)), (Nat.le_trans (Nat.le_trans (Nat.le_trans (Nat.le_trans (Nat.le_trans (Nat.le_trans (Nat.le_refl _) e359.1) (Nat.le_of_eq w364.size.symm)) (Nat.le_of_eq w368.size.symm)) (Nat.le_of_eq w372.size.symm)) (Nat.le_of_eq w376.size.symm)) (Nat.le_of_eq g381.symm)), R391⟩
        · have e3 : n = 3 := o32_inj (n := 3) (by omega) (by decide) hn3
          refine W.o_iconst X (3 : Int32) (pc' := 76) d_method_5_75 rfl rfl ?_
          refine W.o_newarray X (pc' := 78) d_method_5_76 rfl (hw _ (List.mem_of_getElem? (i := 11) rfl)) (by decide) (cap := 3) (by decide) (by decide) (by decide) (by decide) (fun T h314 b315 k316 g317 z318 e319 a320 X => ?_)
          have f322 : Arv Z h314 b315 k316 .char (3 : Int32) [(.int (0 : Int32)), (.int (0 : Int32)), (.int (0 : Int32))] (.int (0 : Int32)) := a320.pad (pad_rep [] (.int (0 : Int32)) 3)
          refine W.o_astore X (pc' := 80) d_method_5_78 rfl (L' := #[.val (.int (Int32.ofNat n)), .val (.int c0), .val (.int c1), .val (.int c2), .val (.int c3), .val (.ref b315)]) rfl rfl ?_
          refine W.o_aload X (pc' := 82) d_method_5_80 rfl rfl rfl ?_
          refine W.o_iconst X (0 : Int32) (pc' := 83) d_method_5_82 rfl rfl ?_
          refine W.o_iloadN X (pc' := 84) d_method_5_83 rfl rfl ?_
          refine W.o_castore X (pc' := 85) d_method_5_84 rfl f322 0 rfl ⟨by decide, by decide⟩ (by exact Nat.le_of_ble_eq_true rfl) z318 (Or.inr (Or.inl (by simp))) (fun T h323 w324 a325 X => ?_)
          rw [nar_ch qc0.1 qc0.2] at a325
          have f326 : Arv Z h323 b315 k316 .char (3 : Int32) [(.int c0), (.int (0 : Int32)), (.int (0 : Int32))] (.int (0 : Int32)) := a325
          refine W.o_aload X (pc' := 87) d_method_5_85 rfl rfl rfl ?_
          refine W.o_iconst X (1 : Int32) (pc' := 88) d_method_5_87 rfl rfl ?_
          refine W.o_iloadN X (pc' := 89) d_method_5_88 rfl rfl ?_
          refine W.o_castore X (pc' := 90) d_method_5_89 rfl f326 1 rfl ⟨by decide, by decide⟩ (by exact Nat.le_of_ble_eq_true rfl) z318 (Or.inr (Or.inl (by simp))) (fun T h327 w328 a329 X => ?_)
          rw [nar_ch qc1.1 qc1.2] at a329
          have f330 : Arv Z h327 b315 k316 .char (3 : Int32) [(.int c0), (.int c1), (.int (0 : Int32))] (.int (0 : Int32)) := a329
          refine W.o_aload X (pc' := 92) d_method_5_90 rfl rfl rfl ?_
          refine W.o_iconst X (2 : Int32) (pc' := 93) d_method_5_92 rfl rfl ?_
          refine W.o_iloadN X (pc' := 94) d_method_5_93 rfl rfl ?_
          refine W.o_castore X (pc' := 95) d_method_5_94 rfl f330 2 rfl ⟨by decide, by decide⟩ (by exact Nat.le_of_ble_eq_true rfl) z318 (Or.inr (Or.inl (by simp))) (fun T h331 w332 a333 X => ?_)
          rw [nar_ch qc2.1 qc2.2] at a333
          have f334 : Arv Z h331 b315 k316 .char (3 : Int32) [(.int c0), (.int c1), (.int c2)] (.int (0 : Int32)) := a333
          refine W.o_new X (pc' := 98) d_method_5_95 rfl (hw _ (List.mem_of_getElem? (i := 8) rfl)) (hw _ (List.mem_of_getElem? (i := 9) rfl)) (hw _ (List.mem_of_getElem? (i := 10) rfl)) (by decide) (by decide) (fun T h335 b336 g337 z338 e339 a340 D341 X => ?_)
          have f342 : Fld Z h335 b336 "java/lang/String" "value" "[B" .null := D341 (Or.inr (hw _ (List.mem_of_getElem? (i := 24) rfl))) (ty := (.array .byte)) (by decide)
          have f343 : Fld Z h335 b336 "java/lang/String" "coder" "B" (.int (0 : Int32)) := D341 (Or.inr (hw _ (List.mem_of_getElem? (i := 25) rfl))) (ty := .byte) (by decide)
          refine W.o_dup X (pc' := 99) d_method_5_98 rfl rfl ?_
          refine W.o_aload X (pc' := 101) d_method_5_99 rfl rfl rfl ?_
          have f348 := (f334.ext e339)
          refine W.o_special X (pc' := 104) d_method_5_101 rfl (z := (⟨"java/lang/String", "<init>", "([C)V"⟩ : MethodName)) rfl (hw _ (List.mem_of_getElem? (i := 12) rfl)) (hw _ (List.mem_of_getElem? (i := 13) rfl)) (hw _ (List.mem_of_getElem? (i := 10) rfl)) (hw _ (List.mem_of_getElem? (i := 14) rfl)) (by decide) (ctNew1 l Z a0 hw b336 b315 k316 [c0, c1, c2] cz h335 AS HI LO (by exact Nat.le_of_ble_eq_true rfl) (by exact Nat.succ_ne_zero _) (allI qc0 (allI qc1 (allI qc2 (fun _ q => nomatch q)))) C0 hcz z338 a340 f342 f343 f348) (allS ⟨a340.lt, (Or.inr (Or.inl (by simp)))⟩ all0) [(.ref b315)] rfl (rest := [(.ref b336)]) rfl pd___C_V rfl rfl (by decide) (by exact Nat.le_of_ble_eq_true rfl) (by decide) (by decide) (fun v349 T q350 => ?_)
          obtain ⟨h353, S351, ⟨rfl, K344, t345, g346, R347⟩, X352⟩ := q350
          have X := X352 [] all0
          show W.Go _ _ _ _ _ _ _ _ _ _ _ (mkF m 104 #[.val (.int (Int32.ofNat n)), .val (.int c0), .val (.int c1), .val (.int c2), .val (.int c3), .val (.ref b315)] [(.ref b336)])
          subst e3
          exact W.o_areturn X d_method_5_104 rfl rfl rfl (by decide) (by decide) fun P hP => ⟨b336, t345, rfl, (((((((Keep.refl h0 []).ext e319).wr w324 (Or.inr (Nat.le_trans (Nat.le_refl _) (Nat.le_of_eq g317.symm)))).wr w328 (Or.inr (Nat.le_trans (Nat.le_refl _) (Nat.le_of_eq g317.symm)))).wr w332 (Or.inr (Nat.le_trans (Nat.le_refl _) (Nat.le_of_eq g317.symm)))).ext e339).trans K344 (allS (Or.inr (Nat.le_trans (Nat.le_trans (Nat.le_trans (Nat.le_trans (Nat.le_trans (Nat.le_refl _) e319.1) (Nat.le_of_eq w324.size.symm)) (Nat.le_of_eq w328.size.symm)) (Nat.le_of_eq w332.size.symm)) (Nat.le_of_eq g337.symm))) all0)), (Nat.le_trans (Nat.le_trans (Nat.le_trans (Nat.le_trans (Nat.le_trans (Nat.le_refl _) e319.1) (Nat.le_of_eq w324.size.symm)) (Nat.le_of_eq w328.size.symm)) (Nat.le_of_eq w332.size.symm)) (Nat.le_of_eq g337.symm)), R347⟩
      · have e2 : n = 2 := o32_inj (n := 2) (by omega) (by decide) hn2
        refine W.o_iconst X (2 : Int32) (pc' := 46) d_method_5_45 rfl rfl ?_
        refine W.o_newarray X (pc' := 48) d_method_5_46 rfl (hw _ (List.mem_of_getElem? (i := 11) rfl)) (by decide) (cap := 2) (by decide) (by decide) (by decide) (by decide) (fun T h278 b279 k280 g281 z282 e283 a284 X => ?_)
        have f286 : Arv Z h278 b279 k280 .char (2 : Int32) [(.int (0 : Int32)), (.int (0 : Int32))] (.int (0 : Int32)) := a284.pad (pad_rep [] (.int (0 : Int32)) 2)
        refine W.o_astore X (pc' := 50) d_method_5_48 rfl (L' := #[.val (.int (Int32.ofNat n)), .val (.int c0), .val (.int c1), .val (.int c2), .val (.int c3), .val (.ref b279)]) rfl rfl ?_
        refine W.o_aload X (pc' := 52) d_method_5_50 rfl rfl rfl ?_
        refine W.o_iconst X (0 : Int32) (pc' := 53) d_method_5_52 rfl rfl ?_
        refine W.o_iloadN X (pc' := 54) d_method_5_53 rfl rfl ?_
        refine W.o_castore X (pc' := 55) d_method_5_54 rfl f286 0 rfl ⟨by decide, by decide⟩ (by exact Nat.le_of_ble_eq_true rfl) z282 (Or.inr (Or.inl (by simp))) (fun T h287 w288 a289 X => ?_)
        rw [nar_ch qc0.1 qc0.2] at a289
        have f290 : Arv Z h287 b279 k280 .char (2 : Int32) [(.int c0), (.int (0 : Int32))] (.int (0 : Int32)) := a289
        refine W.o_aload X (pc' := 57) d_method_5_55 rfl rfl rfl ?_
        refine W.o_iconst X (1 : Int32) (pc' := 58) d_method_5_57 rfl rfl ?_
        refine W.o_iloadN X (pc' := 59) d_method_5_58 rfl rfl ?_
        refine W.o_castore X (pc' := 60) d_method_5_59 rfl f290 1 rfl ⟨by decide, by decide⟩ (by exact Nat.le_of_ble_eq_true rfl) z282 (Or.inr (Or.inl (by simp))) (fun T h291 w292 a293 X => ?_)
        rw [nar_ch qc1.1 qc1.2] at a293
        have f294 : Arv Z h291 b279 k280 .char (2 : Int32) [(.int c0), (.int c1)] (.int (0 : Int32)) := a293
        refine W.o_new X (pc' := 63) d_method_5_60 rfl (hw _ (List.mem_of_getElem? (i := 8) rfl)) (hw _ (List.mem_of_getElem? (i := 9) rfl)) (hw _ (List.mem_of_getElem? (i := 10) rfl)) (by decide) (by decide) (fun T h295 b296 g297 z298 e299 a300 D301 X => ?_)
        have f302 : Fld Z h295 b296 "java/lang/String" "value" "[B" .null := D301 (Or.inr (hw _ (List.mem_of_getElem? (i := 24) rfl))) (ty := (.array .byte)) (by decide)
        have f303 : Fld Z h295 b296 "java/lang/String" "coder" "B" (.int (0 : Int32)) := D301 (Or.inr (hw _ (List.mem_of_getElem? (i := 25) rfl))) (ty := .byte) (by decide)
        refine W.o_dup X (pc' := 64) d_method_5_63 rfl rfl ?_
        refine W.o_aload X (pc' := 66) d_method_5_64 rfl rfl rfl ?_
        have f308 := (f294.ext e299)
        refine W.o_special X (pc' := 69) d_method_5_66 rfl (z := (⟨"java/lang/String", "<init>", "([C)V"⟩ : MethodName)) rfl (hw _ (List.mem_of_getElem? (i := 12) rfl)) (hw _ (List.mem_of_getElem? (i := 13) rfl)) (hw _ (List.mem_of_getElem? (i := 10) rfl)) (hw _ (List.mem_of_getElem? (i := 14) rfl)) (by decide) (ctNew1 l Z a0 hw b296 b279 k280 [c0, c1] cz h295 AS HI LO (by exact Nat.le_of_ble_eq_true rfl) (by exact Nat.succ_ne_zero _) (allI qc0 (allI qc1 (fun _ q => nomatch q))) C0 hcz z298 a300 f302 f303 f308) (allS ⟨a300.lt, (Or.inr (Or.inl (by simp)))⟩ all0) [(.ref b279)] rfl (rest := [(.ref b296)]) rfl pd___C_V rfl rfl (by decide) (by exact Nat.le_of_ble_eq_true rfl) (by decide) (by decide) (fun v309 T q310 => ?_)
        obtain ⟨h313, S311, ⟨rfl, K304, t305, g306, R307⟩, X312⟩ := q310
        have X := X312 [] all0
        show W.Go _ _ _ _ _ _ _ _ _ _ _ (mkF m 69 #[.val (.int (Int32.ofNat n)), .val (.int c0), .val (.int c1), .val (.int c2), .val (.int c3), .val (.ref b279)] [(.ref b296)])
        subst e2
        exact W.o_areturn X d_method_5_69 rfl rfl rfl (by decide) (by decide) fun P hP => ⟨b296, t305, rfl, ((((((Keep.refl h0 []).ext e283).wr w288 (Or.inr (Nat.le_trans (Nat.le_refl _) (Nat.le_of_eq g281.symm)))).wr w292 (Or.inr (Nat.le_trans (Nat.le_refl _) (Nat.le_of_eq g281.symm)))).ext e299).trans K304 (allS (Or.inr (Nat.le_trans (Nat.le_trans (Nat.le_trans (Nat.le_trans (Nat.le_refl _) e283.1) (Nat.le_of_eq w288.size.symm)) (Nat.le_of_eq w292.size.symm)) (Nat.le_of_eq g297.symm))) all0)), (Nat.le_trans (Nat.le_trans (Nat.le_trans (Nat.le_trans (Nat.le_refl _) e283.1) (Nat.le_of_eq w288.size.symm)) (Nat.le_of_eq w292.size.symm)) (Nat.le_of_eq g297.symm)), R307⟩
    · have e1 : n = 1 := o32_inj (n := 1) (by omega) (by decide) hn1
      refine W.o_iconst X (1 : Int32) (pc' := 21) d_method_5_20 rfl rfl ?_
      refine W.o_newarray X (pc' := 23) d_method_5_21 rfl (hw _ (List.mem_of_getElem? (i := 11) rfl)) (by decide) (cap := 1) (by decide) (by decide) (by decide) (by decide) (fun T h246 b247 k248 g249 z250 e251 a252 X => ?_)
      have f254 : Arv Z h246 b247 k248 .char (1 : Int32) [(.int (0 : Int32))] (.int (0 : Int32)) := a252.pad (pad_rep [] (.int (0 : Int32)) 1)
      refine W.o_astore X (pc' := 25) d_method_5_23 rfl (L' := #[.val (.int (Int32.ofNat n)), .val (.int c0), .val (.int c1), .val (.int c2), .val (.int c3), .val (.ref b247)]) rfl rfl ?_
      refine W.o_aload X (pc' := 27) d_method_5_25 rfl rfl rfl ?_
      refine W.o_iconst X (0 : Int32) (pc' := 28) d_method_5_27 rfl rfl ?_
      refine W.o_iloadN X (pc' := 29) d_method_5_28 rfl rfl ?_
      refine W.o_castore X (pc' := 30) d_method_5_29 rfl f254 0 rfl ⟨by decide, by decide⟩ (by exact Nat.le_of_ble_eq_true rfl) z250 (Or.inr (Or.inl (by simp))) (fun T h255 w256 a257 X => ?_)
      rw [nar_ch qc0.1 qc0.2] at a257
      have f258 : Arv Z h255 b247 k248 .char (1 : Int32) [(.int c0)] (.int (0 : Int32)) := a257
      refine W.o_new X (pc' := 33) d_method_5_30 rfl (hw _ (List.mem_of_getElem? (i := 8) rfl)) (hw _ (List.mem_of_getElem? (i := 9) rfl)) (hw _ (List.mem_of_getElem? (i := 10) rfl)) (by decide) (by decide) (fun T h259 b260 g261 z262 e263 a264 D265 X => ?_)
      have f266 : Fld Z h259 b260 "java/lang/String" "value" "[B" .null := D265 (Or.inr (hw _ (List.mem_of_getElem? (i := 24) rfl))) (ty := (.array .byte)) (by decide)
      have f267 : Fld Z h259 b260 "java/lang/String" "coder" "B" (.int (0 : Int32)) := D265 (Or.inr (hw _ (List.mem_of_getElem? (i := 25) rfl))) (ty := .byte) (by decide)
      refine W.o_dup X (pc' := 34) d_method_5_33 rfl rfl ?_
      refine W.o_aload X (pc' := 36) d_method_5_34 rfl rfl rfl ?_
      have f272 := (f258.ext e263)
      refine W.o_special X (pc' := 39) d_method_5_36 rfl (z := (⟨"java/lang/String", "<init>", "([C)V"⟩ : MethodName)) rfl (hw _ (List.mem_of_getElem? (i := 12) rfl)) (hw _ (List.mem_of_getElem? (i := 13) rfl)) (hw _ (List.mem_of_getElem? (i := 10) rfl)) (hw _ (List.mem_of_getElem? (i := 14) rfl)) (by decide) (ctNew1 l Z a0 hw b260 b247 k248 [c0] cz h259 AS HI LO (by exact Nat.le_of_ble_eq_true rfl) (by exact Nat.succ_ne_zero _) (allI qc0 (fun _ q => nomatch q)) C0 hcz z262 a264 f266 f267 f272) (allS ⟨a264.lt, (Or.inr (Or.inl (by simp)))⟩ all0) [(.ref b247)] rfl (rest := [(.ref b260)]) rfl pd___C_V rfl rfl (by decide) (by exact Nat.le_of_ble_eq_true rfl) (by decide) (by decide) (fun v273 T q274 => ?_)
      obtain ⟨h277, S275, ⟨rfl, K268, t269, g270, R271⟩, X276⟩ := q274
      have X := X276 [] all0
      show W.Go _ _ _ _ _ _ _ _ _ _ _ (mkF m 39 #[.val (.int (Int32.ofNat n)), .val (.int c0), .val (.int c1), .val (.int c2), .val (.int c3), .val (.ref b247)] [(.ref b260)])
      subst e1
      exact W.o_areturn X d_method_5_39 rfl rfl rfl (by decide) (by decide) fun P hP => ⟨b260, t269, rfl, (((((Keep.refl h0 []).ext e251).wr w256 (Or.inr (Nat.le_trans (Nat.le_refl _) (Nat.le_of_eq g249.symm)))).ext e263).trans K268 (allS (Or.inr (Nat.le_trans (Nat.le_trans (Nat.le_trans (Nat.le_refl _) e251.1) (Nat.le_of_eq w256.size.symm)) (Nat.le_of_eq g261.symm))) all0)), (Nat.le_trans (Nat.le_trans (Nat.le_trans (Nat.le_refl _) e251.1) (Nat.le_of_eq w256.size.symm)) (Nat.le_of_eq g261.symm)), R271⟩
  · have e0 : n = 0 := o32_inj (n := 0) (by omega) (by decide) hn0
    refine W.o_new X (pc' := 7) d_method_5_4 rfl (hw _ (List.mem_of_getElem? (i := 8) rfl)) (hw _ (List.mem_of_getElem? (i := 9) rfl)) (hw _ (List.mem_of_getElem? (i := 10) rfl)) (by decide) (by decide) (fun T h216 b217 g218 z219 e220 a221 D222 X => ?_)
    have f223 : Fld Z h216 b217 "java/lang/String" "value" "[B" .null := D222 (Or.inr (hw _ (List.mem_of_getElem? (i := 24) rfl))) (ty := (.array .byte)) (by decide)
    have f224 : Fld Z h216 b217 "java/lang/String" "coder" "B" (.int (0 : Int32)) := D222 (Or.inr (hw _ (List.mem_of_getElem? (i := 25) rfl))) (ty := .byte) (by decide)
    refine W.o_dup X (pc' := 8) d_method_5_7 rfl rfl ?_
    refine W.o_iconst X (0 : Int32) (pc' := 9) d_method_5_8 rfl rfl ?_
    refine W.o_newarray X (pc' := 11) d_method_5_9 rfl (hw _ (List.mem_of_getElem? (i := 11) rfl)) (by decide) (cap := 0) (by decide) (by decide) (by decide) (by decide) (fun T h225 b226 k227 g228 z229 e230 a231 X => ?_)
    have f233 : Arv Z h225 b226 k227 .char (0 : Int32) [] (.int (0 : Int32)) := a231.pad (pad_rep [] (.int (0 : Int32)) 0)
    have f238 := (a221.ext e230)
    have f239 := (f223.ext e230)
    have f240 := (f224.ext e230)
    refine W.o_special X (pc' := 14) d_method_5_11 rfl (z := (⟨"java/lang/String", "<init>", "([C)V"⟩ : MethodName)) rfl (hw _ (List.mem_of_getElem? (i := 12) rfl)) (hw _ (List.mem_of_getElem? (i := 13) rfl)) (hw _ (List.mem_of_getElem? (i := 10) rfl)) (hw _ (List.mem_of_getElem? (i := 14) rfl)) (by decide) (ctNew1E l Z a0 hw b217 b226 k227 h225 z219 f238 f239 f240 f233) (allS ⟨(a221.ext e230).lt, (Or.inr (Or.inl (by simp)))⟩ all0) [(.ref b226)] rfl (rest := [(.ref b217)]) rfl pd___C_V rfl rfl (by decide) (by exact Nat.le_of_ble_eq_true rfl) (by decide) (by decide) (fun v241 T q242 => ?_)
    obtain ⟨h245, S243, ⟨rfl, K234, t235, R237⟩, X244⟩ := q242
    have X := X244 [] all0
    show W.Go _ _ _ _ _ _ _ _ _ _ _ (mkF m 14 #[.val (.int (Int32.ofNat n)), .val (.int c0), .val (.int c1), .val (.int c2), .val (.int c3), .unset] [(.ref b217)])
    subst e0
    exact W.o_areturn X d_method_5_14 rfl rfl rfl (by decide) (by decide) fun P hP => ⟨b217, t235, rfl, ((((Keep.refl h0 []).ext e220).ext e230).trans K234 (allS (Or.inr (Nat.le_trans (Nat.le_refl _) (Nat.le_of_eq g218.symm))) all0)), (Nat.le_trans (Nat.le_refl _) (Nat.le_of_eq g218.symm)), (StrG.ofStr R237)⟩
set_option maxRecDepth 65536 in
set_option maxHeartbeats 40000000 in
theorem ctLaw (l : Launch) (Z : State) (a0 : Array Value) (hw : ∀ d ∈ tables_1, d.before a0 Z = true) (p0 p1 p2 p3 p4 cz : Int32) (fv : Value) (h0 : Heap) (AS : Sta Z Z.heap "java/lang/StringUTF16" "$assertionsDisabled" "Z" (.int (1 : Int32))) (HI : Sta Z Z.heap "java/lang/StringUTF16" "HI_BYTE_SHIFT" "I" (.int (0 : Int32))) (LO : Sta Z Z.heap "java/lang/StringUTF16" "LO_BYTE_SHIFT" "I" (.int (8 : Int32))) (FM : Sta Z Z.heap "jdk/internal/util/Preconditions" "SIOOBE_FORMATTER" "Ljava/util/function/BiFunction;" fv) (hfv : fv.isRef = true) (C0 : Sta Z Z.heap "java/lang/String" "COMPACT_STRINGS" "Z" (.int cz)) (hcz : ¬ cz = 0) :
    W.Ct wd Z a0 el l x code maxLocals ret room_1 #[(.int p0), (.int p1), (.int p2), (.int p3), (.int p4)] h0 [] (fun v h S => v = some (.int 1)) := by
  refine W.Ct.walk hwe (plainFor_of_name pn_com_example_corbel_corbel_util_AntPathMatcherIsPatternPinLaw) ?_
  intro p e s m below meth c T hE0 X
  refine W.castG (show entryFrame m #[(.int p0), (.int p1), (.int p2), (.int p3), (.int p4)] maxLocals = mkF m 0 #[.val (.int p0), .val (.int p1), .val (.int p2), .val (.int p3), .val (.int p4), .unset, .unset, .unset, .unset, .unset, .unset, .unset] [] from by first | (simp [entryFrame, mkF, argsToLocals, Value.category, maxLocals]; done) | rfl) ?_
  refine W.o_iload X (pc' := 2) at_0 rfl rfl ?_
  refine W.o_ldcI X (v := (2147483647 : Int32)) (pc' := 4) at_2 rfl (hw _ (List.mem_of_getElem? (i := 0) rfl)) ?_
  refine W.o_iand X (pc' := 5) at_4 rfl ?_
  refine W.o_iconst X (5 : Int32) (pc' := 6) at_5 rfl rfl ?_
  refine W.o_irem X (pc' := 7) at_6 rfl (by decide) ?_
  generalize hx5 : ((p4 &&& (2147483647 : Int32)) % (5 : Int32)) = x5
  obtain ⟨n, hn, en⟩ := and5 p4
  obtain rfl : x5 = Int32.ofNat n := hx5.symm.trans en
  refine W.o_istore X (pc' := 9) at_7 rfl (L' := #[.val (.int p0), .val (.int p1), .val (.int p2), .val (.int p3), .val (.int p4), .val (.int (Int32.ofNat n)), .unset, .unset, .unset, .unset, .unset, .unset]) rfl ?_
  refine W.o_iloadN X (pc' := 10) at_9 rfl rfl ?_
  refine W.o_static X (pc' := 13) at_10 rfl (z := (⟨"com/example/corbel/corbel/util/AntPathMatcherIsPatternPinLaw", "pick", "(I)C"⟩ : MethodName)) (hw _ (List.mem_of_getElem? (i := 1) rfl)) (hw _ (List.mem_of_getElem? (i := 2) rfl)) (hw _ (List.mem_of_getElem? (i := 3) rfl)) (hw _ (List.mem_of_getElem? (i := 4) rfl)) (by decide) (ctPick l Z a0 hw p0 h0) (fun _ q => nomatch q) [(.int p0)] rfl (rest := []) rfl pd__I_C rfl rfl (by decide) (by exact Nat.le_of_ble_eq_true rfl) (by decide) (by decide) (fun v398 T q399 => ?_)
  obtain ⟨h402, S400, ⟨c0, rfl, qc0, eh⟩, X401⟩ := q399
  have eh := eh.symm
  subst eh
  have X := X401 [] all0
  show W.Go _ _ _ _ _ _ _ _ _ _ _ (mkF m 13 #[.val (.int p0), .val (.int p1), .val (.int p2), .val (.int p3), .val (.int p4), .val (.int (Int32.ofNat n)), .unset, .unset, .unset, .unset, .unset, .unset] [(.int c0)])
  refine W.o_istore X (pc' := 15) at_13 rfl (L' := #[.val (.int p0), .val (.int p1), .val (.int p2), .val (.int p3), .val (.int p4), .val (.int (Int32.ofNat n)), .val (.int c0), .unset, .unset, .unset, .unset, .unset]) rfl ?_
  refine W.o_iloadN X (pc' := 16) at_15 rfl rfl ?_
  refine W.o_static X (pc' := 19) at_16 rfl (z := (⟨"com/example/corbel/corbel/util/AntPathMatcherIsPatternPinLaw", "pick", "(I)C"⟩ : MethodName)) (hw _ (List.mem_of_getElem? (i := 1) rfl)) (hw _ (List.mem_of_getElem? (i := 2) rfl)) (hw _ (List.mem_of_getElem? (i := 3) rfl)) (hw _ (List.mem_of_getElem? (i := 4) rfl)) (by decide) (ctPick l Z a0 hw p1 h0) (fun _ q => nomatch q) [(.int p1)] rfl (rest := []) rfl pd__I_C rfl rfl (by decide) (by exact Nat.le_of_ble_eq_true rfl) (by decide) (by decide) (fun v403 T q404 => ?_)
  obtain ⟨h407, S405, ⟨c1, rfl, qc1, eh⟩, X406⟩ := q404
  have eh := eh.symm
  subst eh
  have X := X406 [] all0
  show W.Go _ _ _ _ _ _ _ _ _ _ _ (mkF m 19 #[.val (.int p0), .val (.int p1), .val (.int p2), .val (.int p3), .val (.int p4), .val (.int (Int32.ofNat n)), .val (.int c0), .unset, .unset, .unset, .unset, .unset] [(.int c1)])
  refine W.o_istore X (pc' := 21) at_19 rfl (L' := #[.val (.int p0), .val (.int p1), .val (.int p2), .val (.int p3), .val (.int p4), .val (.int (Int32.ofNat n)), .val (.int c0), .val (.int c1), .unset, .unset, .unset, .unset]) rfl ?_
  refine W.o_iloadN X (pc' := 22) at_21 rfl rfl ?_
  refine W.o_static X (pc' := 25) at_22 rfl (z := (⟨"com/example/corbel/corbel/util/AntPathMatcherIsPatternPinLaw", "pick", "(I)C"⟩ : MethodName)) (hw _ (List.mem_of_getElem? (i := 1) rfl)) (hw _ (List.mem_of_getElem? (i := 2) rfl)) (hw _ (List.mem_of_getElem? (i := 3) rfl)) (hw _ (List.mem_of_getElem? (i := 4) rfl)) (by decide) (ctPick l Z a0 hw p2 h0) (fun _ q => nomatch q) [(.int p2)] rfl (rest := []) rfl pd__I_C rfl rfl (by decide) (by exact Nat.le_of_ble_eq_true rfl) (by decide) (by decide) (fun v408 T q409 => ?_)
  obtain ⟨h412, S410, ⟨c2, rfl, qc2, eh⟩, X411⟩ := q409
  have eh := eh.symm
  subst eh
  have X := X411 [] all0
  show W.Go _ _ _ _ _ _ _ _ _ _ _ (mkF m 25 #[.val (.int p0), .val (.int p1), .val (.int p2), .val (.int p3), .val (.int p4), .val (.int (Int32.ofNat n)), .val (.int c0), .val (.int c1), .unset, .unset, .unset, .unset] [(.int c2)])
  refine W.o_istore X (pc' := 27) at_25 rfl (L' := #[.val (.int p0), .val (.int p1), .val (.int p2), .val (.int p3), .val (.int p4), .val (.int (Int32.ofNat n)), .val (.int c0), .val (.int c1), .val (.int c2), .unset, .unset, .unset]) rfl ?_
  refine W.o_iloadN X (pc' := 28) at_27 rfl rfl ?_
  refine W.o_static X (pc' := 31) at_28 rfl (z := (⟨"com/example/corbel/corbel/util/AntPathMatcherIsPatternPinLaw", "pick", "(I)C"⟩ : MethodName)) (hw _ (List.mem_of_getElem? (i := 1) rfl)) (hw _ (List.mem_of_getElem? (i := 2) rfl)) (hw _ (List.mem_of_getElem? (i := 3) rfl)) (hw _ (List.mem_of_getElem? (i := 4) rfl)) (by decide) (ctPick l Z a0 hw p3 h0) (fun _ q => nomatch q) [(.int p3)] rfl (rest := []) rfl pd__I_C rfl rfl (by decide) (by exact Nat.le_of_ble_eq_true rfl) (by decide) (by decide) (fun v413 T q414 => ?_)
  obtain ⟨h417, S415, ⟨c3, rfl, qc3, eh⟩, X416⟩ := q414
  have eh := eh.symm
  subst eh
  have X := X416 [] all0
  show W.Go _ _ _ _ _ _ _ _ _ _ _ (mkF m 31 #[.val (.int p0), .val (.int p1), .val (.int p2), .val (.int p3), .val (.int p4), .val (.int (Int32.ofNat n)), .val (.int c0), .val (.int c1), .val (.int c2), .unset, .unset, .unset] [(.int c3)])
  refine W.o_istore X (pc' := 33) at_31 rfl (L' := #[.val (.int p0), .val (.int p1), .val (.int p2), .val (.int p3), .val (.int p4), .val (.int (Int32.ofNat n)), .val (.int c0), .val (.int c1), .val (.int c2), .val (.int c3), .unset, .unset]) rfl ?_
  refine W.o_iload X (pc' := 35) at_33 rfl rfl ?_
  refine W.o_iload X (pc' := 37) at_35 rfl rfl ?_
  refine W.o_iload X (pc' := 39) at_37 rfl rfl ?_
  refine W.o_iload X (pc' := 41) at_39 rfl rfl ?_
  refine W.o_iload X (pc' := 43) at_41 rfl rfl ?_
  refine W.o_static X (pc' := 46) at_43 rfl (z := (⟨"com/example/corbel/corbel/util/AntPathMatcherIsPatternPinLaw", "make", "(ICCCC)Ljava/lang/String;"⟩ : MethodName)) (hw _ (List.mem_of_getElem? (i := 5) rfl)) (hw _ (List.mem_of_getElem? (i := 6) rfl)) (hw _ (List.mem_of_getElem? (i := 3) rfl)) (hw _ (List.mem_of_getElem? (i := 7) rfl)) (by decide) (ctMake l Z a0 hw n c0 c1 c2 c3 cz h0 AS HI LO C0 hcz hn qc0 qc1 qc2 qc3) (fun _ q => nomatch q) [(.int (Int32.ofNat n)), (.int c0), (.int c1), (.int c2), (.int c3)] rfl (rest := []) rfl pd__ICCCC_Ljava_lang_String_ rfl rfl (by decide) (by exact Nat.le_of_ble_eq_true rfl) (by decide) (by decide) (fun v418 T q419 => ?_)
  obtain ⟨h422, S420, ⟨sa, st, rfl, KM, gm, RM⟩, X421⟩ := q419
  have X := X421 [] all0
  show W.Go _ _ _ _ _ _ _ _ _ _ _ (mkF m 46 #[.val (.int p0), .val (.int p1), .val (.int p2), .val (.int p3), .val (.int p4), .val (.int (Int32.ofNat n)), .val (.int c0), .val (.int c1), .val (.int c2), .val (.int c3), .unset, .unset] [(.ref sa)])
  refine W.o_astore X (pc' := 48) at_46 rfl (L' := #[.val (.int p0), .val (.int p1), .val (.int p2), .val (.int p3), .val (.int p4), .val (.int (Int32.ofNat n)), .val (.int c0), .val (.int c1), .val (.int c2), .val (.int c3), .val (.ref sa), .unset]) rfl rfl ?_
  have J : ∀ (v5 : Int32), v5 = b2i (expd n c0 c1 c2 c3) → ∀ T : State, W.St wd Z a0 el x code maxLocals ret p l e room_1 s m #[(.int p0), (.int p1), (.int p2), (.int p3), (.int p4)] below meth c T h422 [] 6 40 → W.Go wd Z el room_1.cells room_1.slots (fun v h S => v = some (.int 1)) p e s below T (mkF m 108 #[.val (.int p0), .val (.int p1), .val (.int p2), .val (.int p3), .val (.int p4), .val (.int (Int32.ofNat n)), .val (.int c0), .val (.int c1), .val (.int c2), .val (.int c3), .val (.ref sa), .unset] [(.int v5)]) := by
    intro v5 hv5 T X
    refine W.o_istore X (pc' := 110) at_108 rfl (L' := #[.val (.int p0), .val (.int p1), .val (.int p2), .val (.int p3), .val (.int p4), .val (.int (Int32.ofNat n)), .val (.int c0), .val (.int c1), .val (.int c2), .val (.int c3), .val (.ref sa), .val (.int v5)]) rfl ?_
    refine W.o_new X (pc' := 113) at_110 rfl (hw _ (List.mem_of_getElem? (i := 30) rfl)) (hw _ (List.mem_of_getElem? (i := 31) rfl)) (hw _ (List.mem_of_getElem? (i := 32) rfl)) (by decide) (by decide) (fun T h423 b424 g425 z426 e427 a428 D429 X => ?_)
    refine W.o_dup X (pc' := 114) at_113 rfl rfl ?_
    refine W.o_special X (pc' := 117) at_114 rfl (z := (⟨"com/example/corbel/corbel/util/AntPathMatcher", "<init>", "()V"⟩ : MethodName)) rfl (hw _ (List.mem_of_getElem? (i := 33) rfl)) (hw _ (List.mem_of_getElem? (i := 34) rfl)) (hw _ (List.mem_of_getElem? (i := 32) rfl)) (hw _ (List.mem_of_getElem? (i := 35) rfl)) (by decide) (ctAI l Z a0 hw b424 h423) (fun _ q => nomatch q) [] rfl (rest := [(.ref b424)]) rfl pd___V rfl rfl (by decide) (by exact Nat.le_of_ble_eq_true rfl) (by decide) (by decide) (fun v430 T q431 => ?_)
    obtain ⟨h434, S432, ⟨rfl, eh⟩, X433⟩ := q431
    have eh := eh.symm
    subst eh
    have X := X433 [] all0
    show W.Go _ _ _ _ _ _ _ _ _ _ _ (mkF m 117 #[.val (.int p0), .val (.int p1), .val (.int p2), .val (.int p3), .val (.int p4), .val (.int (Int32.ofNat n)), .val (.int c0), .val (.int c1), .val (.int c2), .val (.int c3), .val (.ref sa), .val (.int v5)] [(.ref b424)])
    refine W.o_aload X (pc' := 119) at_117 rfl rfl rfl ?_
    have f435 := (RM.ext e427)
    refine W.o_virtual X (pc' := 122) at_119 rfl (u := (⟨"com/example/corbel/corbel/util/AntPathMatcher", "isPattern", "(Ljava/lang/String;)Z"⟩ : MethodName)) (z := (⟨"com/example/corbel/corbel/util/AntPathMatcher", "isPattern", "(Ljava/lang/String;)Z"⟩ : MethodName)) (hw _ (List.mem_of_getElem? (i := 37) rfl)) (hw _ (List.mem_of_getElem? (i := 38) rfl)) (fun s' hZ => notFace_of_selects (args := #[]) (mvT hZ (hw _ (List.mem_of_getElem? (i := 40) rfl)))) (hw _ (List.mem_of_getElem? (i := 40) rfl)) (hw _ (List.mem_of_getElem? (i := 39) rfl)) (hw _ (List.mem_of_getElem? (i := 32) rfl)) (hw _ (List.mem_of_getElem? (i := 41) rfl)) (by decide) a428 (ctIP l Z a0 hw b424 sa st (mkS n c0 c1 c2 c3) fv cz h423 AS HI LO FM hfv C0 hcz f435) (fun _ q => nomatch q) [(.ref sa)] rfl (rest := []) rfl pd__Ljava_lang_String__Z rfl rfl (by decide) (by exact Nat.le_of_ble_eq_true rfl) (by decide) (by decide) (fun v436 T q437 => ?_)
    obtain ⟨h440, S438, ⟨rfl, eh⟩, X439⟩ := q437
    have eh := eh.symm
    subst eh
    have X := X439 [] all0
    show W.Go _ _ _ _ _ _ _ _ _ _ _ (mkF m 122 #[.val (.int p0), .val (.int p1), .val (.int p2), .val (.int p3), .val (.int p4), .val (.int (Int32.ofNat n)), .val (.int c0), .val (.int c1), .val (.int c2), .val (.int c3), .val (.ref sa), .val (.int v5)] [(.int (b2i (pat (mkS n c0 c1 c2 c3))))])
    refine W.o_iload X (pc' := 124) at_122 rfl rfl ?_
    refine W.o_if_icmpne X (pt := 131) (pf := 127) at_124 ⟨by decide, by decide⟩ rfl (fun hc => absurd ((congrArg b2i (pat_expd hn c0 c1 c2 c3)).trans hv5.symm) hc) (fun _ => ?_)
    refine W.o_iconst X (1 : Int32) (pc' := 128) at_127 rfl rfl ?_
    refine W.o_goto X (pc' := 132) at_128 ⟨by decide, by decide⟩ ?_
    exact W.o_ireturn X at_132 rfl (Or.inl rfl) (v := 1) rfl (by decide) (by decide) fun P hP => rfl
  refine W.o_iload X (pc' := 50) at_48 rfl rfl ?_
  refine W.o_ifle X (pt := 61) (pf := 53) at_50 ⟨by decide, by decide⟩ rfl (fun hn0 => ?_) (fun hn0 => ?_)
  · have hl0 : ¬ 0 < n := fun q => hn0 (o32_lt (i := 0) q (by omega)).2
    refine W.o_iload X (pc' := 63) at_61 rfl rfl ?_
    refine W.o_iconst X (1 : Int32) (pc' := 64) at_63 rfl rfl ?_
    refine W.o_if_icmple X (pt := 75) (pf := 67) at_64 ⟨by decide, by decide⟩ rfl (fun hn1 => ?_) (fun hn1 => ?_)
    · have hl1 : ¬ 1 < n := fun q => hn1 (o32_lt (i := 1) q (by omega)).2
      refine W.o_iload X (pc' := 77) at_75 rfl rfl ?_
      refine W.o_iconst X (2 : Int32) (pc' := 78) at_77 rfl rfl ?_
      refine W.o_if_icmple X (pt := 89) (pf := 81) at_78 ⟨by decide, by decide⟩ rfl (fun hn2 => ?_) (fun hn2 => ?_)
      · have hl2 : ¬ 2 < n := fun q => hn2 (o32_lt (i := 2) q (by omega)).2
        refine W.o_iload X (pc' := 91) at_89 rfl rfl ?_
        refine W.o_iconst X (3 : Int32) (pc' := 92) at_91 rfl rfl ?_
        refine W.o_if_icmple X (pt := 107) (pf := 95) at_92 ⟨by decide, by decide⟩ rfl (fun hn3 => ?_) (fun hn3 => ?_)
        · have hl3 : ¬ 3 < n := fun q => hn3 (o32_lt (i := 3) q (by omega)).2
          refine W.o_iconst X (0 : Int32) (pc' := 108) at_107 rfl rfl ?_
          exact J 0 (by simp [expd, b2i, hl0, hl1, hl2, hl3]) T X
        · have hl3 : 3 < n := Nat.lt_of_not_le fun q => o32_ge (n := n) (i := 3) q (by decide) hn3
          refine W.o_iload X (pc' := 97) at_95 rfl rfl ?_
          refine W.o_static X (pc' := 100) at_97 rfl (z := (⟨"com/example/corbel/corbel/util/AntPathMatcherIsPatternPinLaw", "wild", "(C)Z"⟩ : MethodName)) (hw _ (List.mem_of_getElem? (i := 92) rfl)) (hw _ (List.mem_of_getElem? (i := 93) rfl)) (hw _ (List.mem_of_getElem? (i := 3) rfl)) (hw _ (List.mem_of_getElem? (i := 94) rfl)) (by decide) (ctWild l Z a0 hw c3 h422) (fun _ q => nomatch q) [(.int c3)] rfl (rest := []) rfl pd__C_Z rfl rfl (by decide) (by exact Nat.le_of_ble_eq_true rfl) (by decide) (by decide) (fun v441 T q442 => ?_)
          obtain ⟨h445, S443, ⟨rfl, eh⟩, X444⟩ := q442
          have eh := eh.symm
          subst eh
          have X := X444 [] all0
          show W.Go _ _ _ _ _ _ _ _ _ _ _ (mkF m 100 #[.val (.int p0), .val (.int p1), .val (.int p2), .val (.int p3), .val (.int p4), .val (.int (Int32.ofNat n)), .val (.int c0), .val (.int c1), .val (.int c2), .val (.int c3), .val (.ref sa), .unset] [(.int (b2i (isW c3)))])
          refine W.o_ifeq X (pt := 107) (pf := 103) at_100 ⟨by decide, by decide⟩ rfl (fun hw3 => ?_) (fun hw3 => ?_)
          · have hv3 : isW c3 = false := b2i_0 hw3
            refine W.o_iconst X (0 : Int32) (pc' := 108) at_107 rfl rfl ?_
            exact J 0 (by simp [expd, b2i, hl0, hl1, hl2, hl3, hv3]) T X
          · have hv3 : isW c3 = true := b2i_n hw3
            refine W.o_iconst X (1 : Int32) (pc' := 104) at_103 rfl rfl ?_
            refine W.o_goto X (pc' := 108) at_104 ⟨by decide, by decide⟩ ?_
            exact J 1 (by simp [expd, b2i, hl0, hl1, hl2, hl3, hv3]) T X
      · have hl2 : 2 < n := Nat.lt_of_not_le fun q => o32_ge (n := n) (i := 2) q (by decide) hn2
        refine W.o_iload X (pc' := 83) at_81 rfl rfl ?_
        refine W.o_static X (pc' := 86) at_83 rfl (z := (⟨"com/example/corbel/corbel/util/AntPathMatcherIsPatternPinLaw", "wild", "(C)Z"⟩ : MethodName)) (hw _ (List.mem_of_getElem? (i := 92) rfl)) (hw _ (List.mem_of_getElem? (i := 93) rfl)) (hw _ (List.mem_of_getElem? (i := 3) rfl)) (hw _ (List.mem_of_getElem? (i := 94) rfl)) (by decide) (ctWild l Z a0 hw c2 h422) (fun _ q => nomatch q) [(.int c2)] rfl (rest := []) rfl pd__C_Z rfl rfl (by decide) (by exact Nat.le_of_ble_eq_true rfl) (by decide) (by decide) (fun v446 T q447 => ?_)
        obtain ⟨h450, S448, ⟨rfl, eh⟩, X449⟩ := q447
        have eh := eh.symm
        subst eh
        have X := X449 [] all0
        show W.Go _ _ _ _ _ _ _ _ _ _ _ (mkF m 86 #[.val (.int p0), .val (.int p1), .val (.int p2), .val (.int p3), .val (.int p4), .val (.int (Int32.ofNat n)), .val (.int c0), .val (.int c1), .val (.int c2), .val (.int c3), .val (.ref sa), .unset] [(.int (b2i (isW c2)))])
        refine W.o_ifne X (pt := 103) (pf := 89) at_86 ⟨by decide, by decide⟩ rfl (fun hw2 => ?_) (fun hw2 => ?_)
        · have hv2 : isW c2 = true := b2i_n hw2
          refine W.o_iconst X (1 : Int32) (pc' := 104) at_103 rfl rfl ?_
          refine W.o_goto X (pc' := 108) at_104 ⟨by decide, by decide⟩ ?_
          exact J 1 (by simp [expd, b2i, hl0, hl1, hl2, hv2]) T X
        · have hv2 : isW c2 = false := b2i_0 hw2
          refine W.o_iload X (pc' := 91) at_89 rfl rfl ?_
          refine W.o_iconst X (3 : Int32) (pc' := 92) at_91 rfl rfl ?_
          refine W.o_if_icmple X (pt := 107) (pf := 95) at_92 ⟨by decide, by decide⟩ rfl (fun hn3 => ?_) (fun hn3 => ?_)
          · have hl3 : ¬ 3 < n := fun q => hn3 (o32_lt (i := 3) q (by omega)).2
            refine W.o_iconst X (0 : Int32) (pc' := 108) at_107 rfl rfl ?_
            exact J 0 (by simp [expd, b2i, hl0, hl1, hl2, hv2, hl3]) T X
          · have hl3 : 3 < n := Nat.lt_of_not_le fun q => o32_ge (n := n) (i := 3) q (by decide) hn3
            refine W.o_iload X (pc' := 97) at_95 rfl rfl ?_
            refine W.o_static X (pc' := 100) at_97 rfl (z := (⟨"com/example/corbel/corbel/util/AntPathMatcherIsPatternPinLaw", "wild", "(C)Z"⟩ : MethodName)) (hw _ (List.mem_of_getElem? (i := 92) rfl)) (hw _ (List.mem_of_getElem? (i := 93) rfl)) (hw _ (List.mem_of_getElem? (i := 3) rfl)) (hw _ (List.mem_of_getElem? (i := 94) rfl)) (by decide) (ctWild l Z a0 hw c3 h422) (fun _ q => nomatch q) [(.int c3)] rfl (rest := []) rfl pd__C_Z rfl rfl (by decide) (by exact Nat.le_of_ble_eq_true rfl) (by decide) (by decide) (fun v451 T q452 => ?_)
            obtain ⟨h455, S453, ⟨rfl, eh⟩, X454⟩ := q452
            have eh := eh.symm
            subst eh
            have X := X454 [] all0
            show W.Go _ _ _ _ _ _ _ _ _ _ _ (mkF m 100 #[.val (.int p0), .val (.int p1), .val (.int p2), .val (.int p3), .val (.int p4), .val (.int (Int32.ofNat n)), .val (.int c0), .val (.int c1), .val (.int c2), .val (.int c3), .val (.ref sa), .unset] [(.int (b2i (isW c3)))])
            refine W.o_ifeq X (pt := 107) (pf := 103) at_100 ⟨by decide, by decide⟩ rfl (fun hw3 => ?_) (fun hw3 => ?_)
            · have hv3 : isW c3 = false := b2i_0 hw3
              refine W.o_iconst X (0 : Int32) (pc' := 108) at_107 rfl rfl ?_
              exact J 0 (by simp [expd, b2i, hl0, hl1, hl2, hv2, hl3, hv3]) T X
            · have hv3 : isW c3 = true := b2i_n hw3
              refine W.o_iconst X (1 : Int32) (pc' := 104) at_103 rfl rfl ?_
              refine W.o_goto X (pc' := 108) at_104 ⟨by decide, by decide⟩ ?_
              exact J 1 (by simp [expd, b2i, hl0, hl1, hl2, hv2, hl3, hv3]) T X
    · have hl1 : 1 < n := Nat.lt_of_not_le fun q => o32_ge (n := n) (i := 1) q (by decide) hn1
      refine W.o_iload X (pc' := 69) at_67 rfl rfl ?_
      refine W.o_static X (pc' := 72) at_69 rfl (z := (⟨"com/example/corbel/corbel/util/AntPathMatcherIsPatternPinLaw", "wild", "(C)Z"⟩ : MethodName)) (hw _ (List.mem_of_getElem? (i := 92) rfl)) (hw _ (List.mem_of_getElem? (i := 93) rfl)) (hw _ (List.mem_of_getElem? (i := 3) rfl)) (hw _ (List.mem_of_getElem? (i := 94) rfl)) (by decide) (ctWild l Z a0 hw c1 h422) (fun _ q => nomatch q) [(.int c1)] rfl (rest := []) rfl pd__C_Z rfl rfl (by decide) (by exact Nat.le_of_ble_eq_true rfl) (by decide) (by decide) (fun v456 T q457 => ?_)
      obtain ⟨h460, S458, ⟨rfl, eh⟩, X459⟩ := q457
      have eh := eh.symm
      subst eh
      have X := X459 [] all0
      show W.Go _ _ _ _ _ _ _ _ _ _ _ (mkF m 72 #[.val (.int p0), .val (.int p1), .val (.int p2), .val (.int p3), .val (.int p4), .val (.int (Int32.ofNat n)), .val (.int c0), .val (.int c1), .val (.int c2), .val (.int c3), .val (.ref sa), .unset] [(.int (b2i (isW c1)))])
      refine W.o_ifne X (pt := 103) (pf := 75) at_72 ⟨by decide, by decide⟩ rfl (fun hw1 => ?_) (fun hw1 => ?_)
      · have hv1 : isW c1 = true := b2i_n hw1
        refine W.o_iconst X (1 : Int32) (pc' := 104) at_103 rfl rfl ?_
        refine W.o_goto X (pc' := 108) at_104 ⟨by decide, by decide⟩ ?_
        exact J 1 (by simp [expd, b2i, hl0, hl1, hv1]) T X
      · have hv1 : isW c1 = false := b2i_0 hw1
        refine W.o_iload X (pc' := 77) at_75 rfl rfl ?_
        refine W.o_iconst X (2 : Int32) (pc' := 78) at_77 rfl rfl ?_
        refine W.o_if_icmple X (pt := 89) (pf := 81) at_78 ⟨by decide, by decide⟩ rfl (fun hn2 => ?_) (fun hn2 => ?_)
        · have hl2 : ¬ 2 < n := fun q => hn2 (o32_lt (i := 2) q (by omega)).2
          refine W.o_iload X (pc' := 91) at_89 rfl rfl ?_
          refine W.o_iconst X (3 : Int32) (pc' := 92) at_91 rfl rfl ?_
          refine W.o_if_icmple X (pt := 107) (pf := 95) at_92 ⟨by decide, by decide⟩ rfl (fun hn3 => ?_) (fun hn3 => ?_)
          · have hl3 : ¬ 3 < n := fun q => hn3 (o32_lt (i := 3) q (by omega)).2
            refine W.o_iconst X (0 : Int32) (pc' := 108) at_107 rfl rfl ?_
            exact J 0 (by simp [expd, b2i, hl0, hl1, hv1, hl2, hl3]) T X
          · have hl3 : 3 < n := Nat.lt_of_not_le fun q => o32_ge (n := n) (i := 3) q (by decide) hn3
            refine W.o_iload X (pc' := 97) at_95 rfl rfl ?_
            refine W.o_static X (pc' := 100) at_97 rfl (z := (⟨"com/example/corbel/corbel/util/AntPathMatcherIsPatternPinLaw", "wild", "(C)Z"⟩ : MethodName)) (hw _ (List.mem_of_getElem? (i := 92) rfl)) (hw _ (List.mem_of_getElem? (i := 93) rfl)) (hw _ (List.mem_of_getElem? (i := 3) rfl)) (hw _ (List.mem_of_getElem? (i := 94) rfl)) (by decide) (ctWild l Z a0 hw c3 h422) (fun _ q => nomatch q) [(.int c3)] rfl (rest := []) rfl pd__C_Z rfl rfl (by decide) (by exact Nat.le_of_ble_eq_true rfl) (by decide) (by decide) (fun v461 T q462 => ?_)
            obtain ⟨h465, S463, ⟨rfl, eh⟩, X464⟩ := q462
            have eh := eh.symm
            subst eh
            have X := X464 [] all0
            show W.Go _ _ _ _ _ _ _ _ _ _ _ (mkF m 100 #[.val (.int p0), .val (.int p1), .val (.int p2), .val (.int p3), .val (.int p4), .val (.int (Int32.ofNat n)), .val (.int c0), .val (.int c1), .val (.int c2), .val (.int c3), .val (.ref sa), .unset] [(.int (b2i (isW c3)))])
            refine W.o_ifeq X (pt := 107) (pf := 103) at_100 ⟨by decide, by decide⟩ rfl (fun hw3 => ?_) (fun hw3 => ?_)
            · have hv3 : isW c3 = false := b2i_0 hw3
              refine W.o_iconst X (0 : Int32) (pc' := 108) at_107 rfl rfl ?_
              exact J 0 (by simp [expd, b2i, hl0, hl1, hv1, hl2, hl3, hv3]) T X
            · have hv3 : isW c3 = true := b2i_n hw3
              refine W.o_iconst X (1 : Int32) (pc' := 104) at_103 rfl rfl ?_
              refine W.o_goto X (pc' := 108) at_104 ⟨by decide, by decide⟩ ?_
              exact J 1 (by simp [expd, b2i, hl0, hl1, hv1, hl2, hl3, hv3]) T X
        · have hl2 : 2 < n := Nat.lt_of_not_le fun q => o32_ge (n := n) (i := 2) q (by decide) hn2
          refine W.o_iload X (pc' := 83) at_81 rfl rfl ?_
          refine W.o_static X (pc' := 86) at_83 rfl (z := (⟨"com/example/corbel/corbel/util/AntPathMatcherIsPatternPinLaw", "wild", "(C)Z"⟩ : MethodName)) (hw _ (List.mem_of_getElem? (i := 92) rfl)) (hw _ (List.mem_of_getElem? (i := 93) rfl)) (hw _ (List.mem_of_getElem? (i := 3) rfl)) (hw _ (List.mem_of_getElem? (i := 94) rfl)) (by decide) (ctWild l Z a0 hw c2 h422) (fun _ q => nomatch q) [(.int c2)] rfl (rest := []) rfl pd__C_Z rfl rfl (by decide) (by exact Nat.le_of_ble_eq_true rfl) (by decide) (by decide) (fun v466 T q467 => ?_)
          obtain ⟨h470, S468, ⟨rfl, eh⟩, X469⟩ := q467
          have eh := eh.symm
          subst eh
          have X := X469 [] all0
          show W.Go _ _ _ _ _ _ _ _ _ _ _ (mkF m 86 #[.val (.int p0), .val (.int p1), .val (.int p2), .val (.int p3), .val (.int p4), .val (.int (Int32.ofNat n)), .val (.int c0), .val (.int c1), .val (.int c2), .val (.int c3), .val (.ref sa), .unset] [(.int (b2i (isW c2)))])
          refine W.o_ifne X (pt := 103) (pf := 89) at_86 ⟨by decide, by decide⟩ rfl (fun hw2 => ?_) (fun hw2 => ?_)
          · have hv2 : isW c2 = true := b2i_n hw2
            refine W.o_iconst X (1 : Int32) (pc' := 104) at_103 rfl rfl ?_
            refine W.o_goto X (pc' := 108) at_104 ⟨by decide, by decide⟩ ?_
            exact J 1 (by simp [expd, b2i, hl0, hl1, hv1, hl2, hv2]) T X
          · have hv2 : isW c2 = false := b2i_0 hw2
            refine W.o_iload X (pc' := 91) at_89 rfl rfl ?_
            refine W.o_iconst X (3 : Int32) (pc' := 92) at_91 rfl rfl ?_
            refine W.o_if_icmple X (pt := 107) (pf := 95) at_92 ⟨by decide, by decide⟩ rfl (fun hn3 => ?_) (fun hn3 => ?_)
            · have hl3 : ¬ 3 < n := fun q => hn3 (o32_lt (i := 3) q (by omega)).2
              refine W.o_iconst X (0 : Int32) (pc' := 108) at_107 rfl rfl ?_
              exact J 0 (by simp [expd, b2i, hl0, hl1, hv1, hl2, hv2, hl3]) T X
            · have hl3 : 3 < n := Nat.lt_of_not_le fun q => o32_ge (n := n) (i := 3) q (by decide) hn3
              refine W.o_iload X (pc' := 97) at_95 rfl rfl ?_
              refine W.o_static X (pc' := 100) at_97 rfl (z := (⟨"com/example/corbel/corbel/util/AntPathMatcherIsPatternPinLaw", "wild", "(C)Z"⟩ : MethodName)) (hw _ (List.mem_of_getElem? (i := 92) rfl)) (hw _ (List.mem_of_getElem? (i := 93) rfl)) (hw _ (List.mem_of_getElem? (i := 3) rfl)) (hw _ (List.mem_of_getElem? (i := 94) rfl)) (by decide) (ctWild l Z a0 hw c3 h422) (fun _ q => nomatch q) [(.int c3)] rfl (rest := []) rfl pd__C_Z rfl rfl (by decide) (by exact Nat.le_of_ble_eq_true rfl) (by decide) (by decide) (fun v471 T q472 => ?_)
              obtain ⟨h475, S473, ⟨rfl, eh⟩, X474⟩ := q472
              have eh := eh.symm
              subst eh
              have X := X474 [] all0
              show W.Go _ _ _ _ _ _ _ _ _ _ _ (mkF m 100 #[.val (.int p0), .val (.int p1), .val (.int p2), .val (.int p3), .val (.int p4), .val (.int (Int32.ofNat n)), .val (.int c0), .val (.int c1), .val (.int c2), .val (.int c3), .val (.ref sa), .unset] [(.int (b2i (isW c3)))])
              refine W.o_ifeq X (pt := 107) (pf := 103) at_100 ⟨by decide, by decide⟩ rfl (fun hw3 => ?_) (fun hw3 => ?_)
              · have hv3 : isW c3 = false := b2i_0 hw3
                refine W.o_iconst X (0 : Int32) (pc' := 108) at_107 rfl rfl ?_
                exact J 0 (by simp [expd, b2i, hl0, hl1, hv1, hl2, hv2, hl3, hv3]) T X
              · have hv3 : isW c3 = true := b2i_n hw3
                refine W.o_iconst X (1 : Int32) (pc' := 104) at_103 rfl rfl ?_
                refine W.o_goto X (pc' := 108) at_104 ⟨by decide, by decide⟩ ?_
                exact J 1 (by simp [expd, b2i, hl0, hl1, hv1, hl2, hv2, hl3, hv3]) T X
  · have hl0 : 0 < n := Nat.lt_of_not_le fun q => o32_ge (n := n) (i := 0) q (by decide) hn0
    refine W.o_iload X (pc' := 55) at_53 rfl rfl ?_
    refine W.o_static X (pc' := 58) at_55 rfl (z := (⟨"com/example/corbel/corbel/util/AntPathMatcherIsPatternPinLaw", "wild", "(C)Z"⟩ : MethodName)) (hw _ (List.mem_of_getElem? (i := 92) rfl)) (hw _ (List.mem_of_getElem? (i := 93) rfl)) (hw _ (List.mem_of_getElem? (i := 3) rfl)) (hw _ (List.mem_of_getElem? (i := 94) rfl)) (by decide) (ctWild l Z a0 hw c0 h422) (fun _ q => nomatch q) [(.int c0)] rfl (rest := []) rfl pd__C_Z rfl rfl (by decide) (by exact Nat.le_of_ble_eq_true rfl) (by decide) (by decide) (fun v476 T q477 => ?_)
    obtain ⟨h480, S478, ⟨rfl, eh⟩, X479⟩ := q477
    have eh := eh.symm
    subst eh
    have X := X479 [] all0
    show W.Go _ _ _ _ _ _ _ _ _ _ _ (mkF m 58 #[.val (.int p0), .val (.int p1), .val (.int p2), .val (.int p3), .val (.int p4), .val (.int (Int32.ofNat n)), .val (.int c0), .val (.int c1), .val (.int c2), .val (.int c3), .val (.ref sa), .unset] [(.int (b2i (isW c0)))])
    refine W.o_ifne X (pt := 103) (pf := 61) at_58 ⟨by decide, by decide⟩ rfl (fun hw0 => ?_) (fun hw0 => ?_)
    · have hv0 : isW c0 = true := b2i_n hw0
      refine W.o_iconst X (1 : Int32) (pc' := 104) at_103 rfl rfl ?_
      refine W.o_goto X (pc' := 108) at_104 ⟨by decide, by decide⟩ ?_
      exact J 1 (by simp [expd, b2i, hl0, hv0]) T X
    · have hv0 : isW c0 = false := b2i_0 hw0
      refine W.o_iload X (pc' := 63) at_61 rfl rfl ?_
      refine W.o_iconst X (1 : Int32) (pc' := 64) at_63 rfl rfl ?_
      refine W.o_if_icmple X (pt := 75) (pf := 67) at_64 ⟨by decide, by decide⟩ rfl (fun hn1 => ?_) (fun hn1 => ?_)
      · have hl1 : ¬ 1 < n := fun q => hn1 (o32_lt (i := 1) q (by omega)).2
        refine W.o_iload X (pc' := 77) at_75 rfl rfl ?_
        refine W.o_iconst X (2 : Int32) (pc' := 78) at_77 rfl rfl ?_
        refine W.o_if_icmple X (pt := 89) (pf := 81) at_78 ⟨by decide, by decide⟩ rfl (fun hn2 => ?_) (fun hn2 => ?_)
        · have hl2 : ¬ 2 < n := fun q => hn2 (o32_lt (i := 2) q (by omega)).2
          refine W.o_iload X (pc' := 91) at_89 rfl rfl ?_
          refine W.o_iconst X (3 : Int32) (pc' := 92) at_91 rfl rfl ?_
          refine W.o_if_icmple X (pt := 107) (pf := 95) at_92 ⟨by decide, by decide⟩ rfl (fun hn3 => ?_) (fun hn3 => ?_)
          · have hl3 : ¬ 3 < n := fun q => hn3 (o32_lt (i := 3) q (by omega)).2
            refine W.o_iconst X (0 : Int32) (pc' := 108) at_107 rfl rfl ?_
            exact J 0 (by simp [expd, b2i, hl0, hv0, hl1, hl2, hl3]) T X
          · have hl3 : 3 < n := Nat.lt_of_not_le fun q => o32_ge (n := n) (i := 3) q (by decide) hn3
            refine W.o_iload X (pc' := 97) at_95 rfl rfl ?_
            refine W.o_static X (pc' := 100) at_97 rfl (z := (⟨"com/example/corbel/corbel/util/AntPathMatcherIsPatternPinLaw", "wild", "(C)Z"⟩ : MethodName)) (hw _ (List.mem_of_getElem? (i := 92) rfl)) (hw _ (List.mem_of_getElem? (i := 93) rfl)) (hw _ (List.mem_of_getElem? (i := 3) rfl)) (hw _ (List.mem_of_getElem? (i := 94) rfl)) (by decide) (ctWild l Z a0 hw c3 h422) (fun _ q => nomatch q) [(.int c3)] rfl (rest := []) rfl pd__C_Z rfl rfl (by decide) (by exact Nat.le_of_ble_eq_true rfl) (by decide) (by decide) (fun v481 T q482 => ?_)
            obtain ⟨h485, S483, ⟨rfl, eh⟩, X484⟩ := q482
            have eh := eh.symm
            subst eh
            have X := X484 [] all0
            show W.Go _ _ _ _ _ _ _ _ _ _ _ (mkF m 100 #[.val (.int p0), .val (.int p1), .val (.int p2), .val (.int p3), .val (.int p4), .val (.int (Int32.ofNat n)), .val (.int c0), .val (.int c1), .val (.int c2), .val (.int c3), .val (.ref sa), .unset] [(.int (b2i (isW c3)))])
            refine W.o_ifeq X (pt := 107) (pf := 103) at_100 ⟨by decide, by decide⟩ rfl (fun hw3 => ?_) (fun hw3 => ?_)
            · have hv3 : isW c3 = false := b2i_0 hw3
              refine W.o_iconst X (0 : Int32) (pc' := 108) at_107 rfl rfl ?_
              exact J 0 (by simp [expd, b2i, hl0, hv0, hl1, hl2, hl3, hv3]) T X
            · have hv3 : isW c3 = true := b2i_n hw3
              refine W.o_iconst X (1 : Int32) (pc' := 104) at_103 rfl rfl ?_
              refine W.o_goto X (pc' := 108) at_104 ⟨by decide, by decide⟩ ?_
              exact J 1 (by simp [expd, b2i, hl0, hv0, hl1, hl2, hl3, hv3]) T X
        · have hl2 : 2 < n := Nat.lt_of_not_le fun q => o32_ge (n := n) (i := 2) q (by decide) hn2
          refine W.o_iload X (pc' := 83) at_81 rfl rfl ?_
          refine W.o_static X (pc' := 86) at_83 rfl (z := (⟨"com/example/corbel/corbel/util/AntPathMatcherIsPatternPinLaw", "wild", "(C)Z"⟩ : MethodName)) (hw _ (List.mem_of_getElem? (i := 92) rfl)) (hw _ (List.mem_of_getElem? (i := 93) rfl)) (hw _ (List.mem_of_getElem? (i := 3) rfl)) (hw _ (List.mem_of_getElem? (i := 94) rfl)) (by decide) (ctWild l Z a0 hw c2 h422) (fun _ q => nomatch q) [(.int c2)] rfl (rest := []) rfl pd__C_Z rfl rfl (by decide) (by exact Nat.le_of_ble_eq_true rfl) (by decide) (by decide) (fun v486 T q487 => ?_)
          obtain ⟨h490, S488, ⟨rfl, eh⟩, X489⟩ := q487
          have eh := eh.symm
          subst eh
          have X := X489 [] all0
          show W.Go _ _ _ _ _ _ _ _ _ _ _ (mkF m 86 #[.val (.int p0), .val (.int p1), .val (.int p2), .val (.int p3), .val (.int p4), .val (.int (Int32.ofNat n)), .val (.int c0), .val (.int c1), .val (.int c2), .val (.int c3), .val (.ref sa), .unset] [(.int (b2i (isW c2)))])
          refine W.o_ifne X (pt := 103) (pf := 89) at_86 ⟨by decide, by decide⟩ rfl (fun hw2 => ?_) (fun hw2 => ?_)
          · have hv2 : isW c2 = true := b2i_n hw2
            refine W.o_iconst X (1 : Int32) (pc' := 104) at_103 rfl rfl ?_
            refine W.o_goto X (pc' := 108) at_104 ⟨by decide, by decide⟩ ?_
            exact J 1 (by simp [expd, b2i, hl0, hv0, hl1, hl2, hv2]) T X
          · have hv2 : isW c2 = false := b2i_0 hw2
            refine W.o_iload X (pc' := 91) at_89 rfl rfl ?_
            refine W.o_iconst X (3 : Int32) (pc' := 92) at_91 rfl rfl ?_
            refine W.o_if_icmple X (pt := 107) (pf := 95) at_92 ⟨by decide, by decide⟩ rfl (fun hn3 => ?_) (fun hn3 => ?_)
            · have hl3 : ¬ 3 < n := fun q => hn3 (o32_lt (i := 3) q (by omega)).2
              refine W.o_iconst X (0 : Int32) (pc' := 108) at_107 rfl rfl ?_
              exact J 0 (by simp [expd, b2i, hl0, hv0, hl1, hl2, hv2, hl3]) T X
            · have hl3 : 3 < n := Nat.lt_of_not_le fun q => o32_ge (n := n) (i := 3) q (by decide) hn3
              refine W.o_iload X (pc' := 97) at_95 rfl rfl ?_
              refine W.o_static X (pc' := 100) at_97 rfl (z := (⟨"com/example/corbel/corbel/util/AntPathMatcherIsPatternPinLaw", "wild", "(C)Z"⟩ : MethodName)) (hw _ (List.mem_of_getElem? (i := 92) rfl)) (hw _ (List.mem_of_getElem? (i := 93) rfl)) (hw _ (List.mem_of_getElem? (i := 3) rfl)) (hw _ (List.mem_of_getElem? (i := 94) rfl)) (by decide) (ctWild l Z a0 hw c3 h422) (fun _ q => nomatch q) [(.int c3)] rfl (rest := []) rfl pd__C_Z rfl rfl (by decide) (by exact Nat.le_of_ble_eq_true rfl) (by decide) (by decide) (fun v491 T q492 => ?_)
              obtain ⟨h495, S493, ⟨rfl, eh⟩, X494⟩ := q492
              have eh := eh.symm
              subst eh
              have X := X494 [] all0
              show W.Go _ _ _ _ _ _ _ _ _ _ _ (mkF m 100 #[.val (.int p0), .val (.int p1), .val (.int p2), .val (.int p3), .val (.int p4), .val (.int (Int32.ofNat n)), .val (.int c0), .val (.int c1), .val (.int c2), .val (.int c3), .val (.ref sa), .unset] [(.int (b2i (isW c3)))])
              refine W.o_ifeq X (pt := 107) (pf := 103) at_100 ⟨by decide, by decide⟩ rfl (fun hw3 => ?_) (fun hw3 => ?_)
              · have hv3 : isW c3 = false := b2i_0 hw3
                refine W.o_iconst X (0 : Int32) (pc' := 108) at_107 rfl rfl ?_
                exact J 0 (by simp [expd, b2i, hl0, hv0, hl1, hl2, hv2, hl3, hv3]) T X
              · have hv3 : isW c3 = true := b2i_n hw3
                refine W.o_iconst X (1 : Int32) (pc' := 104) at_103 rfl rfl ?_
                refine W.o_goto X (pc' := 108) at_104 ⟨by decide, by decide⟩ ?_
                exact J 1 (by simp [expd, b2i, hl0, hv0, hl1, hl2, hv2, hl3, hv3]) T X
      · have hl1 : 1 < n := Nat.lt_of_not_le fun q => o32_ge (n := n) (i := 1) q (by decide) hn1
        refine W.o_iload X (pc' := 69) at_67 rfl rfl ?_
        refine W.o_static X (pc' := 72) at_69 rfl (z := (⟨"com/example/corbel/corbel/util/AntPathMatcherIsPatternPinLaw", "wild", "(C)Z"⟩ : MethodName)) (hw _ (List.mem_of_getElem? (i := 92) rfl)) (hw _ (List.mem_of_getElem? (i := 93) rfl)) (hw _ (List.mem_of_getElem? (i := 3) rfl)) (hw _ (List.mem_of_getElem? (i := 94) rfl)) (by decide) (ctWild l Z a0 hw c1 h422) (fun _ q => nomatch q) [(.int c1)] rfl (rest := []) rfl pd__C_Z rfl rfl (by decide) (by exact Nat.le_of_ble_eq_true rfl) (by decide) (by decide) (fun v496 T q497 => ?_)
        obtain ⟨h500, S498, ⟨rfl, eh⟩, X499⟩ := q497
        have eh := eh.symm
        subst eh
        have X := X499 [] all0
        show W.Go _ _ _ _ _ _ _ _ _ _ _ (mkF m 72 #[.val (.int p0), .val (.int p1), .val (.int p2), .val (.int p3), .val (.int p4), .val (.int (Int32.ofNat n)), .val (.int c0), .val (.int c1), .val (.int c2), .val (.int c3), .val (.ref sa), .unset] [(.int (b2i (isW c1)))])
        refine W.o_ifne X (pt := 103) (pf := 75) at_72 ⟨by decide, by decide⟩ rfl (fun hw1 => ?_) (fun hw1 => ?_)
        · have hv1 : isW c1 = true := b2i_n hw1
          refine W.o_iconst X (1 : Int32) (pc' := 104) at_103 rfl rfl ?_
          refine W.o_goto X (pc' := 108) at_104 ⟨by decide, by decide⟩ ?_
          exact J 1 (by simp [expd, b2i, hl0, hv0, hl1, hv1]) T X
        · have hv1 : isW c1 = false := b2i_0 hw1
          refine W.o_iload X (pc' := 77) at_75 rfl rfl ?_
          refine W.o_iconst X (2 : Int32) (pc' := 78) at_77 rfl rfl ?_
          refine W.o_if_icmple X (pt := 89) (pf := 81) at_78 ⟨by decide, by decide⟩ rfl (fun hn2 => ?_) (fun hn2 => ?_)
          · have hl2 : ¬ 2 < n := fun q => hn2 (o32_lt (i := 2) q (by omega)).2
            refine W.o_iload X (pc' := 91) at_89 rfl rfl ?_
            refine W.o_iconst X (3 : Int32) (pc' := 92) at_91 rfl rfl ?_
            refine W.o_if_icmple X (pt := 107) (pf := 95) at_92 ⟨by decide, by decide⟩ rfl (fun hn3 => ?_) (fun hn3 => ?_)
            · have hl3 : ¬ 3 < n := fun q => hn3 (o32_lt (i := 3) q (by omega)).2
              refine W.o_iconst X (0 : Int32) (pc' := 108) at_107 rfl rfl ?_
              exact J 0 (by simp [expd, b2i, hl0, hv0, hl1, hv1, hl2, hl3]) T X
            · have hl3 : 3 < n := Nat.lt_of_not_le fun q => o32_ge (n := n) (i := 3) q (by decide) hn3
              refine W.o_iload X (pc' := 97) at_95 rfl rfl ?_
              refine W.o_static X (pc' := 100) at_97 rfl (z := (⟨"com/example/corbel/corbel/util/AntPathMatcherIsPatternPinLaw", "wild", "(C)Z"⟩ : MethodName)) (hw _ (List.mem_of_getElem? (i := 92) rfl)) (hw _ (List.mem_of_getElem? (i := 93) rfl)) (hw _ (List.mem_of_getElem? (i := 3) rfl)) (hw _ (List.mem_of_getElem? (i := 94) rfl)) (by decide) (ctWild l Z a0 hw c3 h422) (fun _ q => nomatch q) [(.int c3)] rfl (rest := []) rfl pd__C_Z rfl rfl (by decide) (by exact Nat.le_of_ble_eq_true rfl) (by decide) (by decide) (fun v501 T q502 => ?_)
              obtain ⟨h505, S503, ⟨rfl, eh⟩, X504⟩ := q502
              have eh := eh.symm
              subst eh
              have X := X504 [] all0
              show W.Go _ _ _ _ _ _ _ _ _ _ _ (mkF m 100 #[.val (.int p0), .val (.int p1), .val (.int p2), .val (.int p3), .val (.int p4), .val (.int (Int32.ofNat n)), .val (.int c0), .val (.int c1), .val (.int c2), .val (.int c3), .val (.ref sa), .unset] [(.int (b2i (isW c3)))])
              refine W.o_ifeq X (pt := 107) (pf := 103) at_100 ⟨by decide, by decide⟩ rfl (fun hw3 => ?_) (fun hw3 => ?_)
              · have hv3 : isW c3 = false := b2i_0 hw3
                refine W.o_iconst X (0 : Int32) (pc' := 108) at_107 rfl rfl ?_
                exact J 0 (by simp [expd, b2i, hl0, hv0, hl1, hv1, hl2, hl3, hv3]) T X
              · have hv3 : isW c3 = true := b2i_n hw3
                refine W.o_iconst X (1 : Int32) (pc' := 104) at_103 rfl rfl ?_
                refine W.o_goto X (pc' := 108) at_104 ⟨by decide, by decide⟩ ?_
                exact J 1 (by simp [expd, b2i, hl0, hv0, hl1, hv1, hl2, hl3, hv3]) T X
          · have hl2 : 2 < n := Nat.lt_of_not_le fun q => o32_ge (n := n) (i := 2) q (by decide) hn2
            refine W.o_iload X (pc' := 83) at_81 rfl rfl ?_
            refine W.o_static X (pc' := 86) at_83 rfl (z := (⟨"com/example/corbel/corbel/util/AntPathMatcherIsPatternPinLaw", "wild", "(C)Z"⟩ : MethodName)) (hw _ (List.mem_of_getElem? (i := 92) rfl)) (hw _ (List.mem_of_getElem? (i := 93) rfl)) (hw _ (List.mem_of_getElem? (i := 3) rfl)) (hw _ (List.mem_of_getElem? (i := 94) rfl)) (by decide) (ctWild l Z a0 hw c2 h422) (fun _ q => nomatch q) [(.int c2)] rfl (rest := []) rfl pd__C_Z rfl rfl (by decide) (by exact Nat.le_of_ble_eq_true rfl) (by decide) (by decide) (fun v506 T q507 => ?_)
            obtain ⟨h510, S508, ⟨rfl, eh⟩, X509⟩ := q507
            have eh := eh.symm
            subst eh
            have X := X509 [] all0
            show W.Go _ _ _ _ _ _ _ _ _ _ _ (mkF m 86 #[.val (.int p0), .val (.int p1), .val (.int p2), .val (.int p3), .val (.int p4), .val (.int (Int32.ofNat n)), .val (.int c0), .val (.int c1), .val (.int c2), .val (.int c3), .val (.ref sa), .unset] [(.int (b2i (isW c2)))])
            refine W.o_ifne X (pt := 103) (pf := 89) at_86 ⟨by decide, by decide⟩ rfl (fun hw2 => ?_) (fun hw2 => ?_)
            · have hv2 : isW c2 = true := b2i_n hw2
              refine W.o_iconst X (1 : Int32) (pc' := 104) at_103 rfl rfl ?_
              refine W.o_goto X (pc' := 108) at_104 ⟨by decide, by decide⟩ ?_
              exact J 1 (by simp [expd, b2i, hl0, hv0, hl1, hv1, hl2, hv2]) T X
            · have hv2 : isW c2 = false := b2i_0 hw2
              refine W.o_iload X (pc' := 91) at_89 rfl rfl ?_
              refine W.o_iconst X (3 : Int32) (pc' := 92) at_91 rfl rfl ?_
              refine W.o_if_icmple X (pt := 107) (pf := 95) at_92 ⟨by decide, by decide⟩ rfl (fun hn3 => ?_) (fun hn3 => ?_)
              · have hl3 : ¬ 3 < n := fun q => hn3 (o32_lt (i := 3) q (by omega)).2
                refine W.o_iconst X (0 : Int32) (pc' := 108) at_107 rfl rfl ?_
                exact J 0 (by simp [expd, b2i, hl0, hv0, hl1, hv1, hl2, hv2, hl3]) T X
              · have hl3 : 3 < n := Nat.lt_of_not_le fun q => o32_ge (n := n) (i := 3) q (by decide) hn3
                refine W.o_iload X (pc' := 97) at_95 rfl rfl ?_
                refine W.o_static X (pc' := 100) at_97 rfl (z := (⟨"com/example/corbel/corbel/util/AntPathMatcherIsPatternPinLaw", "wild", "(C)Z"⟩ : MethodName)) (hw _ (List.mem_of_getElem? (i := 92) rfl)) (hw _ (List.mem_of_getElem? (i := 93) rfl)) (hw _ (List.mem_of_getElem? (i := 3) rfl)) (hw _ (List.mem_of_getElem? (i := 94) rfl)) (by decide) (ctWild l Z a0 hw c3 h422) (fun _ q => nomatch q) [(.int c3)] rfl (rest := []) rfl pd__C_Z rfl rfl (by decide) (by exact Nat.le_of_ble_eq_true rfl) (by decide) (by decide) (fun v511 T q512 => ?_)
                obtain ⟨h515, S513, ⟨rfl, eh⟩, X514⟩ := q512
                have eh := eh.symm
                subst eh
                have X := X514 [] all0
                show W.Go _ _ _ _ _ _ _ _ _ _ _ (mkF m 100 #[.val (.int p0), .val (.int p1), .val (.int p2), .val (.int p3), .val (.int p4), .val (.int (Int32.ofNat n)), .val (.int c0), .val (.int c1), .val (.int c2), .val (.int c3), .val (.ref sa), .unset] [(.int (b2i (isW c3)))])
                refine W.o_ifeq X (pt := 107) (pf := 103) at_100 ⟨by decide, by decide⟩ rfl (fun hw3 => ?_) (fun hw3 => ?_)
                · have hv3 : isW c3 = false := b2i_0 hw3
                  refine W.o_iconst X (0 : Int32) (pc' := 108) at_107 rfl rfl ?_
                  exact J 0 (by simp [expd, b2i, hl0, hv0, hl1, hv1, hl2, hv2, hl3, hv3]) T X
                · have hv3 : isW c3 = true := b2i_n hw3
                  refine W.o_iconst X (1 : Int32) (pc' := 104) at_103 rfl rfl ?_
                  refine W.o_goto X (pc' := 108) at_104 ⟨by decide, by decide⟩ ?_
                  exact J 1 (by simp [expd, b2i, hl0, hv0, hl1, hv1, hl2, hv2, hl3, hv3]) T X
theorem eqI_v {args : Array Value} {first s : State} {o : Option Outcome} {idx : List Nat} {t : Term} {n : Int32} (h : (Jvm.Cond.eq t (.int n)).value args first o s idx = some true) : t.eval args first o idx s = some (.int n) := by
  simp only [Cond.value, Term.eval] at h
  cases ht : t.eval args first o idx s with
  | none => simp [ht] at h
  | some x => cases x <;> simp [ht] at h ⊢; exact h
set_option maxRecDepth 65536 in
set_option maxHeartbeats 40000000 in
theorem comes_1 {Post : Tables → Env → Array Value → State → Outcome → State → Prop} (hpost : ∀ tb e args s v u, (limb_1_1.after args s (.returned v) u = true ∧ limb_1_2.after args s (.returned v) u = true ∧ True) → ReturnedEndW s (.returned v) u (Jvm.fieldLocs frame_1_writes args s ++ Jvm.arrayLocs frame_1_arrays args s ++ Jvm.staticLocs frame_1_statics s) 24 1152 → Post tb e args s (.returned v) u) :
    ArmFor flags0 classFile x code maxLocals ret World_1 tables_1 room_1 Calls_1 rest_1 Pre_1 Post := by
  intro l hfl _ _ p e ha hc hk s m args below hf hA hF happ hP
  obtain ⟨hcalls, hrest, hpre⟩ := hP
  obtain ⟨-, -, -, hnamed, -, -, -, hat⟩ := (Spec.applies_iff hf).mp happ
  obtain ⟨hg, hn⟩ := and_e (Cond.before_iff.mp (show (Jvm.Cond.and given_1 narrow_1).before args s = true from hpre))
  obtain ⟨g0, r0⟩ := and_e hg
  obtain ⟨g1, r1⟩ := and_e r0
  obtain ⟨g2, r2⟩ := and_e r1
  obtain ⟨g3, r3⟩ := and_e r2
  obtain ⟨g4, r4⟩ := and_e r3
  obtain ⟨w0, w1, w2, w3, w4, rfl⟩ : ∃ w0 w1 w2 w3 w4 : Value, args = #[w0, w1, w2, w3, w4] := by
    have hs : args.size = 5 := by simpa [Cond.value, given_1] using g0
    obtain ⟨L⟩ := args
    match L, hs with
    | [w0, w1, w2, w3, w4], _ => exact ⟨w0, w1, w2, w3, w4, rfl⟩
  have hw := fun d (hd : d ∈ tables_1) => atoms_spec (ws := Jvm.Cond.code x code maxLocals ret :: tables_1) hat d (List.mem_cons_of_mem _ hd)
  obtain ⟨hsets, hown0⟩ := atoms_of _ (rest_1_c_eq ▸ (show rest_1_c.before _ s = true from hrest))
  obtain ⟨i0, ei0⟩ := is_v g1
  obtain rfl : w0 = (.int i0) := Option.some.inj ei0
  obtain ⟨i1, ei1⟩ := is_v g2
  obtain rfl : w1 = (.int i1) := Option.some.inj ei1
  obtain ⟨i2, ei2⟩ := is_v g3
  obtain rfl : w2 = (.int i2) := Option.some.inj ei2
  obtain ⟨i3, ei3⟩ := is_v g4
  obtain rfl : w3 = (.int i3) := Option.some.inj ei3
  obtain ⟨i4, ei4⟩ := is_v r4
  obtain rfl : w4 = (.int i4) := Option.some.inj ei4
  have n3 := not_v (Cond.before_iff.mp (hsets _ (List.mem_of_getElem? (i := 2) rfl)))
  obtain ⟨cz, ecz⟩ := is_v (Cond.before_iff.mp (hsets _ (List.mem_of_getElem? (i := 1) rfl)))
  have C0 : Sta s s.heap "java/lang/String" "COMPACT_STRINGS" "Z" (.int cz) := Sta.start ecz (Or.inl (hsets _ (List.mem_of_getElem? (i := 0) rfl)))
  have hcz : ¬ (cz = (0 : Int32)) := gotF (Cond.eq_ints ecz (Term.int_eval (0))) n3
  obtain ⟨fv, efv, hfv⟩ := isR_v (Cond.before_iff.mp (hsets _ (List.mem_of_getElem? (i := 8) rfl)))
  have FM : Sta s s.heap "jdk/internal/util/Preconditions" "SIOOBE_FORMATTER" "Ljava/util/function/BiFunction;" fv := Sta.start efv (Or.inl (hsets _ (List.mem_of_getElem? (i := 7) rfl)))
  have AS : Sta s s.heap "java/lang/StringUTF16" "$assertionsDisabled" "Z" (.int (1 : Int32)) := Sta.start (eqI_v (Cond.before_iff.mp (hsets _ (List.mem_of_getElem? (i := 12) rfl)))) (Or.inl (hsets _ (List.mem_of_getElem? (i := 11) rfl)))
  have HI : Sta s s.heap "java/lang/StringUTF16" "HI_BYTE_SHIFT" "I" (.int (0 : Int32)) := Sta.start (eqI_v (Cond.before_iff.mp (hsets _ (List.mem_of_getElem? (i := 15) rfl)))) (Or.inl (hsets _ (List.mem_of_getElem? (i := 14) rfl)))
  have LO : Sta s s.heap "java/lang/StringUTF16" "LO_BYTE_SHIFT" "I" (.int (8 : Int32)) := Sta.start (eqI_v (Cond.before_iff.mp (hsets _ (List.mem_of_getElem? (i := 18) rfl)))) (Or.inl (hsets _ (List.mem_of_getElem? (i := 17) rfl)))
  have hEx : Ext s.heap s.heap := ⟨Nat.le_refl _, fun _ _ q => q⟩
  have hEW : EW s #[(.int i0), (.int i1), (.int i2), (.int i3), (.int i4)] el := EW.cons (hw _ (List.mem_of_getElem? (i := 22) rfl)) (by decide) (EW.nil)
  have hCH : CHv s el s.vm s.heap := CHv.start hEW (fun p hp => hcalls.1 p hp) (hsets _ (List.mem_of_getElem? (i := 2) rfl)) (hw _ (List.mem_of_getElem? (i := 23) rfl)) (hw _ (List.mem_of_getElem? (i := 9) rfl))
  obtain ⟨n, o, h1, h2, h3, v, L, rfl, ⟨N, -, -, rfl⟩, hq⟩ := ctLaw l s _ hw i0 i1 i2 i3 i4 cz fv s.heap AS HI LO FM hfv C0 hcz tables_1 hEW hEx p e ha hc hk s m _ below hf ((Spec.applies_iff_loose hf).mp happ).1 ⟨rfl, State.Warmed39.refl s, rfl, hCH, all0⟩ trivial
  have hq : ReturnedEndW s _ _ L room_1.cells room_1.slots := hq
  exact ⟨n, _, h1, h2, h3, hpost _ _ _ _ _ _ ⟨Cond.after_iff.mpr rfl, Cond.after_iff.mpr (eq_i res_at (Term.int_eval (1)) rfl), trivial⟩ ⟨hq.1, hq.2.1, hq.2.2.1, (hq.2.2.2.sift fun y hy => Or.inr (N y hy)).mono (by decide) (by decide)⟩⟩
theorem main_1_1 : Claimed_1_1 := comes_1 fun _ _ _ _ _ _ h hF => ⟨h.1, hF⟩
theorem main_1_2 : Claimed_1_2 := comes_1 fun _ _ _ _ _ _ h hF => ⟨h.2.1, hF⟩
end Jvm.Pilot.@@N@@
namespace Jvm.Pilot.@@N@@
open Jvm Jvm.ClassFile Sem Op Lib Jvm.Free Jvm.Stand Jvm.Pilot.@@N@@.Jvm.D
/-! MADE BY PROGRAM (witnessworld.py) out of the Statement's table words and the real class files: 21 classes; the members and pool entries that the words name. The judged class is class 1, her method 1. -/
namespace start1
open Jvm.ClassFile
def u (s : String) : CpInfo := .utf8 (stringToUtf16 s)
/-- a pool by its gaps: so many unusable entries, then the entry; so many at the end -/
def gap : Nat → List CpInfo → List CpInfo
  | 0, r => r
  | n + 1, r => .unusable :: gap n r
def poolList (es : List (Nat × CpInfo)) (last : Nat) : List CpInfo := es.foldr (fun e r => gap e.1 (e.2 :: r)) (gap last [])
def pool (es : List (Nat × CpInfo)) (last : Nat) : Array CpInfo := ⟨poolList es last⟩
def fileOf (pool : Array CpInfo) (this : Nat) (attrs : Array Attribute := #[]) (ms : Array MethodInfo := #[]) (fl : Nat := 33) (sup : Nat := 0) (ifs : Array Nat := #[]) (fds : Array FieldInfo := #[]) : ClassFile where
  minorVersion := 0
  majorVersion := 65
  constantPool := pool
  accessFlags := fl
  thisClass := this
  superClass := sup
  interfaces := ifs
  fields := fds
  methods := ms
  attributes := attrs
def plain (name : String) (sup : Option ClassId) : Class where
  name := name
  kind := .ordinary
  loader := none
  accessFlags := 33
  super := sup
  interfaces := #[]
  cf := none
  fields := #[]
  methods := #[]
  instanceTypes := #[]
  staticTypes := #[]
  resolved := #[]
  callSites := []
  init := .initialized
  statics := none
  mirror := none

def pool0 : Array CpInfo := pool [(5, u "<init>"), (0, u "()V"), (1, .class_ 10), (1, u "java/lang/Object")] 113

def k0c0 : Code := { maxStack := 0, maxLocals := 1, code := object_method_1_code, exceptionTable := #[], attributes := #[] }
def k0m0 : Method := { name := "<init>", desc := "()V", sig := { parameters := [], returnType := none }, accessFlags := 1, code := some k0c0 }
/-- java/lang/Object -/
def k0 : Class := { plain "java/lang/Object" none with
  accessFlags := 33
  interfaces := #[]
  cf := some (fileOf pool0 8 #[] #[{ accessFlags := 1, nameIndex := 5, descriptorIndex := 6, attributes := #[] }] 33 0 #[] #[])
  fields := #[]
  methods := #[k0m0]
  instanceTypes := #[]
  staticTypes := #[]
  resolved := Array.replicate 124 none
  statics := none }

def pool1 : Array CpInfo := pool [(2, .class_ 4), (0, .nameAndType 5 6), (0, u "java/lang/Object"), (0, u "<init>"), (0, u "()V"), (0, .integer 2147483647), (0, .methodref 9 10), (0, .class_ 11), (0, .nameAndType 12 13), (0, u "com/example/corbel/corbel/util/AntPathMatcherIsPatternPinLaw"), (0, u "pick"), (0, u "(I)C"), (0, .methodref 9 15), (0, .nameAndType 16 17), (0, u "make"), (0, u "(ICCCC)Ljava/lang/String;"), (0, .methodref 9 19), (0, .nameAndType 20 21), (0, u "wild"), (0, u "(C)Z"), (0, .class_ 23), (0, u "com/example/corbel/corbel/util/AntPathMatcher"), (0, .methodref 22 3), (0, .methodref 22 26), (0, .nameAndType 27 28), (0, u "isPattern"), (0, u "(Ljava/lang/String;)Z"), (0, .class_ 30), (0, u "java/lang/String"), (0, .methodref 29 32), (0, .nameAndType 5 33), (0, u "([C)V"), (2, u "law"), (0, u "(IIIII)Z")] 3

def k1m0 : Method := { name := "<init>", desc := "()V", sig := { parameters := [], returnType := none }, accessFlags := 1, code := none }
def k1c1 : Code := { maxStack := 5, maxLocals := 12, code := code, exceptionTable := #[], attributes := #[] }
def k1m1 : Method := { name := "law", desc := "(IIIII)Z", sig := { parameters := [.int, .int, .int, .int, .int], returnType := some .boolean }, accessFlags := 9, code := some k1c1 }
def k1c2 : Code := { maxStack := 2, maxLocals := 2, code := method_3_code, exceptionTable := #[], attributes := #[] }
def k1m2 : Method := { name := "pick", desc := "(I)C", sig := { parameters := [.int], returnType := some .char }, accessFlags := 10, code := some k1c2 }
def k1c3 : Code := { maxStack := 2, maxLocals := 1, code := method_4_code, exceptionTable := #[], attributes := #[] }
def k1m3 : Method := { name := "wild", desc := "(C)Z", sig := { parameters := [.char], returnType := some .boolean }, accessFlags := 10, code := some k1c3 }
def k1c4 : Code := { maxStack := 3, maxLocals := 6, code := method_5_code, exceptionTable := #[], attributes := #[] }
def k1m4 : Method := { name := "make", desc := "(ICCCC)Ljava/lang/String;", sig := { parameters := [.int, .char, .char, .char, .char], returnType := some (.object "java/lang/String") }, accessFlags := 10, code := some k1c4 }
/-- com/example/corbel/corbel/util/AntPathMatcherIsPatternPinLaw -/
def k1 : Class := { plain "com/example/corbel/corbel/util/AntPathMatcherIsPatternPinLaw" (some 0) with
  accessFlags := 49
  interfaces := #[]
  cf := some (fileOf pool1 9 #[] #[{ accessFlags := 1, nameIndex := 5, descriptorIndex := 6, attributes := #[] }, { accessFlags := 9, nameIndex := 36, descriptorIndex := 37, attributes := #[] }, { accessFlags := 10, nameIndex := 12, descriptorIndex := 13, attributes := #[] }, { accessFlags := 10, nameIndex := 20, descriptorIndex := 21, attributes := #[] }, { accessFlags := 10, nameIndex := 16, descriptorIndex := 17, attributes := #[] }] 49 2 #[] #[])
  fields := #[]
  methods := #[k1m0, k1m1, k1m2, k1m3, k1m4]
  instanceTypes := #[]
  staticTypes := #[]
  resolved := Array.replicate 41 none
  statics := none }

def pool2 : Array CpInfo := pool [(1, .class_ 2), (0, u "java/io/Serializable"), (0, .class_ 4), (0, u "java/lang/Object")] 2

/-- java/io/Serializable -/
def k2 : Class := { plain "java/io/Serializable" (some 0) with
  accessFlags := 1537
  interfaces := #[]
  cf := some (fileOf pool2 1 #[] #[] 1537 3 #[] #[])
  fields := #[]
  methods := #[]
  instanceTypes := #[]
  staticTypes := #[]
  resolved := Array.replicate 7 none
  statics := none }

def pool3 : Array CpInfo := pool [(1, .class_ 2), (0, u "java/lang/Comparable"), (0, .class_ 4), (0, u "java/lang/Object")] 7

/-- java/lang/Comparable -/
def k3 : Class := { plain "java/lang/Comparable" (some 0) with
  accessFlags := 1537
  interfaces := #[]
  cf := some (fileOf pool3 1 #[] #[] 1537 3 #[] #[])
  fields := #[]
  methods := #[]
  instanceTypes := #[]
  staticTypes := #[]
  resolved := Array.replicate 12 none
  statics := none }

def pool4 : Array CpInfo := pool [(2, .class_ 4), (1, u "java/lang/CharSequence"), (42, .class_ 48), (0, u "java/lang/CharSequence$1CodePointIterator"), (10, .class_ 60), (0, u "java/lang/CharSequence$1CharIterator"), (5, .class_ 67), (0, u "java/lang/Object")] 63

/-- java/lang/CharSequence -/
def k4 : Class := { plain "java/lang/CharSequence" (some 0) with
  accessFlags := 1537
  interfaces := #[]
  cf := some (fileOf pool4 2 #[.nestMembers #[47, 59]] #[] 1537 66 #[] #[])
  fields := #[]
  methods := #[]
  instanceTypes := #[]
  staticTypes := #[]
  resolved := Array.replicate 131 none
  statics := none }

def pool5 : Array CpInfo := pool [(1, .class_ 2), (0, u "java/lang/constant/Constable"), (0, .class_ 4), (0, u "java/lang/Object")] 6

/-- java/lang/constant/Constable -/
def k5 : Class := { plain "java/lang/constant/Constable" (some 0) with
  accessFlags := 1537
  interfaces := #[]
  cf := some (fileOf pool5 1 #[] #[] 1537 3 #[] #[])
  fields := #[]
  methods := #[]
  instanceTypes := #[]
  staticTypes := #[]
  resolved := Array.replicate 11 none
  statics := none }

def pool6 : Array CpInfo := pool [(1, .class_ 2), (0, u "java/lang/constant/ConstantDesc"), (0, .class_ 4), (0, u "java/lang/Object")] 32

/-- java/lang/constant/ConstantDesc -/
def k6 : Class := { plain "java/lang/constant/ConstantDesc" (some 0) with
  accessFlags := 1537
  interfaces := #[]
  cf := some (fileOf pool6 1 #[] #[] 1537 3 #[] #[])
  fields := #[]
  methods := #[]
  instanceTypes := #[]
  staticTypes := #[]
  resolved := Array.replicate 37 none
  statics := none }

def pool7 : Array CpInfo := pool [(1, .methodref 2 3), (0, .class_ 4), (0, .nameAndType 5 6), (0, u "java/lang/Object"), (0, u "<init>"), (0, u "()V"), (0, .string 8), (0, u ""), (0, .fieldref 10 11), (0, .class_ 12), (0, .nameAndType 13 14), (0, u "java/lang/String"), (0, u "value"), (0, u "[B"), (0, .fieldref 10 16), (0, .nameAndType 17 18), (0, u "coder"), (0, u "B"), (2, u "hash"), (0, u "I"), (2, u "hashIsZero"), (0, u "Z"), (0, .methodref 10 28), (0, .nameAndType 5 29), (0, u "([CIILjava/lang/Void;)V"), (8, .fieldref 10 39), (0, .nameAndType 40 26), (0, u "COMPACT_STRINGS"), (1, .class_ 44), (1, u "java/lang/StringUTF16"), (0, u "compress"), (1, .methodref 42 48), (0, .nameAndType 49 50), (0, u "coderFromArrayLen"), (0, u "([BI)B"), (56, .class_ 109), (1, u "java/lang/StringLatin1"), (32, u "()Z"), (34, .methodref 42 178), (0, .nameAndType 45 179), (0, u "([CII)[B"), (154, u "()I"), (0, .methodref 10 336), (0, .nameAndType 17 337), (0, u "()B"), (154, .methodref 10 493), (0, .nameAndType 494 142), (0, u "isLatin1"), (10, .methodref 10 506), (0, .nameAndType 507 334), (0, u "length"), (5, u "checkFromToIndex"), (9, u "checkBoundsBeginEnd"), (0, u "(III)V"), (50, .class_ 576), (0, u "java/lang/CharSequence"), (22, u "CASE_INSENSITIVE_ORDER"), (0, u "Ljava/util/Comparator;"), (32, .methodref 10 634), (0, .nameAndType 635 636), (0, u "indexOf"), (0, u "(II)I"), (0, .methodref 107 638), (0, .nameAndType 635 639), (0, u "([BIII)I"), (0, .methodref 42 638), (124, u "(I)I"), (244, u "([C)V"), (42, .fieldref 1054 1055), (0, .class_ 1056), (0, .nameAndType 1057 1058), (0, u "jdk/internal/util/Preconditions"), (0, u "SIOOBE_FORMATTER"), (0, u "Ljava/util/function/BiFunction;"), (3, .methodref 1054 1063), (0, .nameAndType 513 1064), (0, u "(IIILjava/util/function/BiFunction;)I"), (36, u "serialPersistentFields"), (0, u "[Ljava/io/ObjectStreamField;"), (0, .class_ 1104), (0, u "java/lang/String$CaseInsensitiveComparator"), (1, .class_ 1107), (0, u "java/io/Serializable"), (0, .class_ 1109), (0, u "java/lang/Comparable"), (0, .class_ 1111), (0, u "java/lang/constant/Constable"), (0, .class_ 1113), (0, u "java/lang/constant/ConstantDesc"), (2, u "serialVersionUID"), (0, u "J"), (3, u "REPL"), (0, u "C"), (2, u "LATIN1"), (1, u "UTF16")] 323

def k7m0 : Method := { name := "<init>", desc := "()V", sig := { parameters := [], returnType := none }, accessFlags := 1, code := none }
def k7c1 : Code := { maxStack := 5, maxLocals := 2, code := jdk_42_method_3_code, exceptionTable := #[], attributes := #[] }
def k7m1 : Method := { name := "<init>", desc := "([C)V", sig := { parameters := [(.array .char)], returnType := none }, accessFlags := 1, code := some k7c1 }
def k7c2 : Code := { maxStack := 2, maxLocals := 1, code := jdk_42_method_54_code, exceptionTable := #[], attributes := #[] }
def k7m2 : Method := { name := "length", desc := "()I", sig := { parameters := [], returnType := some .int }, accessFlags := 1, code := some k7c2 }
def k7c3 : Code := { maxStack := 3, maxLocals := 2, code := jdk_42_method_79_code, exceptionTable := #[], attributes := #[] }
def k7m3 : Method := { name := "indexOf", desc := "(I)I", sig := { parameters := [.int], returnType := some .int }, accessFlags := 1, code := some k7c3 }
def k7c4 : Code := { maxStack := 4, maxLocals := 3, code := jdk_42_method_80_code, exceptionTable := #[], attributes := #[] }
def k7m4 : Method := { name := "indexOf", desc := "(II)I", sig := { parameters := [.int, .int], returnType := some .int }, accessFlags := 1, code := some k7c4 }
def k7c5 : Code := { maxStack := 4, maxLocals := 6, code := jdk_42_method_149_code, exceptionTable := #[], attributes := #[] }
def k7m5 : Method := { name := "<init>", desc := "([CIILjava/lang/Void;)V", sig := { parameters := [(.array .char), .int, .int, (.object "java/lang/Void")], returnType := none }, accessFlags := 2, code := some k7c5 }
def k7c6 : Code := { maxStack := 1, maxLocals := 1, code := jdk_42_method_152_code, exceptionTable := #[], attributes := #[] }
def k7m6 : Method := { name := "coder", desc := "()B", sig := { parameters := [], returnType := some .byte }, accessFlags := 0, code := some k7c6 }
def k7c7 : Code := { maxStack := 1, maxLocals := 1, code := jdk_42_method_154_code, exceptionTable := #[], attributes := #[] }
def k7m7 : Method := { name := "isLatin1", desc := "()Z", sig := { parameters := [], returnType := some .boolean }, accessFlags := 0, code := some k7c7 }
def k7c8 : Code := { maxStack := 4, maxLocals := 3, code := jdk_42_method_158_code, exceptionTable := #[], attributes := #[] }
def k7m8 : Method := { name := "checkBoundsBeginEnd", desc := "(III)V", sig := { parameters := [.int, .int, .int], returnType := none }, accessFlags := 8, code := some k7c8 }
/-- java/lang/String -/
def k7 : Class := { plain "java/lang/String" (some 0) with
  accessFlags := 49
  interfaces := #[2, 3, 4, 5, 6]
  cf := some (fileOf pool7 10 #[.nestMembers #[1103]] #[{ accessFlags := 1, nameIndex := 5, descriptorIndex := 6, attributes := #[] }, { accessFlags := 1, nameIndex := 5, descriptorIndex := 1010, attributes := #[] }, { accessFlags := 1, nameIndex := 507, descriptorIndex := 334, attributes := #[] }, { accessFlags := 1, nameIndex := 635, descriptorIndex := 765, attributes := #[] }, { accessFlags := 1, nameIndex := 635, descriptorIndex := 636, attributes := #[] }, { accessFlags := 2, nameIndex := 5, descriptorIndex := 29, attributes := #[] }, { accessFlags := 0, nameIndex := 17, descriptorIndex := 337, attributes := #[] }, { accessFlags := 0, nameIndex := 494, descriptorIndex := 142, attributes := #[] }, { accessFlags := 8, nameIndex := 523, descriptorIndex := 524, attributes := #[] }] 49 2 #[1106, 1108, 575, 1110, 1112] #[{ accessFlags := 18, nameIndex := 13, descriptorIndex := 14, attributes := #[] }, { accessFlags := 18, nameIndex := 17, descriptorIndex := 18, attributes := #[] }, { accessFlags := 2, nameIndex := 21, descriptorIndex := 22, attributes := #[] }, { accessFlags := 2, nameIndex := 25, descriptorIndex := 26, attributes := #[] }, { accessFlags := 26, nameIndex := 1116, descriptorIndex := 1117, attributes := #[] }, { accessFlags := 24, nameIndex := 40, descriptorIndex := 26, attributes := #[] }, { accessFlags := 26, nameIndex := 1101, descriptorIndex := 1102, attributes := #[] }, { accessFlags := 26, nameIndex := 1121, descriptorIndex := 1122, attributes := #[] }, { accessFlags := 25, nameIndex := 599, descriptorIndex := 600, attributes := #[] }, { accessFlags := 24, nameIndex := 1125, descriptorIndex := 18, attributes := #[] }, { accessFlags := 24, nameIndex := 1127, descriptorIndex := 18, attributes := #[] }])
  fields := #[{ name := "value", type := (.array .byte), accessFlags := 18, slot := 0, constantValue := 0 }, { name := "coder", type := .byte, accessFlags := 18, slot := 1, constantValue := 0 }, { name := "hash", type := .int, accessFlags := 2, slot := 2, constantValue := 0 }, { name := "hashIsZero", type := .boolean, accessFlags := 2, slot := 3, constantValue := 0 }, { name := "serialVersionUID", type := .long, accessFlags := 26, slot := 0, constantValue := 0 }, { name := "COMPACT_STRINGS", type := .boolean, accessFlags := 24, slot := 1, constantValue := 0 }, { name := "serialPersistentFields", type := (.array (.object "java/io/ObjectStreamField")), accessFlags := 26, slot := 2, constantValue := 0 }, { name := "REPL", type := .char, accessFlags := 26, slot := 3, constantValue := 0 }, { name := "CASE_INSENSITIVE_ORDER", type := (.object "java/util/Comparator"), accessFlags := 25, slot := 4, constantValue := 0 }, { name := "LATIN1", type := .byte, accessFlags := 24, slot := 5, constantValue := 0 }, { name := "UTF16", type := .byte, accessFlags := 24, slot := 6, constantValue := 0 }]
  methods := #[k7m0, k7m1, k7m2, k7m3, k7m4, k7m5, k7m6, k7m7, k7m8]
  instanceTypes := #[(.array .byte), .byte, .int, .boolean]
  staticTypes := #[.long, .boolean, (.array (.object "java/io/ObjectStreamField")), .char, (.object "java/util/Comparator"), .byte, .byte]
  resolved := Array.replicate 1451 none
  statics := some 0 }

def pool8 : Array CpInfo := pool [(1, .methodref 2 3), (0, .class_ 4), (0, .nameAndType 5 6), (0, u "java/lang/Object"), (0, u "<init>"), (0, u "()V"), (0, .methodref 8 9), (0, .class_ 10), (0, .nameAndType 11 12), (0, u "java/lang/String"), (0, u "indexOf"), (0, u "(I)I"), (1, .class_ 16), (1, u "com/example/corbel/corbel/util/AntPathMatcher"), (55, u "isPattern"), (0, u "(Ljava/lang/String;)Z")] 35

def k8c0 : Code := { maxStack := 1, maxLocals := 1, code := prog_56_method_1_code, exceptionTable := #[], attributes := #[] }
def k8m0 : Method := { name := "<init>", desc := "()V", sig := { parameters := [], returnType := none }, accessFlags := 1, code := some k8c0 }
def k8c1 : Code := { maxStack := 2, maxLocals := 2, code := prog_56_method_2_code, exceptionTable := #[], attributes := #[] }
def k8m1 : Method := { name := "isPattern", desc := "(Ljava/lang/String;)Z", sig := { parameters := [(.object "java/lang/String")], returnType := some .boolean }, accessFlags := 1, code := some k8c1 }
/-- com/example/corbel/corbel/util/AntPathMatcher -/
def k8 : Class := { plain "com/example/corbel/corbel/util/AntPathMatcher" (some 0) with
  accessFlags := 33
  interfaces := #[]
  cf := some (fileOf pool8 14 #[] #[{ accessFlags := 1, nameIndex := 5, descriptorIndex := 6, attributes := #[] }, { accessFlags := 1, nameIndex := 72, descriptorIndex := 73, attributes := #[] }] 33 2 #[] #[])
  fields := #[]
  methods := #[k8m0, k8m1]
  instanceTypes := #[]
  staticTypes := #[]
  resolved := Array.replicate 109 none
  statics := none }

def pool9 : Array CpInfo := pool [(4, .class_ 6), (1, u "java/lang/Object"), (0, u "<init>"), (0, u "()V"), (5, .class_ 16), (1, u "java/lang/StringLatin1"), (21, .methodref 39 40), (0, .class_ 41), (0, .nameAndType 42 43), (0, u "java/lang/Math"), (0, u "min"), (0, u "(II)I"), (44, .methodref 14 89), (0, .nameAndType 90 91), (0, u "canEncode"), (0, u "(I)Z"), (0, .methodref 39 93), (0, .nameAndType 94 43), (0, u "max"), (0, .methodref 14 96), (0, .nameAndType 97 98), (0, u "indexOfChar"), (0, u "([BIII)I"), (2, u "indexOf"), (19, u "$assertionsDisabled"), (0, u "Z"), (98, .class_ 223), (1, u "java/lang/StringLatin1$LinesSpliterator"), (166, .class_ 391), (0, u "java/lang/StringLatin1$CharsSpliterator")] 3

def k9m0 : Method := { name := "<init>", desc := "()V", sig := { parameters := [], returnType := none }, accessFlags := 0, code := none }
def k9c1 : Code := { maxStack := 2, maxLocals := 1, code := jdk_43_method_4_code, exceptionTable := #[], attributes := #[] }
def k9m1 : Method := { name := "canEncode", desc := "(I)Z", sig := { parameters := [.int], returnType := some .boolean }, accessFlags := 9, code := some k9c1 }
def k9c2 : Code := { maxStack := 4, maxLocals := 4, code := jdk_43_method_22_code, exceptionTable := #[], attributes := #[] }
def k9m2 : Method := { name := "indexOf", desc := "([BIII)I", sig := { parameters := [(.array .byte), .int, .int, .int], returnType := some .int }, accessFlags := 9, code := some k9c2 }
def k9c3 : Code := { maxStack := 2, maxLocals := 6, code := jdk_43_method_23_code, exceptionTable := #[], attributes := #[] }
def k9m3 : Method := { name := "indexOfChar", desc := "([BIII)I", sig := { parameters := [(.array .byte), .int, .int, .int], returnType := some .int }, accessFlags := 10, code := some k9c3 }
/-- java/lang/StringLatin1 -/
def k9 : Class := { plain "java/lang/StringLatin1" (some 0) with
  accessFlags := 48
  interfaces := #[]
  cf := some (fileOf pool9 14 #[.nestMembers #[390, 221]] #[{ accessFlags := 0, nameIndex := 7, descriptorIndex := 8, attributes := #[] }, { accessFlags := 9, nameIndex := 90, descriptorIndex := 91, attributes := #[] }, { accessFlags := 9, nameIndex := 101, descriptorIndex := 98, attributes := #[] }, { accessFlags := 10, nameIndex := 97, descriptorIndex := 98, attributes := #[] }] 48 4 #[] #[{ accessFlags := 4120, nameIndex := 121, descriptorIndex := 122, attributes := #[] }])
  fields := #[{ name := "$assertionsDisabled", type := .boolean, accessFlags := 4120, slot := 0, constantValue := 0 }]
  methods := #[k9m0, k9m1, k9m2, k9m3]
  instanceTypes := #[]
  staticTypes := #[.boolean]
  resolved := Array.replicate 395 none
  statics := none }

def pool10 : Array CpInfo := pool [(1, .class_ 2), (0, u "java/lang/Math"), (1, .class_ 6), (1, u "java/lang/Object"), (0, u "<init>"), (0, u "()V"), (89, .class_ 100), (1, u "java/lang/Math$RandomNumberGeneratorHolder"), (71, u "negativeZeroFloatBits"), (0, u "J"), (2, u "negativeZeroDoubleBits"), (21, u "max"), (2, u "min"), (43, u "$assertionsDisabled"), (0, u "Z"), (88, u "(II)I"), (2, u "twoToTheDoubleScaleDown"), (0, u "D"), (4, u "twoToTheDoubleScaleUp"), (9, u "E"), (3, u "PI"), (2, u "TAU"), (2, u "DEGREES_TO_RADIANS"), (0, u "RADIANS_TO_DEGREES")] 94

def k10m0 : Method := { name := "<init>", desc := "()V", sig := { parameters := [], returnType := none }, accessFlags := 2, code := none }
def k10c1 : Code := { maxStack := 2, maxLocals := 2, code := jdk_29_method_65_code, exceptionTable := #[], attributes := #[] }
def k10m1 : Method := { name := "max", desc := "(II)I", sig := { parameters := [.int, .int], returnType := some .int }, accessFlags := 9, code := some k10c1 }
def k10c2 : Code := { maxStack := 2, maxLocals := 2, code := jdk_29_method_69_code, exceptionTable := #[], attributes := #[] }
def k10m2 : Method := { name := "min", desc := "(II)I", sig := { parameters := [.int, .int], returnType := some .int }, accessFlags := 9, code := some k10c2 }
/-- java/lang/Math -/
def k10 : Class := { plain "java/lang/Math" (some 0) with
  accessFlags := 49
  interfaces := #[]
  cf := some (fileOf pool10 1 #[.nestMembers #[98]] #[{ accessFlags := 2, nameIndex := 7, descriptorIndex := 8, attributes := #[] }, { accessFlags := 9, nameIndex := 198, descriptorIndex := 335, attributes := #[] }, { accessFlags := 9, nameIndex := 201, descriptorIndex := 335, attributes := #[] }] 49 4 #[] #[{ accessFlags := 25, nameIndex := 354, descriptorIndex := 339, attributes := #[] }, { accessFlags := 25, nameIndex := 358, descriptorIndex := 339, attributes := #[] }, { accessFlags := 25, nameIndex := 361, descriptorIndex := 339, attributes := #[] }, { accessFlags := 26, nameIndex := 364, descriptorIndex := 339, attributes := #[] }, { accessFlags := 26, nameIndex := 365, descriptorIndex := 339, attributes := #[] }, { accessFlags := 26, nameIndex := 172, descriptorIndex := 173, attributes := #[] }, { accessFlags := 26, nameIndex := 176, descriptorIndex := 173, attributes := #[] }, { accessFlags := 8, nameIndex := 344, descriptorIndex := 339, attributes := #[] }, { accessFlags := 8, nameIndex := 338, descriptorIndex := 339, attributes := #[] }, { accessFlags := 4120, nameIndex := 245, descriptorIndex := 246, attributes := #[] }])
  fields := #[{ name := "E", type := .double, accessFlags := 25, slot := 0, constantValue := 0 }, { name := "PI", type := .double, accessFlags := 25, slot := 1, constantValue := 0 }, { name := "TAU", type := .double, accessFlags := 25, slot := 2, constantValue := 0 }, { name := "DEGREES_TO_RADIANS", type := .double, accessFlags := 26, slot := 3, constantValue := 0 }, { name := "RADIANS_TO_DEGREES", type := .double, accessFlags := 26, slot := 4, constantValue := 0 }, { name := "negativeZeroFloatBits", type := .long, accessFlags := 26, slot := 5, constantValue := 0 }, { name := "negativeZeroDoubleBits", type := .long, accessFlags := 26, slot := 6, constantValue := 0 }, { name := "twoToTheDoubleScaleUp", type := .double, accessFlags := 8, slot := 7, constantValue := 0 }, { name := "twoToTheDoubleScaleDown", type := .double, accessFlags := 8, slot := 8, constantValue := 0 }, { name := "$assertionsDisabled", type := .boolean, accessFlags := 4120, slot := 9, constantValue := 0 }]
  methods := #[k10m0, k10m1, k10m2]
  instanceTypes := #[]
  staticTypes := #[.double, .double, .double, .double, .double, .long, .long, .double, .double, .boolean]
  resolved := Array.replicate 460 none
  statics := none }

def pool11 : Array CpInfo := pool [(3, .class_ 4), (0, u "java/lang/String"), (1, .class_ 8), (1, u "java/lang/Object"), (0, u "<init>"), (0, u "()V"), (0, .methodref 12 13), (0, .class_ 14), (0, .nameAndType 15 16), (0, u "java/lang/StringUTF16"), (0, u "newBytesLength"), (0, u "(I)I"), (3, .integer 1073741823), (23, .fieldref 12 45), (0, .nameAndType 46 47), (0, u "$assertionsDisabled"), (0, u "Z"), (0, .methodref 12 49), (0, .nameAndType 50 51), (0, u "length"), (0, u "([B)I"), (7, .fieldref 12 60), (0, .nameAndType 61 62), (0, u "HI_BYTE_SHIFT"), (0, u "I"), (0, .fieldref 12 64), (0, .nameAndType 65 62), (0, u "LO_BYTE_SHIFT"), (5, .methodref 12 72), (0, .nameAndType 73 74), (0, u "getChar"), (0, u "([BI)C"), (21, .methodref 12 97), (0, .nameAndType 98 99), (0, u "checkBoundsBeginEnd"), (0, u "(II[B)V"), (7, .methodref 12 108), (0, .nameAndType 109 110), (0, u "newBytesFor"), (0, u "(I)[B"), (0, .methodref 12 112), (0, .nameAndType 113 114), (0, u "putChar"), (0, u "([BII)V"), (0, .methodref 12 116), (0, .nameAndType 117 118), (0, u "compress"), (0, u "([CI[BII)I"), (0, .methodref 12 120), (0, .nameAndType 121 122), (0, u "toBytes"), (0, u "([CII)[B"), (60, .methodref 184 185), (0, .class_ 186), (0, .nameAndType 187 188), (0, u "java/lang/Math"), (0, u "min"), (0, u "(II)I"), (35, .methodref 184 225), (0, .nameAndType 226 188), (0, u "max"), (0, .integer 65536), (0, .methodref 12 229), (0, .nameAndType 230 231), (0, u "indexOfChar"), (0, u "([BIII)I"), (9, .methodref 3 242), (0, .nameAndType 98 243), (0, u "(III)V"), (0, .methodref 12 245), (0, .nameAndType 246 231), (0, u "indexOfCharUnsafe"), (14, u "coderFromArrayLen"), (0, u "([BI)B"), (5, u "indexOf"), (100, .class_ 371), (1, u "java/lang/StringUTF16$LinesSpliterator"), (58, u "MAX_LENGTH"), (196, .class_ 628), (0, u "java/lang/StringUTF16$CodePointsSpliterator"), (0, .class_ 630), (0, u "java/lang/StringUTF16$CharsSpliterator")] 4

def k11m0 : Method := { name := "<init>", desc := "()V", sig := { parameters := [], returnType := none }, accessFlags := 0, code := none }
def k11c1 : Code := { maxStack := 1, maxLocals := 1, code := jdk_52_method_2_code, exceptionTable := #[], attributes := #[] }
def k11m1 : Method := { name := "newBytesFor", desc := "(I)[B", sig := { parameters := [.int], returnType := some (.array .byte) }, accessFlags := 9, code := some k11c1 }
def k11c2 : Code := { maxStack := 4, maxLocals := 1, code := jdk_52_method_3_code, exceptionTable := #[], attributes := #[] }
def k11m2 : Method := { name := "newBytesLength", desc := "(I)I", sig := { parameters := [.int], returnType := some .int }, accessFlags := 9, code := some k11c2 }
def k11c3 : Code := { maxStack := 4, maxLocals := 3, code := jdk_52_method_4_code, exceptionTable := #[], attributes := #[] }
def k11m3 : Method := { name := "putChar", desc := "([BII)V", sig := { parameters := [(.array .byte), .int, .int], returnType := none }, accessFlags := 8, code := some k11c3 }
def k11c4 : Code := { maxStack := 3, maxLocals := 2, code := jdk_52_method_5_code, exceptionTable := #[], attributes := #[] }
def k11m4 : Method := { name := "getChar", desc := "([BI)C", sig := { parameters := [(.array .byte), .int], returnType := some .char }, accessFlags := 8, code := some k11c4 }
def k11c5 : Code := { maxStack := 2, maxLocals := 1, code := jdk_52_method_6_code, exceptionTable := #[], attributes := #[] }
def k11m5 : Method := { name := "length", desc := "([B)I", sig := { parameters := [(.array .byte)], returnType := some .int }, accessFlags := 9, code := some k11c5 }
def k11c6 : Code := { maxStack := 4, maxLocals := 5, code := jdk_52_method_14_code, exceptionTable := #[], attributes := #[] }
def k11m6 : Method := { name := "toBytes", desc := "([CII)[B", sig := { parameters := [(.array .char), .int, .int], returnType := some (.array .byte) }, accessFlags := 9, code := some k11c6 }
def k11c7 : Code := { maxStack := 2, maxLocals := 2, code := jdk_52_method_15_code, exceptionTable := #[], attributes := #[] }
def k11m7 : Method := { name := "coderFromArrayLen", desc := "([BI)B", sig := { parameters := [(.array .byte), .int], returnType := some .byte }, accessFlags := 8, code := some k11c7 }
def k11c8 : Code := { maxStack := 5, maxLocals := 6, code := jdk_52_method_16_code, exceptionTable := #[], attributes := #[] }
def k11m8 : Method := { name := "compress", desc := "([CII)[B", sig := { parameters := [(.array .char), .int, .int], returnType := some (.array .byte) }, accessFlags := 9, code := some k11c8 }
def k11c9 : Code := { maxStack := 3, maxLocals := 7, code := jdk_52_method_21_code, exceptionTable := #[], attributes := #[] }
def k11m9 : Method := { name := "compress", desc := "([CI[BII)I", sig := { parameters := [(.array .char), .int, (.array .byte), .int, .int], returnType := some .int }, accessFlags := 9, code := some k11c9 }
def k11c10 : Code := { maxStack := 4, maxLocals := 4, code := jdk_52_method_40_code, exceptionTable := #[], attributes := #[] }
def k11m10 : Method := { name := "indexOf", desc := "([BIII)I", sig := { parameters := [(.array .byte), .int, .int, .int], returnType := some .int }, accessFlags := 9, code := some k11c10 }
def k11c11 : Code := { maxStack := 4, maxLocals := 4, code := jdk_52_method_47_code, exceptionTable := #[], attributes := #[] }
def k11m11 : Method := { name := "indexOfChar", desc := "([BIII)I", sig := { parameters := [(.array .byte), .int, .int, .int], returnType := some .int }, accessFlags := 10, code := some k11c11 }
def k11c12 : Code := { maxStack := 2, maxLocals := 5, code := jdk_52_method_48_code, exceptionTable := #[], attributes := #[] }
def k11m12 : Method := { name := "indexOfCharUnsafe", desc := "([BIII)I", sig := { parameters := [(.array .byte), .int, .int, .int], returnType := some .int }, accessFlags := 10, code := some k11c12 }
def k11c13 : Code := { maxStack := 3, maxLocals := 3, code := jdk_52_method_93_code, exceptionTable := #[], attributes := #[] }
def k11m13 : Method := { name := "checkBoundsBeginEnd", desc := "(II[B)V", sig := { parameters := [.int, .int, (.array .byte)], returnType := none }, accessFlags := 9, code := some k11c13 }
/-- java/lang/StringUTF16 -/
def k11 : Class := { plain "java/lang/StringUTF16" (some 0) with
  accessFlags := 48
  interfaces := #[]
  cf := some (fileOf pool11 12 #[.nestMembers #[627, 629, 369]] #[{ accessFlags := 0, nameIndex := 9, descriptorIndex := 10, attributes := #[] }, { accessFlags := 9, nameIndex := 109, descriptorIndex := 110, attributes := #[] }, { accessFlags := 9, nameIndex := 15, descriptorIndex := 16, attributes := #[] }, { accessFlags := 8, nameIndex := 113, descriptorIndex := 114, attributes := #[] }, { accessFlags := 8, nameIndex := 73, descriptorIndex := 74, attributes := #[] }, { accessFlags := 9, nameIndex := 50, descriptorIndex := 51, attributes := #[] }, { accessFlags := 9, nameIndex := 121, descriptorIndex := 122, attributes := #[] }, { accessFlags := 8, nameIndex := 261, descriptorIndex := 262, attributes := #[] }, { accessFlags := 9, nameIndex := 117, descriptorIndex := 122, attributes := #[] }, { accessFlags := 9, nameIndex := 117, descriptorIndex := 118, attributes := #[] }, { accessFlags := 9, nameIndex := 268, descriptorIndex := 231, attributes := #[] }, { accessFlags := 10, nameIndex := 230, descriptorIndex := 231, attributes := #[] }, { accessFlags := 10, nameIndex := 246, descriptorIndex := 231, attributes := #[] }, { accessFlags := 9, nameIndex := 98, descriptorIndex := 99, attributes := #[] }] 48 6 #[] #[{ accessFlags := 26, nameIndex := 61, descriptorIndex := 62, attributes := #[] }, { accessFlags := 26, nameIndex := 65, descriptorIndex := 62, attributes := #[] }, { accessFlags := 24, nameIndex := 430, descriptorIndex := 62, attributes := #[] }, { accessFlags := 4120, nameIndex := 46, descriptorIndex := 47, attributes := #[] }])
  fields := #[{ name := "HI_BYTE_SHIFT", type := .int, accessFlags := 26, slot := 0, constantValue := 0 }, { name := "LO_BYTE_SHIFT", type := .int, accessFlags := 26, slot := 1, constantValue := 0 }, { name := "MAX_LENGTH", type := .int, accessFlags := 24, slot := 2, constantValue := 0 }, { name := "$assertionsDisabled", type := .boolean, accessFlags := 4120, slot := 3, constantValue := 0 }]
  methods := #[k11m0, k11m1, k11m2, k11m3, k11m4, k11m5, k11m6, k11m7, k11m8, k11m9, k11m10, k11m11, k11m12, k11m13]
  instanceTypes := #[]
  staticTypes := #[.int, .int, .int, .boolean]
  resolved := Array.replicate 635 none
  statics := some 1 }

def pool12 : Array CpInfo := pool [(2, .class_ 4), (1, u "java/lang/Object"), (0, u "<init>"), (0, u "()V"), (17, .class_ 26), (1, u "jdk/internal/util/Preconditions"), (20, u "checkFromToIndex"), (7, .class_ 56), (0, u "jdk/internal/util/Preconditions$4"), (57, .class_ 115), (0, u "jdk/internal/util/Preconditions$1"), (7, u "SIOOBE_FORMATTER"), (0, u "Ljava/util/function/BiFunction;"), (0, .class_ 126), (0, u "jdk/internal/util/Preconditions$2"), (3, u "AIOOBE_FORMATTER"), (0, .class_ 132), (0, u "jdk/internal/util/Preconditions$3"), (3, u "IOOBE_FORMATTER"), (46, u "(IIILjava/util/function/BiFunction;)I")] 10

def k12m0 : Method := { name := "<init>", desc := "()V", sig := { parameters := [], returnType := none }, accessFlags := 1, code := none }
def k12c1 : Code := { maxStack := 4, maxLocals := 4, code := jdk_41_method_12_code, exceptionTable := #[], attributes := #[] }
def k12m1 : Method := { name := "checkFromToIndex", desc := "(IIILjava/util/function/BiFunction;)I", sig := { parameters := [.int, .int, .int, (.object "java/util/function/BiFunction")], returnType := some .int }, accessFlags := 9, code := some k12c1 }
/-- jdk/internal/util/Preconditions -/
def k12 : Class := { plain "jdk/internal/util/Preconditions" (some 0) with
  accessFlags := 33
  interfaces := #[]
  cf := some (fileOf pool12 24 #[.nestMembers #[55, 131, 125, 114]] #[{ accessFlags := 1, nameIndex := 5, descriptorIndex := 6, attributes := #[] }, { accessFlags := 9, nameIndex := 47, descriptorIndex := 183, attributes := #[] }] 33 2 #[] #[{ accessFlags := 25, nameIndex := 123, descriptorIndex := 124, attributes := #[] }, { accessFlags := 25, nameIndex := 130, descriptorIndex := 124, attributes := #[] }, { accessFlags := 25, nameIndex := 136, descriptorIndex := 124, attributes := #[] }])
  fields := #[{ name := "SIOOBE_FORMATTER", type := (.object "java/util/function/BiFunction"), accessFlags := 25, slot := 0, constantValue := 0 }, { name := "AIOOBE_FORMATTER", type := (.object "java/util/function/BiFunction"), accessFlags := 25, slot := 1, constantValue := 0 }, { name := "IOOBE_FORMATTER", type := (.object "java/util/function/BiFunction"), accessFlags := 25, slot := 2, constantValue := 0 }]
  methods := #[k12m0, k12m1]
  instanceTypes := #[]
  staticTypes := #[(.object "java/util/function/BiFunction"), (.object "java/util/function/BiFunction"), (.object "java/util/function/BiFunction")]
  resolved := Array.replicate 194 none
  statics := some 2 }

def pool13 : Array CpInfo := pool [(9, u "<init>"), (6, .class_ 18), (1, u "java/lang/Object"), (0, u "()V"), (1, .class_ 23), (1, u "jdk/internal/util/ArraysSupport"), (0, u "LOG2_ARRAY_LONG_INDEX_SCALE"), (0, u "I"), (2, u "U"), (0, u "Ljdk/internal/misc/Unsafe;"), (8, u "BIG_ENDIAN"), (0, u "Z"), (8, u "LOG2_BYTE_BIT_SIZE"), (4, u "LOG2_ARRAY_INT_INDEX_SCALE"), (54, u "JLA"), (0, u "Ljdk/internal/access/JavaLangAccess;"), (11, u "LOG2_ARRAY_BOOLEAN_INDEX_SCALE"), (9, u "LOG2_ARRAY_BYTE_INDEX_SCALE"), (5, u "LOG2_ARRAY_CHAR_INDEX_SCALE"), (5, u "LOG2_ARRAY_SHORT_INDEX_SCALE"), (18, u "LOG2_ARRAY_FLOAT_INDEX_SCALE"), (24, u "LOG2_ARRAY_DOUBLE_INDEX_SCALE"), (89, u "T_BOOLEAN"), (2, u "T_CHAR"), (1, u "T_FLOAT"), (1, u "T_DOUBLE"), (1, u "T_BYTE"), (1, u "T_SHORT"), (1, u "T_INT"), (1, u "T_LONG"), (1, u "SOFT_MAX_ARRAY_LENGTH")] 83

def k13m0 : Method := { name := "<init>", desc := "()V", sig := { parameters := [], returnType := none }, accessFlags := 2, code := none }
/-- jdk/internal/util/ArraysSupport -/
def k13 : Class := { plain "jdk/internal/util/ArraysSupport" (some 0) with
  accessFlags := 33
  interfaces := #[]
  cf := some (fileOf pool13 21 #[] #[{ accessFlags := 2, nameIndex := 9, descriptorIndex := 19, attributes := #[] }] 33 16 #[] #[{ accessFlags := 24, nameIndex := 28, descriptorIndex := 29, attributes := #[] }, { accessFlags := 26, nameIndex := 38, descriptorIndex := 39, attributes := #[] }, { accessFlags := 25, nameIndex := 121, descriptorIndex := 25, attributes := #[] }, { accessFlags := 25, nameIndex := 131, descriptorIndex := 25, attributes := #[] }, { accessFlags := 25, nameIndex := 137, descriptorIndex := 25, attributes := #[] }, { accessFlags := 25, nameIndex := 143, descriptorIndex := 25, attributes := #[] }, { accessFlags := 25, nameIndex := 53, descriptorIndex := 25, attributes := #[] }, { accessFlags := 25, nameIndex := 24, descriptorIndex := 25, attributes := #[] }, { accessFlags := 25, nameIndex := 162, descriptorIndex := 25, attributes := #[] }, { accessFlags := 25, nameIndex := 187, descriptorIndex := 25, attributes := #[] }, { accessFlags := 26, nameIndex := 48, descriptorIndex := 25, attributes := #[] }, { accessFlags := 25, nameIndex := 277, descriptorIndex := 25, attributes := #[] }, { accessFlags := 25, nameIndex := 280, descriptorIndex := 25, attributes := #[] }, { accessFlags := 25, nameIndex := 282, descriptorIndex := 25, attributes := #[] }, { accessFlags := 25, nameIndex := 284, descriptorIndex := 25, attributes := #[] }, { accessFlags := 25, nameIndex := 286, descriptorIndex := 25, attributes := #[] }, { accessFlags := 25, nameIndex := 288, descriptorIndex := 25, attributes := #[] }, { accessFlags := 25, nameIndex := 290, descriptorIndex := 25, attributes := #[] }, { accessFlags := 25, nameIndex := 292, descriptorIndex := 25, attributes := #[] }, { accessFlags := 26, nameIndex := 108, descriptorIndex := 109, attributes := #[] }, { accessFlags := 25, nameIndex := 294, descriptorIndex := 25, attributes := #[] }])
  fields := #[{ name := "U", type := (.object "jdk/internal/misc/Unsafe"), accessFlags := 24, slot := 0, constantValue := 0 }, { name := "BIG_ENDIAN", type := .boolean, accessFlags := 26, slot := 1, constantValue := 0 }, { name := "LOG2_ARRAY_BOOLEAN_INDEX_SCALE", type := .int, accessFlags := 25, slot := 2, constantValue := 0 }, { name := "LOG2_ARRAY_BYTE_INDEX_SCALE", type := .int, accessFlags := 25, slot := 3, constantValue := 0 }, { name := "LOG2_ARRAY_CHAR_INDEX_SCALE", type := .int, accessFlags := 25, slot := 4, constantValue := 0 }, { name := "LOG2_ARRAY_SHORT_INDEX_SCALE", type := .int, accessFlags := 25, slot := 5, constantValue := 0 }, { name := "LOG2_ARRAY_INT_INDEX_SCALE", type := .int, accessFlags := 25, slot := 6, constantValue := 0 }, { name := "LOG2_ARRAY_LONG_INDEX_SCALE", type := .int, accessFlags := 25, slot := 7, constantValue := 0 }, { name := "LOG2_ARRAY_FLOAT_INDEX_SCALE", type := .int, accessFlags := 25, slot := 8, constantValue := 0 }, { name := "LOG2_ARRAY_DOUBLE_INDEX_SCALE", type := .int, accessFlags := 25, slot := 9, constantValue := 0 }, { name := "LOG2_BYTE_BIT_SIZE", type := .int, accessFlags := 26, slot := 10, constantValue := 0 }, { name := "T_BOOLEAN", type := .int, accessFlags := 25, slot := 11, constantValue := 0 }, { name := "T_CHAR", type := .int, accessFlags := 25, slot := 12, constantValue := 0 }, { name := "T_FLOAT", type := .int, accessFlags := 25, slot := 13, constantValue := 0 }, { name := "T_DOUBLE", type := .int, accessFlags := 25, slot := 14, constantValue := 0 }, { name := "T_BYTE", type := .int, accessFlags := 25, slot := 15, constantValue := 0 }, { name := "T_SHORT", type := .int, accessFlags := 25, slot := 16, constantValue := 0 }, { name := "T_INT", type := .int, accessFlags := 25, slot := 17, constantValue := 0 }, { name := "T_LONG", type := .int, accessFlags := 25, slot := 18, constantValue := 0 }, { name := "JLA", type := (.object "jdk/internal/access/JavaLangAccess"), accessFlags := 26, slot := 19, constantValue := 0 }, { name := "SOFT_MAX_ARRAY_LENGTH", type := .int, accessFlags := 25, slot := 20, constantValue := 0 }]
  methods := #[k13m0]
  instanceTypes := #[]
  staticTypes := #[(.object "jdk/internal/misc/Unsafe"), .boolean, .int, .int, .int, .int, .int, .int, .int, .int, .int, .int, .int, .int, .int, .int, .int, .int, .int, (.object "jdk/internal/access/JavaLangAccess"), .int]
  resolved := Array.replicate 378 none
  statics := none }

def pool14 : Array CpInfo := pool [(1, u "java/lang/Cloneable"), (0, .class_ 1), (0, u "java/lang/Object"), (0, .class_ 3)] 3

/-- java/lang/Cloneable -/
def k14 : Class := { plain "java/lang/Cloneable" (some 0) with
  accessFlags := 1537
  interfaces := #[]
  cf := some (fileOf pool14 2 #[] #[] 1537 4 #[] #[])
  fields := #[]
  methods := #[]
  instanceTypes := #[]
  staticTypes := #[]
  resolved := Array.replicate 8 none
  statics := none }

/-- the primitive byte -/
def k15 : Class := { plain "byte" none with kind := .primitive 'B', accessFlags := 0x411 }
/-- [B -/
def k16 : Class := { plain "[B" (some 0) with kind := .array 15 .byte, interfaces := #[14, 2], accessFlags := 1041 }

/-- the primitive char -/
def k17 : Class := { plain "char" none with kind := .primitive 'C', accessFlags := 0x411 }
/-- [C -/
def k18 : Class := { plain "[C" (some 0) with kind := .array 17 .char, interfaces := #[14, 2], accessFlags := 1041 }

/-- the primitive int -/
def k19 : Class := { plain "int" none with kind := .primitive 'I', accessFlags := 0x411 }
/-- [I -/
def k20 : Class := { plain "[I" (some 0) with kind := .array 19 .int, interfaces := #[14, 2], accessFlags := 1041 }

def heap : Heap := #[{ cls := 7, slots := #[.long 0, .int 1, .null, .int 0, .null, .int 0, .int 0], vm := .statics 7 },
  { cls := 11, slots := #[.int 0, .int 8, .int 0, .int 1], vm := .statics 11 },
  { cls := 12, slots := #[.null, .null, .null], vm := .statics 12 }]
def classes : Array Class := #[k0, k1, k2, k3, k4, k5, k6, k7, k8, k9, k10, k11, k12, k13, k14, k15, k16, k17, k18, k19, k20]
def interned : List (Array UInt16 × Addr) := []
def slotsUsed : Nat := 14
def theMethod : MethodId := ⟨1, 1⟩
def args0 : Array Value := #[.int 5, .int 5, .int 5, .int 5, .int 5]
def aboutOver (below : List Frame) : State where
  vm := { classes := classes, interned := interned.toArray }
  heap := heap
  slotsUsed := slotsUsed
  threads := #[{ frames := .invoking theMethod args0 :: below }]
def below0 : List Frame := [.native { method := ⟨0, 0⟩, args := #[] }]
def about1 : State := aboutOver below0
def p0 : Program := .bare "" "" ""
def e0 : Env := launch0.env 0 0 0
theorem w_frames : about1.frames = Frame.invoking theMethod args0 :: below0 := rfl
set_option maxRecDepth 65536 in
theorem w_args : argsFit about1.vm theMethod args0 = true := by decide +kernel
set_option maxRecDepth 65536 in
theorem w_heap : heapFits about1 = true := by decide +kernel
set_option maxRecDepth 65536 in
theorem w_runnable : about1.curStatus? = some .runnable := by decide +kernel
set_option maxRecDepth 65536 in
theorem w_alone : about1.alone = true := by decide +kernel
set_option maxRecDepth 65536 in
theorem w_named : about1.methodNamed? x = some theMethod := by decide +kernel
set_option maxRecDepth 65536 in
theorem w_hears : about1.hears theMethod below0 = true := by decide +kernel
set_option maxRecDepth 65536 in
theorem w_ripe : about1.ripe theMethod args0 below0 = true := by decide +kernel
theorem w_running : about1.status = .running := rfl
set_option maxRecDepth 65536 in
theorem w_room : about1.hasRoom e0.platform room_1 = true :=
  launch0.hasRoom_least _ room_1 (by decide +kernel) (by decide +kernel) (by decide +kernel) (by decide +kernel) (by decide +kernel) (by decide +kernel)
theorem allAtoms_all (ts : List Jvm.Cond) (a : Array Jvm.Value) (st : Jvm.State) : (allAtoms ts).before a st = ts.all (fun c => c.before a st) := by
  induction ts with
  | nil => rfl
  | cons c t ih =>
    show (Jvm.Cond.and c (allAtoms t)).before a st = _
    rw [Jvm.Cond.before_and, ih, List.all_cons]
def words1 : List Jvm.Cond := Jvm.Cond.code x code maxLocals ret :: tables_1
/-- a 'code' word, met by the world's own term for the bytes: nothing is compared byte by byte -/
theorem code_word {y : MethodName} {bytes : ByteArray} {mx : Nat} {rt : Option FieldType} {a : Array Value} {s : State} {m : MethodId} {meth : Method} {c : Code} (h1 : s.methodNamed? y = some m) (h2 : s.vm.method? m = some meth) (h3 : meth.code = some c) (h4 : c.code = bytes)
    (h5 : (c.maxLocals == mx && c.exceptionTable.isEmpty && decide (c.maxStack ≤ mostOperands) && decide (meth.sig.returnType = rt) && !meth.locks && decide (parseMethodDescriptor y.desc = some meth.sig)) = true) : (Jvm.Cond.code y bytes mx rt).before a s = true := by
  simp only [Bool.and_eq_true, beq_iff_eq, Bool.not_eq_true', decide_eq_true_eq] at h5
  obtain ⟨⟨⟨⟨⟨g1, g2⟩, g3⟩, g4⟩, g5⟩, g6⟩ := h5
  simp [Cond.before, Cond.holds, Cond.value, h1, h2, h3, h4, g1, g2, g3, g4, g5, g6]
def isCode : Jvm.Cond → Bool
  | .code _ _ _ _ => true
  | _ => false
theorem all_split {L : List Jvm.Cond} {P : Jvm.Cond → Bool} (h1 : L.all (fun c => isCode c || P c) = true) (h2 : ∀ c ∈ L.filter isCode, P c = true) : L.all P = true := by
  refine List.all_eq_true.mpr fun c hc => ?_
  have h := List.all_eq_true.mp h1 c hc
  rcases Bool.eq_false_or_eq_true (isCode c) with hi | hi
  · exact h2 c (List.mem_filter.mpr ⟨hc, hi⟩)
  · simpa [hi] using h
set_option maxRecDepth 65536 in
theorem w_c0 : (Jvm.Cond.code x code maxLocals ret).before args0 about1 = true := code_word (m := ⟨1, 1⟩) (meth := k1m1) (c := k1c1) (by decide +kernel) rfl rfl rfl (by decide +kernel)
set_option maxRecDepth 65536 in
theorem w_c1 : (Jvm.Cond.code ({ cls := "com/example/corbel/corbel/util/AntPathMatcherIsPatternPinLaw", name := "pick", desc := "(I)C" } : Jvm.MethodName) method_3_code (2 : Nat) (Option.some Jvm.ClassFile.FieldType.char)).before args0 about1 = true := code_word (m := ⟨1, 2⟩) (meth := k1m2) (c := k1c2) (by decide +kernel) rfl rfl rfl (by decide +kernel)
set_option maxRecDepth 65536 in
theorem w_c2 : (Jvm.Cond.code ({ cls := "com/example/corbel/corbel/util/AntPathMatcherIsPatternPinLaw", name := "make", desc := "(ICCCC)Ljava/lang/String;" } : Jvm.MethodName) method_5_code (6 : Nat) (Option.some (Jvm.ClassFile.FieldType.object "java/lang/String"))).before args0 about1 = true := code_word (m := ⟨1, 4⟩) (meth := k1m4) (c := k1c4) (by decide +kernel) rfl rfl rfl (by decide +kernel)
set_option maxRecDepth 65536 in
theorem w_c3 : (Jvm.Cond.code ({ cls := "java/lang/String", name := "<init>", desc := "([C)V" } : Jvm.MethodName) jdk_42_method_3_code (2 : Nat) (Option.none : Option Jvm.ClassFile.FieldType)).before args0 about1 = true := code_word (m := ⟨7, 1⟩) (meth := k7m1) (c := k7c1) (by decide +kernel) rfl rfl rfl (by decide +kernel)
set_option maxRecDepth 65536 in
theorem w_c4 : (Jvm.Cond.code ({ cls := "java/lang/String", name := "<init>", desc := "([CIILjava/lang/Void;)V" } : Jvm.MethodName) jdk_42_method_149_code (6 : Nat) (Option.none : Option Jvm.ClassFile.FieldType)).before args0 about1 = true := code_word (m := ⟨7, 5⟩) (meth := k7m5) (c := k7c5) (by decide +kernel) rfl rfl rfl (by decide +kernel)
set_option maxRecDepth 65536 in
theorem w_c5 : (Jvm.Cond.code ({ cls := "java/lang/Object", name := "<init>", desc := "()V" } : Jvm.MethodName) object_method_1_code (1 : Nat) (Option.none : Option Jvm.ClassFile.FieldType)).before args0 about1 = true := code_word (m := ⟨0, 0⟩) (meth := k0m0) (c := k0c0) (by decide +kernel) rfl rfl rfl (by decide +kernel)
set_option maxRecDepth 65536 in
theorem w_c6 : (Jvm.Cond.code ({ cls := "com/example/corbel/corbel/util/AntPathMatcher", name := "<init>", desc := "()V" } : Jvm.MethodName) prog_56_method_1_code (1 : Nat) (Option.none : Option Jvm.ClassFile.FieldType)).before args0 about1 = true := code_word (m := ⟨8, 0⟩) (meth := k8m0) (c := k8c0) (by decide +kernel) rfl rfl rfl (by decide +kernel)
set_option maxRecDepth 65536 in
theorem w_c7 : (Jvm.Cond.code ({ cls := "com/example/corbel/corbel/util/AntPathMatcher", name := "isPattern", desc := "(Ljava/lang/String;)Z" } : Jvm.MethodName) prog_56_method_2_code (2 : Nat) (Option.some Jvm.ClassFile.FieldType.boolean)).before args0 about1 = true := code_word (m := ⟨8, 1⟩) (meth := k8m1) (c := k8c1) (by decide +kernel) rfl rfl rfl (by decide +kernel)
set_option maxRecDepth 65536 in
theorem w_c8 : (Jvm.Cond.code ({ cls := "java/lang/String", name := "indexOf", desc := "(I)I" } : Jvm.MethodName) jdk_42_method_79_code (2 : Nat) (Option.some Jvm.ClassFile.FieldType.int)).before args0 about1 = true := code_word (m := ⟨7, 3⟩) (meth := k7m3) (c := k7c3) (by decide +kernel) rfl rfl rfl (by decide +kernel)
set_option maxRecDepth 65536 in
theorem w_c9 : (Jvm.Cond.code ({ cls := "java/lang/String", name := "indexOf", desc := "(II)I" } : Jvm.MethodName) jdk_42_method_80_code (3 : Nat) (Option.some Jvm.ClassFile.FieldType.int)).before args0 about1 = true := code_word (m := ⟨7, 4⟩) (meth := k7m4) (c := k7c4) (by decide +kernel) rfl rfl rfl (by decide +kernel)
set_option maxRecDepth 65536 in
theorem w_c10 : (Jvm.Cond.code ({ cls := "java/lang/String", name := "isLatin1", desc := "()Z" } : Jvm.MethodName) jdk_42_method_154_code (1 : Nat) (Option.some Jvm.ClassFile.FieldType.boolean)).before args0 about1 = true := code_word (m := ⟨7, 7⟩) (meth := k7m7) (c := k7c7) (by decide +kernel) rfl rfl rfl (by decide +kernel)
set_option maxRecDepth 65536 in
theorem w_c11 : (Jvm.Cond.code ({ cls := "java/lang/String", name := "length", desc := "()I" } : Jvm.MethodName) jdk_42_method_54_code (1 : Nat) (Option.some Jvm.ClassFile.FieldType.int)).before args0 about1 = true := code_word (m := ⟨7, 2⟩) (meth := k7m2) (c := k7c2) (by decide +kernel) rfl rfl rfl (by decide +kernel)
set_option maxRecDepth 65536 in
theorem w_c12 : (Jvm.Cond.code ({ cls := "java/lang/String", name := "coder", desc := "()B" } : Jvm.MethodName) jdk_42_method_152_code (1 : Nat) (Option.some Jvm.ClassFile.FieldType.byte)).before args0 about1 = true := code_word (m := ⟨7, 6⟩) (meth := k7m6) (c := k7c6) (by decide +kernel) rfl rfl rfl (by decide +kernel)
set_option maxRecDepth 65536 in
theorem w_c13 : (Jvm.Cond.code ({ cls := "java/lang/StringLatin1", name := "indexOf", desc := "([BIII)I" } : Jvm.MethodName) jdk_43_method_22_code (4 : Nat) (Option.some Jvm.ClassFile.FieldType.int)).before args0 about1 = true := code_word (m := ⟨9, 2⟩) (meth := k9m2) (c := k9c2) (by decide +kernel) rfl rfl rfl (by decide +kernel)
set_option maxRecDepth 65536 in
theorem w_c14 : (Jvm.Cond.code ({ cls := "java/lang/StringLatin1", name := "canEncode", desc := "(I)Z" } : Jvm.MethodName) jdk_43_method_4_code (1 : Nat) (Option.some Jvm.ClassFile.FieldType.boolean)).before args0 about1 = true := code_word (m := ⟨9, 1⟩) (meth := k9m1) (c := k9c1) (by decide +kernel) rfl rfl rfl (by decide +kernel)
set_option maxRecDepth 65536 in
theorem w_c15 : (Jvm.Cond.code ({ cls := "java/lang/Math", name := "max", desc := "(II)I" } : Jvm.MethodName) jdk_29_method_65_code (2 : Nat) (Option.some Jvm.ClassFile.FieldType.int)).before args0 about1 = true := code_word (m := ⟨10, 1⟩) (meth := k10m1) (c := k10c1) (by decide +kernel) rfl rfl rfl (by decide +kernel)
set_option maxRecDepth 65536 in
theorem w_c16 : (Jvm.Cond.code ({ cls := "java/lang/Math", name := "min", desc := "(II)I" } : Jvm.MethodName) jdk_29_method_69_code (2 : Nat) (Option.some Jvm.ClassFile.FieldType.int)).before args0 about1 = true := code_word (m := ⟨10, 2⟩) (meth := k10m2) (c := k10c2) (by decide +kernel) rfl rfl rfl (by decide +kernel)
set_option maxRecDepth 65536 in
theorem w_c17 : (Jvm.Cond.code ({ cls := "java/lang/StringUTF16", name := "compress", desc := "([CII)[B" } : Jvm.MethodName) jdk_52_method_16_code (6 : Nat) (Option.some (Jvm.ClassFile.FieldType.array Jvm.ClassFile.FieldType.byte))).before args0 about1 = true := code_word (m := ⟨11, 8⟩) (meth := k11m8) (c := k11c8) (by decide +kernel) rfl rfl rfl (by decide +kernel)
set_option maxRecDepth 65536 in
theorem w_c18 : (Jvm.Cond.code ({ cls := "java/lang/StringUTF16", name := "compress", desc := "([CI[BII)I" } : Jvm.MethodName) jdk_52_method_21_code (7 : Nat) (Option.some Jvm.ClassFile.FieldType.int)).before args0 about1 = true := code_word (m := ⟨11, 9⟩) (meth := k11m9) (c := k11c9) (by decide +kernel) rfl rfl rfl (by decide +kernel)
set_option maxRecDepth 65536 in
theorem w_c19 : (Jvm.Cond.code ({ cls := "java/lang/StringUTF16", name := "coderFromArrayLen", desc := "([BI)B" } : Jvm.MethodName) jdk_52_method_15_code (2 : Nat) (Option.some Jvm.ClassFile.FieldType.byte)).before args0 about1 = true := code_word (m := ⟨11, 7⟩) (meth := k11m7) (c := k11c7) (by decide +kernel) rfl rfl rfl (by decide +kernel)
set_option maxRecDepth 65536 in
theorem w_c20 : (Jvm.Cond.code ({ cls := "com/example/corbel/corbel/util/AntPathMatcherIsPatternPinLaw", name := "wild", desc := "(C)Z" } : Jvm.MethodName) method_4_code (1 : Nat) (Option.some Jvm.ClassFile.FieldType.boolean)).before args0 about1 = true := code_word (m := ⟨1, 3⟩) (meth := k1m3) (c := k1c3) (by decide +kernel) rfl rfl rfl (by decide +kernel)
set_option maxRecDepth 65536 in
theorem w_c21 : (Jvm.Cond.code ({ cls := "java/lang/StringLatin1", name := "indexOfChar", desc := "([BIII)I" } : Jvm.MethodName) jdk_43_method_23_code (6 : Nat) (Option.some Jvm.ClassFile.FieldType.int)).before args0 about1 = true := code_word (m := ⟨9, 3⟩) (meth := k9m3) (c := k9c3) (by decide +kernel) rfl rfl rfl (by decide +kernel)
set_option maxRecDepth 65536 in
theorem w_c22 : (Jvm.Cond.code ({ cls := "java/lang/StringUTF16", name := "toBytes", desc := "([CII)[B" } : Jvm.MethodName) jdk_52_method_14_code (5 : Nat) (Option.some (Jvm.ClassFile.FieldType.array Jvm.ClassFile.FieldType.byte))).before args0 about1 = true := code_word (m := ⟨11, 6⟩) (meth := k11m6) (c := k11c6) (by decide +kernel) rfl rfl rfl (by decide +kernel)
set_option maxRecDepth 65536 in
theorem w_c23 : (Jvm.Cond.code ({ cls := "java/lang/StringUTF16", name := "newBytesFor", desc := "(I)[B" } : Jvm.MethodName) jdk_52_method_2_code (1 : Nat) (Option.some (Jvm.ClassFile.FieldType.array Jvm.ClassFile.FieldType.byte))).before args0 about1 = true := code_word (m := ⟨11, 1⟩) (meth := k11m1) (c := k11c1) (by decide +kernel) rfl rfl rfl (by decide +kernel)
set_option maxRecDepth 65536 in
theorem w_c24 : (Jvm.Cond.code ({ cls := "java/lang/StringUTF16", name := "newBytesLength", desc := "(I)I" } : Jvm.MethodName) jdk_52_method_3_code (1 : Nat) (Option.some Jvm.ClassFile.FieldType.int)).before args0 about1 = true := code_word (m := ⟨11, 2⟩) (meth := k11m2) (c := k11c2) (by decide +kernel) rfl rfl rfl (by decide +kernel)
set_option maxRecDepth 65536 in
theorem w_c25 : (Jvm.Cond.code ({ cls := "java/lang/StringUTF16", name := "putChar", desc := "([BII)V" } : Jvm.MethodName) jdk_52_method_4_code (3 : Nat) (Option.none : Option Jvm.ClassFile.FieldType)).before args0 about1 = true := code_word (m := ⟨11, 3⟩) (meth := k11m3) (c := k11c3) (by decide +kernel) rfl rfl rfl (by decide +kernel)
set_option maxRecDepth 65536 in
theorem w_c26 : (Jvm.Cond.code ({ cls := "java/lang/StringUTF16", name := "getChar", desc := "([BI)C" } : Jvm.MethodName) jdk_52_method_5_code (2 : Nat) (Option.some Jvm.ClassFile.FieldType.char)).before args0 about1 = true := code_word (m := ⟨11, 4⟩) (meth := k11m4) (c := k11c4) (by decide +kernel) rfl rfl rfl (by decide +kernel)
set_option maxRecDepth 65536 in
theorem w_c27 : (Jvm.Cond.code ({ cls := "java/lang/StringUTF16", name := "indexOf", desc := "([BIII)I" } : Jvm.MethodName) jdk_52_method_40_code (4 : Nat) (Option.some Jvm.ClassFile.FieldType.int)).before args0 about1 = true := code_word (m := ⟨11, 10⟩) (meth := k11m10) (c := k11c10) (by decide +kernel) rfl rfl rfl (by decide +kernel)
set_option maxRecDepth 65536 in
theorem w_c28 : (Jvm.Cond.code ({ cls := "java/lang/StringUTF16", name := "indexOfChar", desc := "([BIII)I" } : Jvm.MethodName) jdk_52_method_47_code (4 : Nat) (Option.some Jvm.ClassFile.FieldType.int)).before args0 about1 = true := code_word (m := ⟨11, 11⟩) (meth := k11m11) (c := k11c11) (by decide +kernel) rfl rfl rfl (by decide +kernel)
set_option maxRecDepth 65536 in
theorem w_c29 : (Jvm.Cond.code ({ cls := "java/lang/StringUTF16", name := "checkBoundsBeginEnd", desc := "(II[B)V" } : Jvm.MethodName) jdk_52_method_93_code (3 : Nat) (Option.none : Option Jvm.ClassFile.FieldType)).before args0 about1 = true := code_word (m := ⟨11, 13⟩) (meth := k11m13) (c := k11c13) (by decide +kernel) rfl rfl rfl (by decide +kernel)
set_option maxRecDepth 65536 in
theorem w_c30 : (Jvm.Cond.code ({ cls := "java/lang/StringUTF16", name := "length", desc := "([B)I" } : Jvm.MethodName) jdk_52_method_6_code (1 : Nat) (Option.some Jvm.ClassFile.FieldType.int)).before args0 about1 = true := code_word (m := ⟨11, 5⟩) (meth := k11m5) (c := k11c5) (by decide +kernel) rfl rfl rfl (by decide +kernel)
set_option maxRecDepth 65536 in
theorem w_c31 : (Jvm.Cond.code ({ cls := "java/lang/String", name := "checkBoundsBeginEnd", desc := "(III)V" } : Jvm.MethodName) jdk_42_method_158_code (3 : Nat) (Option.none : Option Jvm.ClassFile.FieldType)).before args0 about1 = true := code_word (m := ⟨7, 8⟩) (meth := k7m8) (c := k7c8) (by decide +kernel) rfl rfl rfl (by decide +kernel)
set_option maxRecDepth 65536 in
theorem w_c32 : (Jvm.Cond.code ({ cls := "jdk/internal/util/Preconditions", name := "checkFromToIndex", desc := "(IIILjava/util/function/BiFunction;)I" } : Jvm.MethodName) jdk_41_method_12_code (4 : Nat) (Option.some Jvm.ClassFile.FieldType.int)).before args0 about1 = true := code_word (m := ⟨12, 1⟩) (meth := k12m1) (c := k12c1) (by decide +kernel) rfl rfl rfl (by decide +kernel)
set_option maxRecDepth 65536 in
theorem w_c33 : (Jvm.Cond.code ({ cls := "java/lang/StringUTF16", name := "indexOfCharUnsafe", desc := "([BIII)I" } : Jvm.MethodName) jdk_52_method_48_code (5 : Nat) (Option.some Jvm.ClassFile.FieldType.int)).before args0 about1 = true := code_word (m := ⟨11, 12⟩) (meth := k11m12) (c := k11c12) (by decide +kernel) rfl rfl rfl (by decide +kernel)
def codes1 : List Jvm.Cond := [Jvm.Cond.code x code maxLocals ret, Jvm.Cond.code ({ cls := "com/example/corbel/corbel/util/AntPathMatcherIsPatternPinLaw", name := "pick", desc := "(I)C" } : Jvm.MethodName) method_3_code (2 : Nat) (Option.some Jvm.ClassFile.FieldType.char), Jvm.Cond.code ({ cls := "com/example/corbel/corbel/util/AntPathMatcherIsPatternPinLaw", name := "make", desc := "(ICCCC)Ljava/lang/String;" } : Jvm.MethodName) method_5_code (6 : Nat) (Option.some (Jvm.ClassFile.FieldType.object "java/lang/String")), Jvm.Cond.code ({ cls := "java/lang/String", name := "<init>", desc := "([C)V" } : Jvm.MethodName) jdk_42_method_3_code (2 : Nat) (Option.none : Option Jvm.ClassFile.FieldType), Jvm.Cond.code ({ cls := "java/lang/String", name := "<init>", desc := "([CIILjava/lang/Void;)V" } : Jvm.MethodName) jdk_42_method_149_code (6 : Nat) (Option.none : Option Jvm.ClassFile.FieldType), Jvm.Cond.code ({ cls := "java/lang/Object", name := "<init>", desc := "()V" } : Jvm.MethodName) object_method_1_code (1 : Nat) (Option.none : Option Jvm.ClassFile.FieldType), Jvm.Cond.code ({ cls := "com/example/corbel/corbel/util/AntPathMatcher", name := "<init>", desc := "()V" } : Jvm.MethodName) prog_56_method_1_code (1 : Nat) (Option.none : Option Jvm.ClassFile.FieldType), Jvm.Cond.code ({ cls := "com/example/corbel/corbel/util/AntPathMatcher", name := "isPattern", desc := "(Ljava/lang/String;)Z" } : Jvm.MethodName) prog_56_method_2_code (2 : Nat) (Option.some Jvm.ClassFile.FieldType.boolean), Jvm.Cond.code ({ cls := "java/lang/String", name := "indexOf", desc := "(I)I" } : Jvm.MethodName) jdk_42_method_79_code (2 : Nat) (Option.some Jvm.ClassFile.FieldType.int), Jvm.Cond.code ({ cls := "java/lang/String", name := "indexOf", desc := "(II)I" } : Jvm.MethodName) jdk_42_method_80_code (3 : Nat) (Option.some Jvm.ClassFile.FieldType.int), Jvm.Cond.code ({ cls := "java/lang/String", name := "isLatin1", desc := "()Z" } : Jvm.MethodName) jdk_42_method_154_code (1 : Nat) (Option.some Jvm.ClassFile.FieldType.boolean), Jvm.Cond.code ({ cls := "java/lang/String", name := "length", desc := "()I" } : Jvm.MethodName) jdk_42_method_54_code (1 : Nat) (Option.some Jvm.ClassFile.FieldType.int), Jvm.Cond.code ({ cls := "java/lang/String", name := "coder", desc := "()B" } : Jvm.MethodName) jdk_42_method_152_code (1 : Nat) (Option.some Jvm.ClassFile.FieldType.byte), Jvm.Cond.code ({ cls := "java/lang/StringLatin1", name := "indexOf", desc := "([BIII)I" } : Jvm.MethodName) jdk_43_method_22_code (4 : Nat) (Option.some Jvm.ClassFile.FieldType.int), Jvm.Cond.code ({ cls := "java/lang/StringLatin1", name := "canEncode", desc := "(I)Z" } : Jvm.MethodName) jdk_43_method_4_code (1 : Nat) (Option.some Jvm.ClassFile.FieldType.boolean), Jvm.Cond.code ({ cls := "java/lang/Math", name := "max", desc := "(II)I" } : Jvm.MethodName) jdk_29_method_65_code (2 : Nat) (Option.some Jvm.ClassFile.FieldType.int), Jvm.Cond.code ({ cls := "java/lang/Math", name := "min", desc := "(II)I" } : Jvm.MethodName) jdk_29_method_69_code (2 : Nat) (Option.some Jvm.ClassFile.FieldType.int), Jvm.Cond.code ({ cls := "java/lang/StringUTF16", name := "compress", desc := "([CII)[B" } : Jvm.MethodName) jdk_52_method_16_code (6 : Nat) (Option.some (Jvm.ClassFile.FieldType.array Jvm.ClassFile.FieldType.byte)), Jvm.Cond.code ({ cls := "java/lang/StringUTF16", name := "compress", desc := "([CI[BII)I" } : Jvm.MethodName) jdk_52_method_21_code (7 : Nat) (Option.some Jvm.ClassFile.FieldType.int), Jvm.Cond.code ({ cls := "java/lang/StringUTF16", name := "coderFromArrayLen", desc := "([BI)B" } : Jvm.MethodName) jdk_52_method_15_code (2 : Nat) (Option.some Jvm.ClassFile.FieldType.byte), Jvm.Cond.code ({ cls := "com/example/corbel/corbel/util/AntPathMatcherIsPatternPinLaw", name := "wild", desc := "(C)Z" } : Jvm.MethodName) method_4_code (1 : Nat) (Option.some Jvm.ClassFile.FieldType.boolean), Jvm.Cond.code ({ cls := "java/lang/StringLatin1", name := "indexOfChar", desc := "([BIII)I" } : Jvm.MethodName) jdk_43_method_23_code (6 : Nat) (Option.some Jvm.ClassFile.FieldType.int), Jvm.Cond.code ({ cls := "java/lang/StringUTF16", name := "toBytes", desc := "([CII)[B" } : Jvm.MethodName) jdk_52_method_14_code (5 : Nat) (Option.some (Jvm.ClassFile.FieldType.array Jvm.ClassFile.FieldType.byte)), Jvm.Cond.code ({ cls := "java/lang/StringUTF16", name := "newBytesFor", desc := "(I)[B" } : Jvm.MethodName) jdk_52_method_2_code (1 : Nat) (Option.some (Jvm.ClassFile.FieldType.array Jvm.ClassFile.FieldType.byte)), Jvm.Cond.code ({ cls := "java/lang/StringUTF16", name := "newBytesLength", desc := "(I)I" } : Jvm.MethodName) jdk_52_method_3_code (1 : Nat) (Option.some Jvm.ClassFile.FieldType.int), Jvm.Cond.code ({ cls := "java/lang/StringUTF16", name := "putChar", desc := "([BII)V" } : Jvm.MethodName) jdk_52_method_4_code (3 : Nat) (Option.none : Option Jvm.ClassFile.FieldType), Jvm.Cond.code ({ cls := "java/lang/StringUTF16", name := "getChar", desc := "([BI)C" } : Jvm.MethodName) jdk_52_method_5_code (2 : Nat) (Option.some Jvm.ClassFile.FieldType.char), Jvm.Cond.code ({ cls := "java/lang/StringUTF16", name := "indexOf", desc := "([BIII)I" } : Jvm.MethodName) jdk_52_method_40_code (4 : Nat) (Option.some Jvm.ClassFile.FieldType.int), Jvm.Cond.code ({ cls := "java/lang/StringUTF16", name := "indexOfChar", desc := "([BIII)I" } : Jvm.MethodName) jdk_52_method_47_code (4 : Nat) (Option.some Jvm.ClassFile.FieldType.int), Jvm.Cond.code ({ cls := "java/lang/StringUTF16", name := "checkBoundsBeginEnd", desc := "(II[B)V" } : Jvm.MethodName) jdk_52_method_93_code (3 : Nat) (Option.none : Option Jvm.ClassFile.FieldType), Jvm.Cond.code ({ cls := "java/lang/StringUTF16", name := "length", desc := "([B)I" } : Jvm.MethodName) jdk_52_method_6_code (1 : Nat) (Option.some Jvm.ClassFile.FieldType.int), Jvm.Cond.code ({ cls := "java/lang/String", name := "checkBoundsBeginEnd", desc := "(III)V" } : Jvm.MethodName) jdk_42_method_158_code (3 : Nat) (Option.none : Option Jvm.ClassFile.FieldType), Jvm.Cond.code ({ cls := "jdk/internal/util/Preconditions", name := "checkFromToIndex", desc := "(IIILjava/util/function/BiFunction;)I" } : Jvm.MethodName) jdk_41_method_12_code (4 : Nat) (Option.some Jvm.ClassFile.FieldType.int), Jvm.Cond.code ({ cls := "java/lang/StringUTF16", name := "indexOfCharUnsafe", desc := "([BIII)I" } : Jvm.MethodName) jdk_52_method_48_code (5 : Nat) (Option.some Jvm.ClassFile.FieldType.int)]
set_option maxRecDepth 65536 in
theorem codes_eq : words1.filter isCode = codes1 := rfl
theorem w_codes : ∀ c ∈ words1.filter isCode, c.before args0 about1 = true := by
  rw [codes_eq]
  intro c hc
  simp only [codes1, List.mem_cons, List.not_mem_nil, or_false] at hc
  rcases hc with rfl | rfl | rfl | rfl | rfl | rfl | rfl | rfl | rfl | rfl | rfl | rfl | rfl | rfl | rfl | rfl | rfl | rfl | rfl | rfl | rfl | rfl | rfl | rfl | rfl | rfl | rfl | rfl | rfl | rfl | rfl | rfl | rfl | rfl
  · exact w_c0
  · exact w_c1
  · exact w_c2
  · exact w_c3
  · exact w_c4
  · exact w_c5
  · exact w_c6
  · exact w_c7
  · exact w_c8
  · exact w_c9
  · exact w_c10
  · exact w_c11
  · exact w_c12
  · exact w_c13
  · exact w_c14
  · exact w_c15
  · exact w_c16
  · exact w_c17
  · exact w_c18
  · exact w_c19
  · exact w_c20
  · exact w_c21
  · exact w_c22
  · exact w_c23
  · exact w_c24
  · exact w_c25
  · exact w_c26
  · exact w_c27
  · exact w_c28
  · exact w_c29
  · exact w_c30
  · exact w_c31
  · exact w_c32
  · exact w_c33
set_option maxRecDepth 65536 in
theorem w_t1 : (words1.take 24).all (fun c => isCode c || c.before args0 about1) = true := by decide +kernel
set_option maxRecDepth 65536 in
theorem w_t2 : ((words1.drop 24).take 24).all (fun c => isCode c || c.before args0 about1) = true := by decide +kernel
set_option maxRecDepth 65536 in
theorem w_t3 : (((words1.drop 24).drop 24).take 24).all (fun c => isCode c || c.before args0 about1) = true := by decide +kernel
set_option maxRecDepth 65536 in
theorem w_t4 : ((((words1.drop 24).drop 24).drop 24).take 24).all (fun c => isCode c || c.before args0 about1) = true := by decide +kernel
set_option maxRecDepth 65536 in
theorem w_t5 : (((((words1.drop 24).drop 24).drop 24).drop 24).take 24).all (fun c => isCode c || c.before args0 about1) = true := by decide +kernel
set_option maxRecDepth 65536 in
theorem w_t6 : (((((words1.drop 24).drop 24).drop 24).drop 24).drop 24).all (fun c => isCode c || c.before args0 about1) = true := by decide +kernel
theorem w_tables : (allAtoms (Jvm.Cond.code x code maxLocals ret :: tables_1)).before args0 about1 = true := by
  rw [allAtoms_all]
  show words1.all (fun c => c.before args0 about1) = true
  refine all_split ?_ w_codes
  rw [← List.take_append_drop 24 words1, List.all_append, w_t1, ← List.take_append_drop 24 (words1.drop 24), List.all_append, w_t2, ← List.take_append_drop 24 ((words1.drop 24).drop 24), List.all_append, w_t3, ← List.take_append_drop 24 (((words1.drop 24).drop 24).drop 24), List.all_append, w_t4, ← List.take_append_drop 24 ((((words1.drop 24).drop 24).drop 24).drop 24), List.all_append, w_t5, w_t6]
  rfl
set_option maxRecDepth 65536 in
theorem w_rest : rest_1_c.before args0 about1 = true := by decide +kernel
set_option maxRecDepth 65536 in
theorem w_case : (Jvm.Cond.and given_1 narrow_1).before args0 about1 = true := by decide +kernel
set_option maxRecDepth 65536 in
theorem w_consts : constsHeld consts_1 about1 := Jvm.Lit.constsHeldB_iff.mp (by decide +kernel)
theorem w_applies : (headSpec (Jvm.Cond.code x code maxLocals ret :: tables_1) room_1).applies x e0.platform about1 = true :=
  (Spec.applies_iff w_frames).mpr ⟨w_running, w_runnable, w_alone, w_named, w_hears, w_ripe, w_room, w_tables⟩
theorem atStart : AtStart classFile x code maxLocals ret World_1 tables_1 room_1 Calls_1 rest_1 Pre_1 launch0 p0 e0 about1 theMethod args0 below0 :=
  ⟨lists_1, trivial, launch0.admits_env _ _ _, launch0.least_env, fairChoices_fair.cas, fairChoices_fair.clock, w_frames, w_args, w_heap, w_applies, ⟨w_consts, trivial⟩, w_rest, w_case⟩
end start1
theorem witness_1 : WitnessClaimed_1 := ⟨start1.p0, start1.e0, start1.about1, start1.theMethod, start1.args0, start1.below0, start1.atStart⟩
end Jvm.Pilot.@@N@@
