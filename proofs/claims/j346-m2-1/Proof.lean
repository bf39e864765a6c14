import JvmDerived
import JvmDerived.Pilot.@@N@@Statement
import JvmDerived.Pilot.@@N@@Code
set_option linter.unusedVariables false
set_option linter.unusedSimpArgs false
namespace Jvm.Own
open Sem ClassFile Op Lib
/-- what is known of the frames below (here: nothing is asked) -/
def Kn (_ : Vm) (_ : List Frame) : Prop := True
theorem Kn.alike {vm vm' : Vm} {fs : List Frame} (_ : Kn vm fs) (_ : vm.Alike vm') : Kn vm' fs := trivial
theorem Kn.push {vm : Vm} {fs : List Frame} (_ : Kn vm fs) {g : JFrame} {meth : Method} (_ : vm.method? g.method = some meth) : Kn vm (.java g :: fs) := trivial
end Jvm.Own
namespace Jvm.RoadKit
theorem Keep.mono {h h' : Heap} {ws ws' : List Addr} (K : Keep h h' ws) (q : ∀ x ∈ ws, x ∈ ws') : Keep h h' ws' := ⟨K.1, fun x c h1 h2 => K.2.1 x c h1 fun z => h2 (q x z), K.2.2⟩
end Jvm.RoadKit
namespace Jvm.Own
open Sem ClassFile Op Lib Jvm.Stand Jvm.Free Jvm.LawKit Jvm.RoadKit
/-! A walk in continuation form, over the library's Stand, RoadKit and the cold laws (RW10): 'Run' says: from here the invocation ends as Q says. -/
abbrev Lits := Option (List (String × Addr))
/-- the intern table: the start's pairs, and pairs whose text and place are among Ls (none: nothing is said) -/
def Itn (Z : State) (vm : Vm) (Ls : Lits) : Prop := ∀ lt, Ls = some lt → ∃ more : Array (Array UInt16 × Addr), vm.interned = Z.vm.interned ++ more ∧ ∀ q ∈ more, ∃ t ∈ lt, utf16ToString? q.1 = some t.1 ∧ q.2 = t.2
theorem Itn.start (Z : State) : Itn Z Z.vm (some []) := fun lt hl => ⟨#[], by simp, fun q hq => by simp at hq⟩
theorem Itn.nothing (Z : State) (vm : Vm) : Itn Z vm none := fun lt hl => nomatch hl
theorem Itn.eq {Z : State} {vm vm' : Vm} {Ls : Lits} (I : Itn Z vm Ls) (h : vm'.interned = vm.interned) : Itn Z vm' Ls := fun lt hl => by
  obtain ⟨more, h1, h2⟩ := I lt hl
  exact ⟨more, h.trans h1, h2⟩
def Done (Z : State) (n0 : Nat) (R : Room) (s : State) (Q : Option Value → Heap → Lits → Prop) (o : Outcome) (u : State) : Prop :=
  ∃ (v : Option Value) (L : List Loc) (Ls : Lits), o = .returned v ∧ Q v u.heap Ls ∧ Old Z n0 u.heap ∧ Itn Z u.vm Ls ∧ Fr n0 L ∧ ReturnedEndW s o u L R.cells R.slots
def WS (Z : State) (n0 : Nat) (p : Program) (l : Launch) (e : Env) (R : Room) (s : State) (own : String) (m : MethodId) (args : Array Value) (below : List Frame) (meth : Method) (c : Code) (h : Heap) (k n : Nat) (Ls : Lits) (T : State) : Prop :=
  ∃ (vm0 : Vm) (locs : List Loc) (k0 : Nat), Stand p l e R (s.setVm vm0) m args below meth c T locs k n ∧ T.heap = h ∧ s.Since vm0 k0 ∧ k0 ≤ h.size ∧ Z.Warmed39 (s.setVm vm0).vm ∧ (s.setVm vm0).vm.findClass own = some m.cls ∧ Fr n0 locs ∧ Old Z n0 h ∧ Itn Z vm0 Ls ∧ Kn s.vm below
def Run (Z : State) (n0 : Nat) (p : Program) (l : Launch) (e : Env) (R : Room) (s : State) (own : String) (m : MethodId) (args : Array Value) (below : List Frame) (meth : Method) (c : Code) (Q : Option Value → Heap → Lits → Prop) (h : Heap) (k n : Nat) (Ls : Lits) (pc : Nat) (L : List Slot) (st : List Value) : Prop :=
  ∀ T, WS Z n0 p l e R s own m args below meth c h k n Ls T → ∃ u o, Steps p.tables e below (T.setTop (mkF m pc L.toArray st)) u ∧ u.status = .running ∧ Ended u below o ∧ Done Z n0 R s Q o u
/-- what the method is -/
def Fx (p : Program) (c : Code) (meth : Method) (bytes : ByteArray) (ml : Nat) (ret : Option FieldType) (nm : String) : Prop :=
  p.tables.exec = Jvm.exec ∧ c.code = bytes ∧ c.maxLocals = ml ∧ meth.sig.returnType = ret ∧ meth.locks = false ∧ meth.name = nm
def Dc (bytes : ByteArray) (pc : Nat) (i : Instr) (len nx : Nat) : Prop := decode bytes pc = .ok (i, len) ∧ pc + len = nx
abbrev RV (Q : Value → Heap → Lits → Prop) : Option Value → Heap → Lits → Prop := fun v h Ls => ∃ w, v = some w ∧ Q w h Ls
abbrev RN (Q : Heap → Lits → Prop) : Option Value → Heap → Lits → Prop := fun v h Ls => v = none ∧ Q h Ls
def Con (l : Launch) (Z : State) (n0 : Nat) (y : MethodName) (bytes : ByteArray) (ml : Nat) (ret : Option FieldType) (rm : Room) (as : List Value) (h : Heap) (Ls : Lits) (ws : List Cond) (Q : Option Value → Heap → Lits → Prop) : Prop :=
  MetFree l y (head1 (Cond.code y bytes ml ret :: ws) rm) (fun a U => a = as.toArray ∧ Z.Warmed39 U.vm ∧ U.heap = h ∧ Itn Z U.vm Ls) (fun _ _ below U _ => Kn U.vm below) (fun _ U o U' => Done Z n0 rm U Q o U')
def okSlot : Slot → Bool
  | .unset => true
  | .val v => v.category == 1
  | _ => false
theorem okSlot.one {o : Slot} (h : okSlot o = true) : o = .unset ∨ ∃ w, o = .val w ∧ w.category = 1 := by
  cases o with
  | unset => exact Or.inl rfl
  | val v => exact Or.inr ⟨v, rfl, by simpa [okSlot] using h⟩
  | second => simp [okSlot] at h
section Laws
variable {Z : State} {n0 : Nat} {p : Program} {l : Launch} {e : Env} {R : Room} {s : State} {own : String} {m : MethodId} {args : Array Value} {below : List Frame} {meth : Method} {c : Code} {Q : Option Value → Heap → Lits → Prop} {h : Heap} {k n : Nat} {Ls : Lits} {pc nx : Nat} {L : List Slot} {st : List Value}
variable {bytes : ByteArray} {ml : Nat} {ret : Option FieldType} {nm : String} {a0 : Array Value}
theorem Con.of_run {y : MethodName} {rm : Room} {as : List Value} {ws : List Cond} (hpl : plainFor y = true) (hO : Old Z n0 h)
    (body : ∀ (p : Program) (e : Env) (s : State) (m : MethodId) (below : List Frame) (meth : Method) (c : Code), Fx p c meth bytes ml ret y.name → s.heap = h → ∃ L0, entryFrame m as.toArray ml = mkF m 0 L0.toArray [] ∧ Run Z n0 p l e rm s y.cls m as.toArray below meth c Q h 0 0 Ls 0 L0 []) :
    Con l Z n0 y bytes ml ret rm as h Ls ws Q := by
  refine MetFree.of_bodySF hpl hisR ?_
  intro p e s m args below meth c s₁ Bd hml0 hP hK
  obtain ⟨rfl, hZ, hh, hI⟩ := hP
  have hnm := (name_of_methodNamed Bd.named Bd.method).1
  have X0 : Stand p l e rm s m as.toArray below meth c s₁ [] 0 0 := Stand.of_body Bd
  have e0 : s₁.heap = h := by rw [← hh, Bd.state]; rfl
  obtain ⟨L0, ef, hrun⟩ := body p e s m below meth c ⟨Bd.exec, Bd.bytes, hml0, Bd.returns, Bd.notSynchronized, hnm⟩ hh
  obtain ⟨u, o, st, r1, r2, r3⟩ := hrun s₁ ⟨s.vm, [], h.size, X0, e0, State.WarmedH.since (State.WarmedH.refl s) _, Nat.le_refl _, hZ, findClass_of_methodNamed Bd.named, Fr.nil n0, hO, hI, hK⟩
  exact ⟨u, o, castTop ef st, r1, r2, r3⟩
theorem Run.pure {pc' : Nat} {L' : List Slot} {st' : List Value} (H : ∀ T u, At T m c below → Steps p.tables e below (T.setTop (mkF m pc' L'.toArray st')) u → Steps p.tables e below (T.setTop (mkF m pc L.toArray st)) u)
    (K : Run Z n0 p l e R s own m args below meth c Q h k n Ls pc' L' st') : Run Z n0 p l e R s own m args below meth c Q h k n Ls pc L st := fun T W => by
  obtain ⟨u, o, a, r⟩ := K T W
  obtain ⟨vm0, locs, k0, X, -⟩ := W
  exact ⟨u, o, H T u X.here a, r⟩
theorem Run.still {pc' : Nat} {L' : List Slot} {st' : List Value} (H : ∀ T vm0 locs, Stand p l e R (s.setVm vm0) m args below meth c T locs k n → T.heap = h → Z.Warmed39 (s.setVm vm0).vm → (s.setVm vm0).vm.findClass own = some m.cls → ∀ u, Steps p.tables e below (T.setTop (mkF m pc' L'.toArray st')) u → Steps p.tables e below (T.setTop (mkF m pc L.toArray st)) u)
    (K : Run Z n0 p l e R s own m args below meth c Q h k n Ls pc' L' st') : Run Z n0 p l e R s own m args below meth c Q h k n Ls pc L st := fun T W => by
  obtain ⟨u, o, a, r⟩ := K T W
  obtain ⟨vm0, locs, k0, X, eT, -, -, hZ, hown, -⟩ := W
  exact ⟨u, o, H T vm0 locs X eT hZ hown u a, r⟩
theorem getL {L : List Slot} {i : Nat} {x : Slot} (h : L[i]? = some x) : L.toArray[i]? = some x := by simpa using h
theorem setL {L : List Slot} {i : Nat} {v : Value} (ho : (L[i]?.map okSlot) = some true) (hv : v.category = 1) : storeLocals L.toArray i v = some (L.set i (.val v)).toArray := by
  cases hq : L[i]? with
  | none => simp [hq] at ho
  | some o =>
    rw [XS.store1 (getL hq) (okSlot.one (by simpa [hq] using ho)) hv]
    simp
theorem hbD (F : Fx p c meth bytes ml ret nm) {i : Instr} {len : Nat} (d : Dc bytes pc i len nx) : decode c.code pc = .ok (i, len) := by rw [F.2.1]; exact d.1
/-! single steps -/
theorem Run.iloadN (F : Fx p c meth bytes ml ret nm) {i : Fin 4} {v : Int32} (d : Dc bytes pc (.iload_n i) 1 nx) (hl : L[i.val]? = some (.val (.int v)))
    (K : Run Z n0 p l e R s own m args below meth c Q h k n Ls nx L (.int v :: st)) : Run Z n0 p l e R s own m args below meth c Q h k n Ls pc L st := by
  have hd := hbD F d; obtain ⟨-, rfl⟩ := d
  exact Run.pure (fun T u hA s => XS.iloadN (g := mkF m pc L.toArray st) hA F.1 rfl hd (getL hl) s) K
theorem Run.iload (F : Fx p c meth bytes ml ret nm) {i : Nat} {v : Int32} (d : Dc bytes pc (.iload i) 2 nx) (hl : L[i]? = some (.val (.int v)))
    (K : Run Z n0 p l e R s own m args below meth c Q h k n Ls nx L (.int v :: st)) : Run Z n0 p l e R s own m args below meth c Q h k n Ls pc L st := by
  have hd := hbD F d; obtain ⟨-, rfl⟩ := d
  exact Run.pure (fun T u hA s => XS.iload (g := mkF m pc L.toArray st) hA F.1 rfl hd (getL hl) s) K
theorem Run.aloadN (F : Fx p c meth bytes ml ret nm) {i : Fin 4} {v : Value} (d : Dc bytes pc (.aload_n i) 1 nx) (hl : L[i.val]? = some (.val v)) (hv : v.isRef = true)
    (K : Run Z n0 p l e R s own m args below meth c Q h k n Ls nx L (v :: st)) : Run Z n0 p l e R s own m args below meth c Q h k n Ls pc L st := by
  have hd := hbD F d; obtain ⟨-, rfl⟩ := d
  exact Run.pure (fun T u hA s => XS.aloadN (g := mkF m pc L.toArray st) hA F.1 rfl hd (getL hl) hv s) K
theorem Run.aload (F : Fx p c meth bytes ml ret nm) {i : Nat} {v : Value} (d : Dc bytes pc (.aload i) 2 nx) (hl : L[i]? = some (.val v)) (hv : v.isRef = true)
    (K : Run Z n0 p l e R s own m args below meth c Q h k n Ls nx L (v :: st)) : Run Z n0 p l e R s own m args below meth c Q h k n Ls pc L st := by
  have hd := hbD F d; obtain ⟨-, rfl⟩ := d
  exact Run.pure (fun T u hA s => XS.aload (g := mkF m pc L.toArray st) hA F.1 rfl hd (getL hl) hv s) K
theorem Run.istoreN (F : Fx p c meth bytes ml ret nm) {i : Fin 4} {v : Int32} (d : Dc bytes pc (.istore_n i) 1 nx) (ho : (L[i.val]?.map okSlot) = some true)
    (K : Run Z n0 p l e R s own m args below meth c Q h k n Ls nx (L.set i.val (.val (.int v))) st) : Run Z n0 p l e R s own m args below meth c Q h k n Ls pc L (.int v :: st) := by
  have hd := hbD F d; obtain ⟨-, rfl⟩ := d
  exact Run.pure (fun T u hA s => XS.istoreN (g := mkF m pc L.toArray (.int v :: st)) hA F.1 rfl hd rfl (setL ho rfl) s) K
theorem Run.istore (F : Fx p c meth bytes ml ret nm) {i : Nat} {v : Int32} (d : Dc bytes pc (.istore i) 2 nx) (ho : (L[i]?.map okSlot) = some true)
    (K : Run Z n0 p l e R s own m args below meth c Q h k n Ls nx (L.set i (.val (.int v))) st) : Run Z n0 p l e R s own m args below meth c Q h k n Ls pc L (.int v :: st) := by
  have hd := hbD F d; obtain ⟨-, rfl⟩ := d
  exact Run.pure (fun T u hA s => XS.istore (g := mkF m pc L.toArray (.int v :: st)) hA F.1 rfl hd rfl (setL ho rfl) s) K
theorem cat_ref {v : Value} (hv : v.isRef = true) : v.category = 1 := by rcases ref_cases hv with rfl | ⟨a, rfl⟩ <;> rfl
theorem Run.astoreN (F : Fx p c meth bytes ml ret nm) {i : Fin 4} {v : Value} (d : Dc bytes pc (.astore_n i) 1 nx) (ho : (L[i.val]?.map okSlot) = some true) (hv : v.isRef = true)
    (K : Run Z n0 p l e R s own m args below meth c Q h k n Ls nx (L.set i.val (.val v)) st) : Run Z n0 p l e R s own m args below meth c Q h k n Ls pc L (v :: st) := by
  have hd := hbD F d; obtain ⟨-, rfl⟩ := d
  exact Run.pure (fun T u hA s => XS.astoreN (g := mkF m pc L.toArray (v :: st)) hA F.1 rfl hd rfl hv (setL ho (cat_ref hv)) s) K
theorem Run.astore (F : Fx p c meth bytes ml ret nm) {i : Nat} {v : Value} (d : Dc bytes pc (.astore i) 2 nx) (ho : (L[i]?.map okSlot) = some true) (hv : v.isRef = true)
    (K : Run Z n0 p l e R s own m args below meth c Q h k n Ls nx (L.set i (.val v)) st) : Run Z n0 p l e R s own m args below meth c Q h k n Ls pc L (v :: st) := by
  have hd := hbD F d; obtain ⟨-, rfl⟩ := d
  exact Run.pure (fun T u hA s => XS.astore (g := mkF m pc L.toArray (v :: st)) hA F.1 rfl hd rfl hv (setL ho (cat_ref hv)) s) K
theorem Run.iconst (F : Fx p c meth bytes ml ret nm) {i : Int} {z : Int32} (d : Dc bytes pc (.iconst i) 1 nx) (hz : Int32.ofInt i = z)
    (K : Run Z n0 p l e R s own m args below meth c Q h k n Ls nx L (.int z :: st)) : Run Z n0 p l e R s own m args below meth c Q h k n Ls pc L st := by
  have hd := hbD F d; obtain ⟨-, rfl⟩ := d; subst hz
  exact Run.pure (fun T u hA s => XS.iconst (g := mkF m pc L.toArray st) hA F.1 rfl hd s) K
theorem Run.bipush (F : Fx p c meth bytes ml ret nm) {i : Int} {z : Int32} (d : Dc bytes pc (.bipush i) 2 nx) (hz : (Int8.ofInt i).toInt32 = z)
    (K : Run Z n0 p l e R s own m args below meth c Q h k n Ls nx L (.int z :: st)) : Run Z n0 p l e R s own m args below meth c Q h k n Ls pc L st := by
  have hd := hbD F d; obtain ⟨-, rfl⟩ := d; subst hz
  exact Run.pure (fun T u hA s => XS.bipush (g := mkF m pc L.toArray st) hA F.1 rfl hd s) K
theorem Run.sipush (F : Fx p c meth bytes ml ret nm) {i : Int} {z : Int32} (d : Dc bytes pc (.sipush i) 3 nx) (hz : (Int16.ofInt i).toInt32 = z)
    (K : Run Z n0 p l e R s own m args below meth c Q h k n Ls nx L (.int z :: st)) : Run Z n0 p l e R s own m args below meth c Q h k n Ls pc L st := by
  have hd := hbD F d; obtain ⟨-, rfl⟩ := d; subst hz
  exact Run.pure (fun T u hA s => XS.sipush (g := mkF m pc L.toArray st) hA F.1 rfl hd s) K
theorem Run.aconstNull (F : Fx p c meth bytes ml ret nm) (d : Dc bytes pc .aconst_null 1 nx)
    (K : Run Z n0 p l e R s own m args below meth c Q h k n Ls nx L (.null :: st)) : Run Z n0 p l e R s own m args below meth c Q h k n Ls pc L st := by
  have hd := hbD F d; obtain ⟨-, rfl⟩ := d
  exact Run.pure (fun T u hA s => XS.aconstNull (g := mkF m pc L.toArray st) hA F.1 rfl hd s) K
theorem Run.iadd (F : Fx p c meth bytes ml ret nm) {x y : Int32} (d : Dc bytes pc .iadd 1 nx) (K : Run Z n0 p l e R s own m args below meth c Q h k n Ls nx L (.int (x + y) :: st)) : Run Z n0 p l e R s own m args below meth c Q h k n Ls pc L (.int y :: .int x :: st) := by
  have hd := hbD F d; obtain ⟨-, rfl⟩ := d
  exact Run.pure (fun T u hA s => XS.iadd (g := mkF m pc L.toArray (.int y :: .int x :: st)) hA F.1 rfl hd rfl s) K
theorem Run.isub (F : Fx p c meth bytes ml ret nm) {x y : Int32} (d : Dc bytes pc .isub 1 nx) (K : Run Z n0 p l e R s own m args below meth c Q h k n Ls nx L (.int (x - y) :: st)) : Run Z n0 p l e R s own m args below meth c Q h k n Ls pc L (.int y :: .int x :: st) := by
  have hd := hbD F d; obtain ⟨-, rfl⟩ := d
  exact Run.pure (fun T u hA s => XS.isub (g := mkF m pc L.toArray (.int y :: .int x :: st)) hA F.1 rfl hd rfl s) K
theorem Run.imul (F : Fx p c meth bytes ml ret nm) {x y : Int32} (d : Dc bytes pc .imul 1 nx) (K : Run Z n0 p l e R s own m args below meth c Q h k n Ls nx L (.int (x * y) :: st)) : Run Z n0 p l e R s own m args below meth c Q h k n Ls pc L (.int y :: .int x :: st) := by
  have hd := hbD F d; obtain ⟨-, rfl⟩ := d
  exact Run.pure (fun T u hA s => XS.imul (g := mkF m pc L.toArray (.int y :: .int x :: st)) hA F.1 rfl hd rfl s) K
theorem Run.iand (F : Fx p c meth bytes ml ret nm) {x y : Int32} (d : Dc bytes pc .iand 1 nx) (K : Run Z n0 p l e R s own m args below meth c Q h k n Ls nx L (.int (x &&& y) :: st)) : Run Z n0 p l e R s own m args below meth c Q h k n Ls pc L (.int y :: .int x :: st) := by
  have hd := hbD F d; obtain ⟨-, rfl⟩ := d
  exact Run.pure (fun T u hA s => XS.iand (g := mkF m pc L.toArray (.int y :: .int x :: st)) hA F.1 rfl hd rfl s) K
theorem Run.ior (F : Fx p c meth bytes ml ret nm) {x y : Int32} (d : Dc bytes pc .ior 1 nx) (K : Run Z n0 p l e R s own m args below meth c Q h k n Ls nx L (.int (x ||| y) :: st)) : Run Z n0 p l e R s own m args below meth c Q h k n Ls pc L (.int y :: .int x :: st) := by
  have hd := hbD F d; obtain ⟨-, rfl⟩ := d
  exact Run.pure (fun T u hA s => XT.ior (g := mkF m pc L.toArray (.int y :: .int x :: st)) hA F.1 rfl hd rfl s) K
theorem Run.ixor (F : Fx p c meth bytes ml ret nm) {x y : Int32} (d : Dc bytes pc .ixor 1 nx) (K : Run Z n0 p l e R s own m args below meth c Q h k n Ls nx L (.int (x ^^^ y) :: st)) : Run Z n0 p l e R s own m args below meth c Q h k n Ls pc L (.int y :: .int x :: st) := by
  have hd := hbD F d; obtain ⟨-, rfl⟩ := d
  exact Run.pure (fun T u hA s => XT.ixor (g := mkF m pc L.toArray (.int y :: .int x :: st)) hA F.1 rfl hd rfl s) K
theorem Run.ishr (F : Fx p c meth bytes ml ret nm) {x y : Int32} (d : Dc bytes pc .ishr 1 nx) (K : Run Z n0 p l e R s own m args below meth c Q h k n Ls nx L (.int (x >>> (y &&& 31)) :: st)) : Run Z n0 p l e R s own m args below meth c Q h k n Ls pc L (.int y :: .int x :: st) := by
  have hd := hbD F d; obtain ⟨-, rfl⟩ := d
  exact Run.pure (fun T u hA s => XT.ishr (g := mkF m pc L.toArray (.int y :: .int x :: st)) hA F.1 rfl hd rfl s) K
theorem Run.ishl (F : Fx p c meth bytes ml ret nm) {x y : Int32} (d : Dc bytes pc .ishl 1 nx) (K : Run Z n0 p l e R s own m args below meth c Q h k n Ls nx L (.int (x <<< (y &&& 31)) :: st)) : Run Z n0 p l e R s own m args below meth c Q h k n Ls pc L (.int y :: .int x :: st) := by
  have hd := hbD F d; obtain ⟨-, rfl⟩ := d
  exact Run.pure (fun T u hA s => XT.ishl (g := mkF m pc L.toArray (.int y :: .int x :: st)) hA F.1 rfl hd rfl s) K
theorem Run.iushr (F : Fx p c meth bytes ml ret nm) {x y : Int32} (d : Dc bytes pc .iushr 1 nx) (K : Run Z n0 p l e R s own m args below meth c Q h k n Ls nx L (.int (XT.ushr x y) :: st)) : Run Z n0 p l e R s own m args below meth c Q h k n Ls pc L (.int y :: .int x :: st) := by
  have hd := hbD F d; obtain ⟨-, rfl⟩ := d
  exact Run.pure (fun T u hA s => XT.iushr (g := mkF m pc L.toArray (.int y :: .int x :: st)) hA F.1 rfl hd rfl s) K
theorem Run.idiv (F : Fx p c meth bytes ml ret nm) {x y : Int32} (d : Dc bytes pc .idiv 1 nx) (hy : y ≠ 0) (K : Run Z n0 p l e R s own m args below meth c Q h k n Ls nx L (.int (x / y) :: st)) : Run Z n0 p l e R s own m args below meth c Q h k n Ls pc L (.int y :: .int x :: st) := by
  have hd := hbD F d; obtain ⟨-, rfl⟩ := d
  exact Run.pure (fun T u hA s => XS.idiv (g := mkF m pc L.toArray (.int y :: .int x :: st)) hA F.1 rfl hd rfl hy s) K
theorem Run.irem (F : Fx p c meth bytes ml ret nm) {x y : Int32} (d : Dc bytes pc .irem 1 nx) (hy : y ≠ 0) (K : Run Z n0 p l e R s own m args below meth c Q h k n Ls nx L (.int (x % y) :: st)) : Run Z n0 p l e R s own m args below meth c Q h k n Ls pc L (.int y :: .int x :: st) := by
  have hd := hbD F d; obtain ⟨-, rfl⟩ := d
  exact Run.still (fun T vm0 locs X eT hZ hown u s => iremM (g := mkF m pc L.toArray (.int y :: .int x :: st)) X F.1 rfl hd rfl hy s) K
theorem Run.ineg (F : Fx p c meth bytes ml ret nm) {x : Int32} (d : Dc bytes pc .ineg 1 nx) (K : Run Z n0 p l e R s own m args below meth c Q h k n Ls nx L (.int (-x) :: st)) : Run Z n0 p l e R s own m args below meth c Q h k n Ls pc L (.int x :: st) := by
  have hd := hbD F d; obtain ⟨-, rfl⟩ := d
  exact Run.pure (fun T u hA s => XS.ineg (g := mkF m pc L.toArray (.int x :: st)) hA F.1 rfl hd rfl s) K
abbrev chr (x : Int32) : Int32 := x.toUInt32.toUInt16.toUInt32.toInt32
theorem Run.i2c (F : Fx p c meth bytes ml ret nm) {x : Int32} (d : Dc bytes pc .i2c 1 nx) (K : Run Z n0 p l e R s own m args below meth c Q h k n Ls nx L (.int (chr x) :: st)) : Run Z n0 p l e R s own m args below meth c Q h k n Ls pc L (.int x :: st) := by
  have hd := hbD F d; obtain ⟨-, rfl⟩ := d
  exact Run.pure (fun T u hA s => XT.i2c (g := mkF m pc L.toArray (.int x :: st)) hA F.1 rfl hd rfl s) K
theorem Run.i2b (F : Fx p c meth bytes ml ret nm) {x : Int32} (d : Dc bytes pc .i2b 1 nx) (K : Run Z n0 p l e R s own m args below meth c Q h k n Ls nx L (.int (x.toInt8.toInt32) :: st)) : Run Z n0 p l e R s own m args below meth c Q h k n Ls pc L (.int x :: st) := by
  have hd := hbD F d; obtain ⟨-, rfl⟩ := d
  exact Run.pure (fun T u hA s => XT.i2b (g := mkF m pc L.toArray (.int x :: st)) hA F.1 rfl hd rfl s) K
theorem Run.dup (F : Fx p c meth bytes ml ret nm) {x : Value} (d : Dc bytes pc .dup 1 nx) (hc : x.category = 1) (K : Run Z n0 p l e R s own m args below meth c Q h k n Ls nx L (x :: x :: st)) : Run Z n0 p l e R s own m args below meth c Q h k n Ls pc L (x :: st) := by
  have hd := hbD F d; obtain ⟨-, rfl⟩ := d
  exact Run.pure (fun T u hA s => XS.dup (g := mkF m pc L.toArray (x :: st)) hA F.1 rfl hd rfl hc s) K
theorem Run.dup2 (F : Fx p c meth bytes ml ret nm) {x y : Value} (d : Dc bytes pc .dup2 1 nx) (hc : x.category = 1) (hc' : y.category = 1) (K : Run Z n0 p l e R s own m args below meth c Q h k n Ls nx L (x :: y :: x :: y :: st)) : Run Z n0 p l e R s own m args below meth c Q h k n Ls pc L (x :: y :: st) := by
  have hd := hbD F d; obtain ⟨-, rfl⟩ := d
  exact Run.pure (fun T u hA s => XT.dup2 (g := mkF m pc L.toArray (x :: y :: st)) hA F.1 rfl hd rfl hc hc' s) K
theorem Run.dupX1 (F : Fx p c meth bytes ml ret nm) {x y : Value} (d : Dc bytes pc .dup_x1 1 nx) (hc : x.category = 1) (hc' : y.category = 1) (K : Run Z n0 p l e R s own m args below meth c Q h k n Ls nx L (x :: y :: x :: st)) : Run Z n0 p l e R s own m args below meth c Q h k n Ls pc L (x :: y :: st) := by
  have hd := hbD F d; obtain ⟨-, rfl⟩ := d
  exact Run.pure (fun T u hA s => XT.dupX1 (g := mkF m pc L.toArray (x :: y :: st)) hA F.1 rfl hd rfl hc hc' s) K
theorem Run.pop (F : Fx p c meth bytes ml ret nm) {x : Value} (d : Dc bytes pc .pop 1 nx) (hc : x.category = 1) (K : Run Z n0 p l e R s own m args below meth c Q h k n Ls nx L st) : Run Z n0 p l e R s own m args below meth c Q h k n Ls pc L (x :: st) := by
  have hd := hbD F d; obtain ⟨-, rfl⟩ := d
  exact Run.pure (fun T u hA s => XT.pop (g := mkF m pc L.toArray (x :: st)) hA F.1 rfl hd rfl hc s) K
theorem Run.iinc (F : Fx p c meth bytes ml ret nm) {i : Nat} {cst : Int} {z x : Int32} (d : Dc bytes pc (.iinc i cst) 3 nx) (hz : Int32.ofInt cst = z) (hl : L[i]? = some (.val (.int x)))
    (K : Run Z n0 p l e R s own m args below meth c Q h k n Ls nx (L.set i (.val (.int (x + z)))) st) : Run Z n0 p l e R s own m args below meth c Q h k n Ls pc L st := by
  have hd := hbD F d; obtain ⟨-, rfl⟩ := d; subst hz
  exact Run.pure (fun T u hA s => XS.iinc (g := mkF m pc L.toArray st) hA F.1 rfl hd (getL hl) (setL (by rw [hl]; rfl) rfl) s) K
theorem Run.goto (F : Fx p c meth bytes ml ret nm) {o : Int} {t : Nat} (d : Dc bytes pc (.goto o) 3 nx) (ht : (pc : Int) + o = (t : Int))
    (K : Run Z n0 p l e R s own m args below meth c Q h k n Ls t L st) : Run Z n0 p l e R s own m args below meth c Q h k n Ls pc L st := by
  have hd := hbD F d
  exact Run.pure (fun T u hA s => XS.goto (g := mkF m pc L.toArray st) hA F.1 rfl (pc' := t) rfl hd (by rw [ht]; exact Int.natCast_nonneg _) (by rw [ht]; rfl) s) K
theorem Run.ifYes (F : Fx p c meth bytes ml ret nm) {cd : ClassFile.Cond} {x : Int32} {o : Int} {t : Nat} (d : Dc bytes pc (.ifCond cd o) 3 nx) (ht : (pc : Int) + o = (t : Int)) (hc : ifCond.holds cd x = true)
    (K : Run Z n0 p l e R s own m args below meth c Q h k n Ls t L st) : Run Z n0 p l e R s own m args below meth c Q h k n Ls pc L (.int x :: st) := by
  have hd := hbD F d
  exact Run.pure (fun T u hA s => XS.ifYes (g := mkF m pc L.toArray (.int x :: st)) hA F.1 rfl (pc' := t) rfl hd rfl hc (by rw [ht]; exact Int.natCast_nonneg _) (by rw [ht]; rfl) s) K
theorem Run.ifNo (F : Fx p c meth bytes ml ret nm) {cd : ClassFile.Cond} {x : Int32} {o : Int} (d : Dc bytes pc (.ifCond cd o) 3 nx) (hc : ifCond.holds cd x = false)
    (K : Run Z n0 p l e R s own m args below meth c Q h k n Ls nx L st) : Run Z n0 p l e R s own m args below meth c Q h k n Ls pc L (.int x :: st) := by
  have hd := hbD F d; obtain ⟨-, rfl⟩ := d
  exact Run.pure (fun T u hA s => XS.ifNo (g := mkF m pc L.toArray (.int x :: st)) hA F.1 rfl hd rfl hc s) K
theorem Run.if_ (F : Fx p c meth bytes ml ret nm) {cd : ClassFile.Cond} {x : Int32} {o : Int} {t : Nat} (d : Dc bytes pc (.ifCond cd o) 3 nx) (ht : (pc : Int) + o = (t : Int))
    (K1 : ifCond.holds cd x = true → Run Z n0 p l e R s own m args below meth c Q h k n Ls t L st) (K2 : ifCond.holds cd x = false → Run Z n0 p l e R s own m args below meth c Q h k n Ls nx L st) : Run Z n0 p l e R s own m args below meth c Q h k n Ls pc L (.int x :: st) := by
  cases hc : ifCond.holds cd x with
  | true => exact Run.ifYes F d ht hc (K1 hc)
  | false => exact Run.ifNo F d hc (K2 hc)
theorem Run.icmpYes (F : Fx p c meth bytes ml ret nm) {cd : ClassFile.Cond} {x y : Int32} {o : Int} {t : Nat} (d : Dc bytes pc (.if_icmp cd o) 3 nx) (ht : (pc : Int) + o = (t : Int)) (hc : if_icmp.holds cd x y = true)
    (K : Run Z n0 p l e R s own m args below meth c Q h k n Ls t L st) : Run Z n0 p l e R s own m args below meth c Q h k n Ls pc L (.int y :: .int x :: st) := by
  have hd := hbD F d
  exact Run.pure (fun T u hA s => XS.icmpYes (g := mkF m pc L.toArray (.int y :: .int x :: st)) hA F.1 rfl (pc' := t) rfl hd rfl hc (by rw [ht]; exact Int.natCast_nonneg _) (by rw [ht]; rfl) s) K
theorem Run.icmpNo (F : Fx p c meth bytes ml ret nm) {cd : ClassFile.Cond} {x y : Int32} {o : Int} (d : Dc bytes pc (.if_icmp cd o) 3 nx) (hc : if_icmp.holds cd x y = false)
    (K : Run Z n0 p l e R s own m args below meth c Q h k n Ls nx L st) : Run Z n0 p l e R s own m args below meth c Q h k n Ls pc L (.int y :: .int x :: st) := by
  have hd := hbD F d; obtain ⟨-, rfl⟩ := d
  exact Run.pure (fun T u hA s => XS.icmpNo (g := mkF m pc L.toArray (.int y :: .int x :: st)) hA F.1 rfl hd rfl hc s) K
theorem Run.icmp (F : Fx p c meth bytes ml ret nm) {cd : ClassFile.Cond} {x y : Int32} {o : Int} {t : Nat} (d : Dc bytes pc (.if_icmp cd o) 3 nx) (ht : (pc : Int) + o = (t : Int))
    (K1 : if_icmp.holds cd x y = true → Run Z n0 p l e R s own m args below meth c Q h k n Ls t L st) (K2 : if_icmp.holds cd x y = false → Run Z n0 p l e R s own m args below meth c Q h k n Ls nx L st) : Run Z n0 p l e R s own m args below meth c Q h k n Ls pc L (.int y :: .int x :: st) := by
  cases hc : if_icmp.holds cd x y with
  | true => exact Run.icmpYes F d ht hc (K1 hc)
  | false => exact Run.icmpNo F d hc (K2 hc)
theorem Run.ifnullYes (F : Fx p c meth bytes ml ret nm) {o : Int} {t : Nat} (d : Dc bytes pc (.ifnull o) 3 nx) (ht : (pc : Int) + o = (t : Int))
    (K : Run Z n0 p l e R s own m args below meth c Q h k n Ls t L st) : Run Z n0 p l e R s own m args below meth c Q h k n Ls pc L (.null :: st) := by
  have hd := hbD F d
  exact Run.pure (fun T u hA s => XS.ifnullYes (g := mkF m pc L.toArray (.null :: st)) hA F.1 rfl (pc' := t) rfl hd rfl (by rw [ht]; exact Int.natCast_nonneg _) (by rw [ht]; rfl) s) K
theorem Run.ifnullNo (F : Fx p c meth bytes ml ret nm) {o : Int} {b : Nat} (d : Dc bytes pc (.ifnull o) 3 nx)
    (K : Run Z n0 p l e R s own m args below meth c Q h k n Ls nx L st) : Run Z n0 p l e R s own m args below meth c Q h k n Ls pc L (.ref b :: st) := by
  have hd := hbD F d; obtain ⟨-, rfl⟩ := d
  exact Run.pure (fun T u hA s => XS.ifnullNo (g := mkF m pc L.toArray (.ref b :: st)) hA F.1 rfl hd rfl s) K
theorem Run.ifnonnullYes (F : Fx p c meth bytes ml ret nm) {o : Int} {t : Nat} {b : Nat} (d : Dc bytes pc (.ifnonnull o) 3 nx) (ht : (pc : Int) + o = (t : Int))
    (K : Run Z n0 p l e R s own m args below meth c Q h k n Ls t L st) : Run Z n0 p l e R s own m args below meth c Q h k n Ls pc L (.ref b :: st) := by
  have hd := hbD F d
  exact Run.pure (fun T u hA s => XT.ifnonnullYes (g := mkF m pc L.toArray (.ref b :: st)) hA F.1 rfl (pc' := t) rfl hd rfl (by rw [ht]; exact Int.natCast_nonneg _) (by rw [ht]; rfl) s) K
theorem Run.ifnonnullNo (F : Fx p c meth bytes ml ret nm) {o : Int} (d : Dc bytes pc (.ifnonnull o) 3 nx)
    (K : Run Z n0 p l e R s own m args below meth c Q h k n Ls nx L st) : Run Z n0 p l e R s own m args below meth c Q h k n Ls pc L (.null :: st) := by
  have hd := hbD F d; obtain ⟨-, rfl⟩ := d
  exact Run.pure (fun T u hA s => XT.ifnonnullNo (g := mkF m pc L.toArray (.null :: st)) hA F.1 rfl hd rfl s) K
theorem Run.acmpYes (F : Fx p c meth bytes ml ret nm) {cd : ACond} {x y : Value} {o : Int} {t : Nat} {b : Bool} (d : Dc bytes pc (.if_acmp cd o) 3 nx) (ht : (pc : Int) + o = (t : Int)) (hx : x.isRef = true) (hy : y.isRef = true) (hq : decide (x = y) = b) (hb : acV cd b = true)
    (K : Run Z n0 p l e R s own m args below meth c Q h k n Ls t L st) : Run Z n0 p l e R s own m args below meth c Q h k n Ls pc L (y :: x :: st) := by
  have hd := hbD F d
  exact Run.still (fun T vm0 locs X eT hZ hown u s => Jvm.RoadKit.acmp (g := mkF m pc L.toArray (y :: x :: st)) X F.1 rfl hx hy (pc0 := pc) (pc' := t) (same := b) rfl hd rfl hq (by rw [ht]; exact Int.natCast_nonneg _) (by rw [if_pos hb, ht]; rfl) s) K
theorem Run.acmpNo (F : Fx p c meth bytes ml ret nm) {cd : ACond} {x y : Value} {o : Int} {t : Nat} {b : Bool} (d : Dc bytes pc (.if_acmp cd o) 3 nx) (ht : (pc : Int) + o = (t : Int)) (hx : x.isRef = true) (hy : y.isRef = true) (hq : decide (x = y) = b) (hb : acV cd b = false)
    (K : Run Z n0 p l e R s own m args below meth c Q h k n Ls nx L st) : Run Z n0 p l e R s own m args below meth c Q h k n Ls pc L (y :: x :: st) := by
  have hd := hbD F d; obtain ⟨-, rfl⟩ := d
  exact Run.still (fun T vm0 locs X eT hZ hown u s => Jvm.RoadKit.acmp (g := mkF m pc L.toArray (y :: x :: st)) X F.1 rfl hx hy (pc0 := pc) (pc' := pc + 3) (same := b) rfl hd rfl hq (by rw [ht]; exact Int.natCast_nonneg _) (by rw [if_neg (by simp [hb])]) s) K
theorem Run.ldcInt (F : Fx p c meth bytes ml ret nm) {i : Nat} {v : Int32} (w : (Cond.constant own i v).before a0 Z = true) (d : Dc bytes pc (.ldc i) 2 nx)
    (K : Run Z n0 p l e R s own m args below meth c Q h k n Ls nx L (.int v :: st)) : Run Z n0 p l e R s own m args below meth c Q h k n Ls pc L st := by
  have hd := hbD F d; obtain ⟨-, rfl⟩ := d
  exact Run.still (fun T vm0 locs X eT hZ hown u s => X.ldcInt F.1 hown (mvT hZ w) (g := mkF m pc L.toArray st) rfl hd u s) K
theorem Run.ldcwInt (F : Fx p c meth bytes ml ret nm) {i : Nat} {v : Int32} (w : (Cond.constant own i v).before a0 Z = true) (d : Dc bytes pc (.ldc_w i) 3 nx)
    (K : Run Z n0 p l e R s own m args below meth c Q h k n Ls nx L (.int v :: st)) : Run Z n0 p l e R s own m args below meth c Q h k n Ls pc L st := by
  have hd := hbD F d; obtain ⟨-, rfl⟩ := d
  exact Run.still (fun T vm0 locs X eT hZ hown u s => X.ldcwInt F.1 hown (mvT hZ w) (g := mkF m pc L.toArray st) rfl hd u s) K
/-! arrays -/
/-- the array at a holds vs -/
def Av (Z : State) (h : Heap) (a : Nat) (ty : FieldType) (vs : List Value) : Prop := ∃ c : Cell, Arr Z h a c ty ∧ c.slots.toList = vs ∧ vs.length < 2 ^ 31 ∧ ∀ v ∈ vs, fits ty v = true
theorem Av.lt {a : Nat} {ty : FieldType} {vs : List Value} (A : Av Z h a ty vs) : a < h.size := by obtain ⟨c, A, -⟩ := A; exact A.lt
theorem Av.keep {h' : Heap} {ws : List Addr} {a : Nat} {ty : FieldType} {vs : List Value} (A : Av Z h a ty vs) (K : Keep h h' ws) (q : a ∉ ws) : Av Z h' a ty vs := by
  obtain ⟨c, A, r⟩ := A; exact ⟨c, ⟨K.2.1 a c A.1 q, A.2⟩, r⟩
theorem Av.len {a : Nat} {ty : FieldType} {vs : List Value} (A : Av Z h a ty vs) : vs.length < 2 ^ 31 := by obtain ⟨c, -, -, r, -⟩ := A; exact r
theorem Av.fit {a : Nat} {ty : FieldType} {vs : List Value} (A : Av Z h a ty vs) : ∀ v ∈ vs, fits ty v = true := by obtain ⟨c, -, -, -, r⟩ := A; exact r
theorem Run.arrlen (F : Fx p c meth bytes ml ret nm) {a : Nat} {ty : FieldType} {vs : List Value} (A : Av Z h a ty vs) (d : Dc bytes pc .arraylength 1 nx)
    (K : Run Z n0 p l e R s own m args below meth c Q h k n Ls nx L (.int (Int32.ofNat vs.length) :: st)) : Run Z n0 p l e R s own m args below meth c Q h k n Ls pc L (.ref a :: st) := by
  have hd := hbD F d; obtain ⟨-, rfl⟩ := d
  obtain ⟨cl, A, rfl, -⟩ := A
  refine Run.still (fun T vm0 locs X eT hZ hown u s => X.arraylength F.1 (by rw [eT]; exact A.1) (State.isArrayOf_alike hZ.alike A.2.1) (g := mkF m pc L.toArray (.ref a :: st)) rfl rfl hd u ?_) K
  have q : cl.slots.toList.length = cl.slots.size := by simp
  rw [q] at s
  exact s
theorem inB {vs : List Value} {j : Int32} {i : Nat} {cl : Cell} (e : cl.slots.toList = vs) (hj : ¬ j < 0) (hi : j.toNatClampNeg = i) (hlt : i < vs.length) : ¬ (j < 0 ∨ cl.slots.size ≤ j.toNatClampNeg) := by
  subst e
  have q : cl.slots.toList.length = cl.slots.size := by simp
  rintro (y | y)
  · exact hj y
  · omega
theorem atB {vs : List Value} {j : Int32} {i : Nat} {cl : Cell} {v : Value} (e : cl.slots.toList = vs) (hi : j.toNatClampNeg = i) (hv : vs[i]? = some v) : cl.slots[j.toNatClampNeg]? = some v := by
  subst e hi; simpa using hv
theorem Run.caload (F : Fx p c meth bytes ml ret nm) {a : Nat} {vs : List Value} {j : Int32} {i : Nat} {v : Value} (A : Av Z h a .char vs) (hj : ¬ j < 0) (hi : j.toNatClampNeg = i) (hv : vs[i]? = some v) (d : Dc bytes pc .caload 1 nx)
    (K : Run Z n0 p l e R s own m args below meth c Q h k n Ls nx L (v :: st)) : Run Z n0 p l e R s own m args below meth c Q h k n Ls pc L (.int j :: .ref a :: st) := by
  have hd := hbD F d; obtain ⟨-, rfl⟩ := d
  obtain ⟨cl, A, q, -⟩ := A
  exact Run.still (fun T vm0 locs X eT hZ hown u s => X.caload F.1 (by rw [eT]; exact A.1) (State.isArrayOf_alike hZ.alike A.2.1) A.2.2 (inB q hj hi (List.getElem?_eq_some_iff.mp hv).1) (atB q hi hv) (g := mkF m pc L.toArray (.int j :: .ref a :: st)) rfl rfl hd u s) K
theorem Run.baload (F : Fx p c meth bytes ml ret nm) {a : Nat} {vs : List Value} {j : Int32} {i : Nat} {v : Value} (A : Av Z h a .byte vs) (hj : ¬ j < 0) (hi : j.toNatClampNeg = i) (hv : vs[i]? = some v) (d : Dc bytes pc .baload 1 nx)
    (K : Run Z n0 p l e R s own m args below meth c Q h k n Ls nx L (v :: st)) : Run Z n0 p l e R s own m args below meth c Q h k n Ls pc L (.int j :: .ref a :: st) := by
  have hd := hbD F d; obtain ⟨-, rfl⟩ := d
  obtain ⟨cl, A, q, -⟩ := A
  exact Run.still (fun T vm0 locs X eT hZ hown u s => X.baloadBytes F.1 (by rw [eT]; exact A.1) (State.isArrayOf_alike hZ.alike A.2.1) A.2.2 (inB q hj hi (List.getElem?_eq_some_iff.mp hv).1) (atB q hi hv) (g := mkF m pc L.toArray (.int j :: .ref a :: st)) rfl rfl hd u s) K
theorem Run.iaload (F : Fx p c meth bytes ml ret nm) {a : Nat} {vs : List Value} {j : Int32} {i : Nat} {v : Value} (A : Av Z h a .int vs) (hj : ¬ j < 0) (hi : j.toNatClampNeg = i) (hv : vs[i]? = some v) (d : Dc bytes pc .iaload 1 nx)
    (K : Run Z n0 p l e R s own m args below meth c Q h k n Ls nx L (v :: st)) : Run Z n0 p l e R s own m args below meth c Q h k n Ls pc L (.int j :: .ref a :: st) := by
  have hd := hbD F d; obtain ⟨-, rfl⟩ := d
  obtain ⟨cl, A, q, -⟩ := A
  exact Run.still (fun T vm0 locs X eT hZ hown u s => X.iaload F.1 (by rw [eT]; exact A.1) (State.isArrayOf_alike hZ.alike A.2.1) A.2.2 (inB q hj hi (List.getElem?_eq_some_iff.mp hv).1) (atB q hi hv) (g := mkF m pc L.toArray (.int j :: .ref a :: st)) rfl rfl hd u s) K
theorem Run.aaload (F : Fx p c meth bytes ml ret nm) {a : Nat} {ty : FieldType} {vs : List Value} {j : Int32} {i : Nat} {v : Value} (A : Av Z h a ty vs) (ht : ty.isReference = true) (hj : ¬ j < 0) (hi : j.toNatClampNeg = i) (hv : vs[i]? = some v) (d : Dc bytes pc .aaload 1 nx)
    (K : Run Z n0 p l e R s own m args below meth c Q h k n Ls nx L (v :: st)) : Run Z n0 p l e R s own m args below meth c Q h k n Ls pc L (.int j :: .ref a :: st) := by
  have hd := hbD F d; obtain ⟨-, rfl⟩ := d
  obtain ⟨cl, A, q, -⟩ := A
  exact Run.still (fun T vm0 locs X eT hZ hown u s => X.aaload F.1 (by rw [eT]; exact A.1) (State.isArrayOf_alike hZ.alike A.2.1) ht A.2.2 (inB q hj hi (List.getElem?_eq_some_iff.mp hv).1) (atB q hi hv) (g := mkF m pc L.toArray (.int j :: .ref a :: st)) rfl rfl hd u s) K
/-- a write: what it leaves of the walk's bearings -/
theorem WS.wrote {vm0 : Vm} {locs : List Loc} {k0 : Nat} {h' : Heap} {a : Nat} {sl : Nat} {v : Value} {T' : State} (X' : Stand p l e R (s.setVm vm0) m args below meth c T' (locs ++ [⟨a, sl⟩]) k n) (e' : T'.heap = h') (W : Wr h h' a sl v) (g : n0 ≤ a)
    (hS : s.Since vm0 k0) (hk : k0 ≤ h.size) (hZ : Z.Warmed39 (s.setVm vm0).vm) (hown : (s.setVm vm0).vm.findClass own = some m.cls) (N : Fr n0 locs) (hO : Old Z n0 h) (I : Itn Z vm0 Ls) (kn : Kn s.vm below) : WS Z n0 p l e R s own m args below meth c h' k n Ls T' :=
  ⟨vm0, _, k0, X', e', hS, by rw [W.size]; exact hk, hZ, hown, Fr.snoc X' N g, hO.wr W g, I, kn⟩
theorem Av.set {h' : Heap} {a : Nat} {ty : FieldType} {vs : List Value} {j : Int32} {i : Nat} {v : Value} (A : Av Z h a ty vs) (hi : j.toNatClampNeg = i) (hf : fits ty v = true) (W : Wr h h' a j.toNatClampNeg v) : Av Z h' a ty (vs.set i v) := by
  obtain ⟨cl, A, rfl, q2, q3⟩ := A
  subst hi
  refine ⟨_, A.same W, by simp [Cell.setSlot], by simpa using q2, fun w hw => ?_⟩
  rcases List.mem_or_eq_of_mem_set hw with y | y
  · exact q3 w y
  · exact y ▸ hf
theorem Run.castore (F : Fx p c meth bytes ml ret nm) {a : Nat} {vs : List Value} {j x y : Int32} {i : Nat} (A : Av Z h a .char vs) (g : n0 ≤ a) (hj : ¬ j < 0) (hi : j.toNatClampNeg = i) (hlt : i < vs.length) (hy : nar .char x = y) (d : Dc bytes pc .castore 1 nx)
    (K : ∀ h', Wr h h' a i (.int y) → Keep h h' [a] → h'.size = h.size → Av Z h' a .char (vs.set i (.int y)) → Run Z n0 p l e R s own m args below meth c Q h' k n Ls nx L st) : Run Z n0 p l e R s own m args below meth c Q h k n Ls pc L (.int x :: .int j :: .ref a :: st) := fun T W => by
  have hd := hbD F d; obtain ⟨-, rfl⟩ := d
  obtain ⟨vm0, locs, k0, X, eT, hS, hk, hZ, hown, N, hO, I, kn⟩ := W
  have A' := A
  obtain ⟨cl, A1, q, -⟩ := A
  obtain ⟨T', h', X', e', W', st'⟩ := stC X F.1 hZ eT A1 (j := j) (x := x) (inB q hj hi hlt) (g := mkF m pc L.toArray (.int x :: .int j :: .ref a :: st)) rfl rfl hd
  rw [hy] at W'
  obtain ⟨u, o, r1, r⟩ := K h' (hi ▸ W') (Keep.of_wr W') W'.size (A'.set hi (hy ▸ fits_nar_char x) W') T' (WS.wrote X' e' W' g hS hk hZ hown N hO I kn)
  exact ⟨u, o, st' _ r1, r⟩
theorem Run.bastore (F : Fx p c meth bytes ml ret nm) {a : Nat} {vs : List Value} {j x y : Int32} {i : Nat} (A : Av Z h a .byte vs) (g : n0 ≤ a) (hj : ¬ j < 0) (hi : j.toNatClampNeg = i) (hlt : i < vs.length) (hy : nar .byte x = y) (d : Dc bytes pc .bastore 1 nx)
    (K : ∀ h', Wr h h' a i (.int y) → Keep h h' [a] → h'.size = h.size → Av Z h' a .byte (vs.set i (.int y)) → Run Z n0 p l e R s own m args below meth c Q h' k n Ls nx L st) : Run Z n0 p l e R s own m args below meth c Q h k n Ls pc L (.int x :: .int j :: .ref a :: st) := fun T W => by
  have hd := hbD F d; obtain ⟨-, rfl⟩ := d
  obtain ⟨vm0, locs, k0, X, eT, hS, hk, hZ, hown, N, hO, I, kn⟩ := W
  have A' := A
  obtain ⟨cl, A1, q, -⟩ := A
  obtain ⟨T', h', X', e', W', st'⟩ := stB X F.1 hZ eT A1 (j := j) (x := x) (inB q hj hi hlt) (g := mkF m pc L.toArray (.int x :: .int j :: .ref a :: st)) rfl rfl hd
  rw [hy] at W'
  obtain ⟨u, o, r1, r⟩ := K h' (hi ▸ W') (Keep.of_wr W') W'.size (A'.set hi (hy ▸ fits_nar_byte x) W') T' (WS.wrote X' e' W' g hS hk hZ hown N hO I kn)
  exact ⟨u, o, st' _ r1, r⟩
theorem Run.iastore (F : Fx p c meth bytes ml ret nm) {a : Nat} {vs : List Value} {j x : Int32} {i : Nat} (A : Av Z h a .int vs) (g : n0 ≤ a) (hj : ¬ j < 0) (hi : j.toNatClampNeg = i) (hlt : i < vs.length) (d : Dc bytes pc .iastore 1 nx)
    (K : ∀ h', Wr h h' a i (.int x) → Keep h h' [a] → h'.size = h.size → Av Z h' a .int (vs.set i (.int x)) → Run Z n0 p l e R s own m args below meth c Q h' k n Ls nx L st) : Run Z n0 p l e R s own m args below meth c Q h k n Ls pc L (.int x :: .int j :: .ref a :: st) := fun T W => by
  have hd := hbD F d; obtain ⟨-, rfl⟩ := d
  obtain ⟨vm0, locs, k0, X, eT, hS, hk, hZ, hown, N, hO, I, kn⟩ := W
  have A' := A
  obtain ⟨cl, A1, q, -⟩ := A
  obtain ⟨T', h', X', e', W', st'⟩ := stI X F.1 hZ eT A1 (j := j) (x := x) (inB q hj hi hlt) (g := mkF m pc L.toArray (.int x :: .int j :: .ref a :: st)) rfl rfl hd
  obtain ⟨u, o, r1, r⟩ := K h' (hi ▸ W') (Keep.of_wr W') W'.size (A'.set hi rfl W') T' (WS.wrote X' e' W' g hS hk hZ hown N hO I kn)
  exact ⟨u, o, st' _ r1, r⟩
theorem Keep.ofExt {h h' : Heap} (E : Ext h h') : Keep h h' [] := (Keep.refl h []).ext E
theorem Run.newarray (F : Fx p c meth bytes ml ret nm) {aty : ArrayType} {z : Int32} {len : Nat} (w : (Cond.arrayClass (newarray.typeOf aty)).before a0 Z = true) (hz : ¬ z < 0) (hlen : z.toNatClampNeg = len) (cap : Nat) (hcap : len ≤ cap) (hb : Nat.ble (cap * 8) 536870912 = true) (hc : k + 1 ≤ R.cells) (hl : n + cap ≤ R.slots) (d : Dc bytes pc (.newarray aty) 2 nx)
    (K : ∀ h' a, a = h.size → Keep h h' [] → a < h'.size → Av Z h' a (newarray.typeOf aty) (List.replicate len (defaultValue (newarray.typeOf aty))) → Run Z n0 p l e R s own m args below meth c Q h' (k + 1) (n + cap) Ls nx L (.ref a :: st)) : Run Z n0 p l e R s own m args below meth c Q h k n Ls pc L (.int z :: st) := fun T W => by
  have hd := hbD F d; obtain ⟨-, rfl⟩ := d
  obtain ⟨vm0, locs, k0, X, eT, hS, hk, hZ, hown, N, hO, I, kn⟩ := W
  subst hlen
  obtain ⟨T', h', cA, X', e', E', A', st'⟩ := newP X F.1 hZ w eT (g := mkF m pc L.toArray (.int z :: st)) rfl hd rfl hz hcap (Nat.le_of_ble_eq_true hb) hc hl
  obtain ⟨u, o, r1, r⟩ := K h' h.size rfl (Keep.ofExt E') A'.lt ⟨_, A', by simp [newA], by simpa using (back32 hz).2, fun v hv => by rw [List.eq_of_mem_replicate hv]; cases aty <;> rfl⟩ T' ⟨vm0, locs, k0, X', e', hS, Nat.le_trans hk E'.1, hZ, hown, N, hO.ext E', I, kn⟩
  exact ⟨u, o, st' _ r1, r⟩
/-! objects -/
theorem Run.getfield (F : Fx p c meth bytes ml ret nm) {R0 O f ds host : String} {i : Nat} {a : Nat} {v : Value} (w : (Cond.fieldLink own i R0 f ds).before a0 Z = true ∨ (Cond.fieldLinkNest own i R0 f ds host).before a0 Z = true) (via : Via Z R0 O f ds) (Fd : Fld Z h a O f ds v) (d : Dc bytes pc (.getfield i) 3 nx)
    (K : Run Z n0 p l e R s own m args below meth c Q h k n Ls nx L (v :: st)) : Run Z n0 p l e R s own m args below meth c Q h k n Ls pc L (.ref a :: st) := fun T W => by
  have hd := hbD F d; obtain ⟨-, rfl⟩ := d
  obtain ⟨vm0, locs, k0, X, eT, hS, hk, hZ, hown, N, hO, I, kn⟩ := W
  obtain ⟨T', X', e', st'⟩ := getF X F.1 hZ hown w via eT Fd (g := mkF m pc L.toArray (.ref a :: st)) rfl rfl hd
  obtain ⟨u, o, r1, r⟩ := K T' ⟨vm0, locs, k0, X', e', hS, hk, hZ, hown, N, hO, I, kn⟩
  exact ⟨u, o, st' _ r1, r⟩
theorem Run.getstatic (F : Fx p c meth bytes ml ret nm) {R0 O f ds : String} {i : Nat} {v : Value} (w : (Cond.fieldLink own i R0 f ds).before a0 Z = true) (via : Via Z R0 O f ds) (Fd : Sta Z Z.heap O f ds v) (d : Dc bytes pc (.getstatic i) 3 nx)
    (K : Run Z n0 p l e R s own m args below meth c Q h k n Ls nx L (v :: st)) : Run Z n0 p l e R s own m args below meth c Q h k n Ls pc L st := fun T W => by
  have hd := hbD F d; obtain ⟨-, rfl⟩ := d
  obtain ⟨vm0, locs, k0, X, eT, hS, hk, hZ, hown, N, hO, I, kn⟩ := W
  obtain ⟨T', X', e', st'⟩ := getS X F.1 hZ (host := "") hown w via eT (Fd.ext hO.2) (g := mkF m pc L.toArray st) rfl hd
  obtain ⟨u, o, r1, r⟩ := K T' ⟨vm0, locs, k0, X', e', hS, hk, hZ, hown, N, hO, I, kn⟩
  exact ⟨u, o, st' _ r1, r⟩
theorem Run.putfield (F : Fx p c meth bytes ml ret nm) {R0 O f ds C : String} {i kk : Nat} {a : Nat} {v v' old : Value} {ty : FieldType} (w : (Cond.fieldLink own i R0 f ds).before a0 Z = true) (via : Via Z R0 O f ds) (Fd : Fld Z h a O f ds old) (E : Exa Z h a C) (g : n0 ≤ a)
    (Lw : (Cond.lays C O f ds).before a0 Z = true ∨ ((Cond.laysFinal C O f ds).before a0 Z = true ∧ own = O ∧ nm = "<init>")) (wi : (Cond.instantiable C kk).before a0 Z = true) (hty : parseFieldDescriptor ds = some ty) (hn : narrow ty v = v') (hf : fits ty v' = true) (d : Dc bytes pc (.putfield i) 3 nx)
    (K : ∀ h', Wr h h' a (Jvm.RoadKit.slotOf Z O f ds) v' → Keep h h' [a] → h'.size = h.size → Fld Z h' a O f ds v' → Run Z n0 p l e R s own m args below meth c Q h' k n Ls nx L st) : Run Z n0 p l e R s own m args below meth c Q h k n Ls pc L (v :: .ref a :: st) := fun T W => by
  have hd := hbD F d; obtain ⟨-, rfl⟩ := d
  obtain ⟨vm0, locs, k0, X, eT, hS, hk, hZ, hown, N, hO, I, kn⟩ := W
  have Lw' : (Cond.lays C O f ds).before a0 Z = true ∨ ((Cond.laysFinal C O f ds).before a0 Z = true ∧ own = O ∧ meth.name = "<init>") := by rw [F.2.2.2.2.2]; exact Lw
  obtain ⟨T', h', X', e', W', st'⟩ := putFN X F.1 hZ hown w via eT Fd E Lw' wi hty hn hf (g := mkF m pc L.toArray (v :: .ref a :: st)) rfl rfl hd
  obtain ⟨u, o, r1, r⟩ := K h' W' (Keep.of_wr W') W'.size (Fd.same W') T' (WS.wrote X' e' W' g hS hk hZ hown N hO I kn)
  exact ⟨u, o, st' _ r1, r⟩
theorem Run.new (F : Fx p c meth bytes ml ret nm) {C : String} {i sz : Nat} (w : (Cond.classLink own i C).before a0 Z = true) (wi : (Cond.instantiable C sz).before a0 Z = true) (wz : (Cond.initialized C).before a0 Z = true) (hc : k + 1 ≤ R.cells) (hl : n + sz ≤ R.slots) (d : Dc bytes pc (.new i) 3 nx)
    (K : ∀ h' a, a = h.size → Keep h h' [] → a < h'.size → Exa Z h' a C → (∀ {O f ds : String} {ty : FieldType}, Laid Z a0 C O f ds → parseFieldDescriptor ds = some ty → Fld Z h' a O f ds (defaultValue ty)) → Unt h' a → Run Z n0 p l e R s own m args below meth c Q h' (k + 1) (n + sz) Ls nx L (.ref a :: st)) : Run Z n0 p l e R s own m args below meth c Q h k n Ls pc L st := fun T W => by
  have hd := hbD F d; obtain ⟨-, rfl⟩ := d
  obtain ⟨vm0, locs, k0, X, eT, hS, hk, hZ, hown, N, hO, I, kn⟩ := W
  obtain ⟨T', h', X', e', E', A', D', U', st'⟩ := newO X F.1 hZ hown w wi wz eT (g := mkF m pc L.toArray st) rfl hd hc hl
  obtain ⟨u, o, r1, r⟩ := K h' h.size rfl (Keep.ofExt E') A'.lt A' D' U' T' ⟨vm0, locs, k0, X', e', hS, Nat.le_trans hk E'.1, hZ, hown, N, hO.ext E', I, kn⟩
  exact ⟨u, o, st' _ r1, r⟩
theorem Run.checkcast (F : Fx p c meth bytes ml ret nm) {C : String} {i : Nat} {a : Nat} (w : (Cond.classLink own i C).before a0 Z = true) (E : Ins Z h a C true) (d : Dc bytes pc (.checkcast i) 3 nx)
    (K : Run Z n0 p l e R s own m args below meth c Q h k n Ls nx L (.ref a :: st)) : Run Z n0 p l e R s own m args below meth c Q h k n Ls pc L (.ref a :: st) := fun T W => by
  have hd := hbD F d; obtain ⟨-, rfl⟩ := d
  obtain ⟨vm0, locs, k0, X, eT, hS, hk, hZ, hown, N, hO, I, kn⟩ := W
  obtain ⟨T', X', e', st'⟩ := castY X F.1 hZ hown w eT E (g := mkF m pc L.toArray (.ref a :: st)) rfl rfl hd
  obtain ⟨u, o, r1, r⟩ := K T' ⟨vm0, locs, k0, X', e', hS, hk, hZ, hown, N, hO, I, kn⟩
  exact ⟨u, o, st' _ r1, r⟩
theorem Run.checkcastNull (F : Fx p c meth bytes ml ret nm) {i : Nat} (d : Dc bytes pc (.checkcast i) 3 nx)
    (K : Run Z n0 p l e R s own m args below meth c Q h k n Ls nx L (.null :: st)) : Run Z n0 p l e R s own m args below meth c Q h k n Ls pc L (.null :: st) := by
  have hd := hbD F d; obtain ⟨-, rfl⟩ := d
  exact Run.still (fun T vm0 locs X eT hZ hown u s => X.checkcastNull F.1 (g := mkF m pc L.toArray (.null :: st)) rfl rfl hd u s) K
theorem Run.instYes (F : Fx p c meth bytes ml ret nm) {C : String} {i : Nat} {a : Nat} (w : (Cond.classLink own i C).before a0 Z = true) (E : Ins Z h a C true) (d : Dc bytes pc (.instanceof i) 3 nx)
    (K : Run Z n0 p l e R s own m args below meth c Q h k n Ls nx L (.int 1 :: st)) : Run Z n0 p l e R s own m args below meth c Q h k n Ls pc L (.ref a :: st) := fun T W => by
  have hd := hbD F d; obtain ⟨-, rfl⟩ := d
  obtain ⟨vm0, locs, k0, X, eT, hS, hk, hZ, hown, N, hO, I, kn⟩ := W
  obtain ⟨T', X', e', st'⟩ := instY X F.1 hZ hown w eT E (g := mkF m pc L.toArray (.ref a :: st)) rfl rfl hd
  obtain ⟨u, o, r1, r⟩ := K T' ⟨vm0, locs, k0, X', e', hS, hk, hZ, hown, N, hO, I, kn⟩
  exact ⟨u, o, st' _ r1, r⟩
theorem Run.instNull (F : Fx p c meth bytes ml ret nm) {i : Nat} (d : Dc bytes pc (.instanceof i) 3 nx)
    (K : Run Z n0 p l e R s own m args below meth c Q h k n Ls nx L (.int 0 :: st)) : Run Z n0 p l e R s own m args below meth c Q h k n Ls pc L (.null :: st) := by
  have hd := hbD F d; obtain ⟨-, rfl⟩ := d
  exact Run.still (fun T vm0 locs X eT hZ hown u s => X.instanceofNull F.1 (g := mkF m pc L.toArray (.null :: st)) rfl rfl hd u s) K
theorem Run.objInit (F : Fx p c meth bytes ml ret nm) {i : Nat} {a : Nat} (w1 : (Cond.methodLink own i Lib.objectInit).before a0 Z = true) (w2 : (Cond.instanceMethod Lib.objectInit).before a0 Z = true) (w3 : (Cond.code Lib.objectInit ⟨#[0xb1]⟩ 1 none).before a0 Z = true)
    (hsz : L.length = ml) (hf : Nat.ble 1 R.frames = true) (hl : Nat.ble ((st.map fun v => v.category).sum + 12) R.locals = true) (d : Dc bytes pc (.invokespecial i) 3 nx)
    (K : Run Z n0 p l e R s own m args below meth c Q h k n Ls nx L st) : Run Z n0 p l e R s own m args below meth c Q h k n Ls pc L (.ref a :: st) := fun T W => by
  have hd := hbD F d; obtain ⟨-, rfl⟩ := d
  obtain ⟨vm0, locs, k0, X, eT, hS, hk, hZ, hown, N, hO, I, kn⟩ := W
  obtain ⟨T', X', e', st'⟩ := initO X F.1 hZ hown w1 w2 w3 eT (g := mkF m pc L.toArray (.ref a :: st)) rfl (by show L.toArray.size = _; rw [F.2.2.1, ← hsz]; simp) rfl hd (Nat.le_of_ble_eq_true hf) (W := (st.map fun v => v.category).sum) (by show 2 * 0 + _ ≤ _; omega) (Nat.le_of_ble_eq_true hl)
  obtain ⟨u, o, r1, r⟩ := K T' ⟨vm0, locs, k0, X', e', hS, hk, hZ, hown, N, hO, I, kn⟩
  exact ⟨u, o, st' _ r1, r⟩
/-! returns -/
theorem Run.ended {v : Option Value} (hv : meth.sig.returnType = none → v = none) (hlk : meth.locks = false) (hc : k ≤ R.cells) (hl : n ≤ R.slots) (hQ : Q v h Ls)
    (H : ∀ T vm0 locs, Stand p l e R (s.setVm vm0) m args below meth c T locs k n → ∀ fs, (∀ (f : JFrame) (acts : List Action), f.method = m → f.locked = none → f.entered = [] → (doReturn e (T.setTop f) acts v).1 = T.setFrames fs) → Steps p.tables e below (T.setTop (mkF m pc L.toArray st)) (T.setFrames fs)) :
    Run Z n0 p l e R s own m args below meth c Q h k n Ls pc L st := fun T W => by
  obtain ⟨vm0, locs, k0, X, eT, hS, hk, hZ, hown, N, hO, I, kn⟩ := W
  have hi : T.vm.interned = vm0.interned := X.warmed.interned_eq
  obtain ⟨fs, h1, h2, h3, h4⟩ := X.leaveW hS (by rw [eT]; exact hk) hv hlk
  refine ⟨_, _, H T vm0 locs X fs h1, h2, h3, v, locs, Ls, rfl, ?_, ?_, I.eq hi, N, h4.1, h4.2.1, h4.2.2.1, h4.2.2.2.mono hc hl⟩
  · show Q v T.heap Ls; rw [eT]; exact hQ
  · show Old Z n0 T.heap; rw [eT]; exact hO
theorem Run.ireturn {t : FieldType} (F : Fx p c meth bytes ml (some t) nm) {z : Int32} {Q : Value → Heap → Lits → Prop} (ht : t = .int ∨ t = .boolean ∨ t = .byte ∨ t = .char ∨ t = .short) (hn : narrow t (.int z) = .int z) (hc : k ≤ R.cells) (hl : n ≤ R.slots) (d : Dc bytes pc .ireturn 1 nx) (hQ : Q (.int z) h Ls) :
    Run Z n0 p l e R s own m args below meth c (RV Q) h k n Ls pc L (.int z :: st) :=
  Run.ended (v := some (.int z)) (fun q => by rw [F.2.2.2.1] at q; cases q) F.2.2.2.2.1 hc hl ⟨_, rfl, hQ⟩ fun T vm0 locs X fs hr => retOut X F.1 F.2.2.2.1 hn (Or.inl ⟨rfl, ht, _, rfl⟩) (hbD F d) hr
theorem Run.areturn {t : FieldType} (F : Fx p c meth bytes ml (some t) nm) {v : Value} {Q : Value → Heap → Lits → Prop} (ht : t.isReference = true) (hv : v.isRef = true) (hc : k ≤ R.cells) (hl : n ≤ R.slots) (d : Dc bytes pc .areturn 1 nx) (hQ : Q v h Ls) :
    Run Z n0 p l e R s own m args below meth c (RV Q) h k n Ls pc L (v :: st) :=
  Run.ended (v := some v) (fun q => by rw [F.2.2.2.1] at q; cases q) F.2.2.2.2.1 hc hl ⟨_, rfl, hQ⟩ fun T vm0 locs X fs hr => retOut X F.1 F.2.2.2.1 (by rcases ref_cases hv with rfl | ⟨a, rfl⟩ <;> cases t <;> simp [FieldType.isReference] at ht <;> rfl) (Or.inr (Or.inr (Or.inr (Or.inr ⟨rfl, ht, hv⟩)))) (hbD F d) hr
theorem Run.return_ (F : Fx p c meth bytes ml none nm) {Q : Heap → Lits → Prop} (hc : k ≤ R.cells) (hl : n ≤ R.slots) (d : Dc bytes pc .return_ 1 nx) (hQ : Q h Ls) :
    Run Z n0 p l e R s own m args below meth c (RN Q) h k n Ls pc L [] :=
  Run.ended (v := none) (fun q => rfl) F.2.2.2.2.1 hc hl ⟨rfl, hQ⟩ fun T vm0 locs X fs hr => X.returnOut F.1 F.2.2.2.1 (hbD F d) hr
/-! calls -/
theorem Con.back {y : MethodName} {by' : ByteArray} {ml' : Nat} {ret' : Option FieldType} {rm : Room} {as : List Value} {Qy : Option Value → Heap → Lits → Prop} {len W : Nat} (C : Con l Z n0 y by' ml' ret' rm as h Ls [] Qy) (hZ : Z.Warmed39 s.vm) (I : Itn Z s.vm Ls) (kn : Kn s.vm below)
    (wc : (Cond.code y by' ml' ret').before a0 Z = true) (wz : (Cond.initialized y.cls).before a0 Z = true) (hf : rm.frames + 1 ≤ R.frames) (hl : W + (ml' + 11) + rm.locals ≤ R.locals) :
    BackS l R p e below s args y len W (fun A a => a = as.toArray ∧ A.U.heap = h ∧ A.cells + rm.cells ≤ R.cells ∧ A.slots + rm.slots ≤ R.slots)
      (fun A _ v B => ∃ L Ls', Qy v B.U.heap Ls' ∧ Old Z n0 B.U.heap ∧ Itn Z B.U.vm Ls' ∧ Fr n0 L ∧ B.locs = A.locs ++ L ∧ B.cells = A.cells + rm.cells ∧ B.slots = A.slots + rm.slots) :=
  BackS.of_freeWG (bytes := by') (maxL := ml') (ret := ret') (E := fun _ _ o t L k n => k = rm.cells ∧ n = rm.slots ∧ ∃ v Ls', o = .returned v ∧ Qy v t.heap Ls' ∧ Old Z n0 t.heap ∧ Itn Z t.vm Ls' ∧ Fr n0 L) C hf hl
    (fun m meth c A a Y hp => have hU : Z.Warmed39 A.U.vm := wtrans hZ Y.warmed
      ⟨by show (Cond.and _ .tt).before a A.U = true; rw [Cond.before_and, mv hU wc]; rfl, mv hU wc, mv hU wz, hp.2.2.1, hp.2.2.2⟩)
    (fun m meth c A a g mk Y hp => ⟨hp.1, wtrans hZ Y.warmed, hp.2.1, I.eq Y.warmed.interned_eq⟩)
    (fun m meth c A a g mk Y hp hg => by
      have e1 : (A.U.setTop g).frames = .java g :: below := by rw [State.frames_setTop' _ Y.here.top, Y.tail]
      rw [e1]
      exact (kn.alike Y.warmed.alike).push (by rw [hg]; exact Y.method'))
    (fun _ _ _ _ ⟨v, L, Ls', h1, h2, h3, h4, h5, h6⟩ => ⟨L, _, _, h6, rfl, rfl, v, Ls', h1, h2, h3, h4, h5⟩)
    (fun m meth c A a g mk v t L k n Y hp _ _ ⟨e1, e2, v', Ls', e3, e4, e5, e6, e7⟩ => by cases e3; subst e1 e2; exact ⟨L, Ls', e4, e5, e6, e7, rfl, rfl, rfl⟩)
theorem hyOf {C : String} (h : (C == "java/lang/invoke/MethodHandle" || C == "java/lang/invoke/VarHandle") = false) : C ≠ "java/lang/invoke/MethodHandle" ∧ C ≠ "java/lang/invoke/VarHandle" := by simpa using h
theorem Run.callStatic (F : Fx p c meth bytes ml ret nm) {i : Nat} {y : MethodName} {by' : ByteArray} {ml' : Nat} {ret' : Option FieldType} {rm : Room} {as : List Value} {Qy : Option Value → Heap → Lits → Prop} {sig : MethodDescriptor}
    (wl : (Cond.methodLink own i y).before a0 Z = true) (ws : (Cond.static y).before a0 Z = true) (wz : (Cond.initialized y.cls).before a0 Z = true) (wc : (Cond.code y by' ml' ret').before a0 Z = true)
    (C : Con l Z n0 y by' ml' ret' rm as h Ls [] Qy) (hy : (y.cls == "java/lang/invoke/MethodHandle" || y.cls == "java/lang/invoke/VarHandle") = false) (hsig : parseMethodDescriptor y.desc = some sig) (hlen : as.length = sig.parameters.length) (hsz : L.length = ml)
    (hf : Nat.ble (rm.frames + 1) R.frames = true) (hl : Nat.ble ((st.map fun v => v.category).sum + (ml' + 11) + rm.locals) R.locals = true) (hc : k + rm.cells ≤ R.cells) (hs : n + rm.slots ≤ R.slots) {st0 : List Value} (hst : st0 = as.reverse ++ st) (d : Dc bytes pc (.invokestatic i) 3 nx)
    (K : ∀ v h' Ls', Qy v h' Ls' → Old Z n0 h' → h.size ≤ h'.size → Run Z n0 p l e R s own m args below meth c Q h' (k + rm.cells) (n + rm.slots) Ls' nx L (v.toList ++ st)) : Run Z n0 p l e R s own m args below meth c Q h k n Ls pc L st0 := fun T W => by
  have hd := hbD F d; obtain ⟨-, rfl⟩ := d
  obtain ⟨vm0, locs, k0, X, eT, hS, hk, hZ, hown, N, hO, I, kn⟩ := W
  subst hst
  obtain ⟨v, vm1, B, -, X', hS', hg, ⟨L1, Ls', q1, q2, q3, q4, q5, q6, q7⟩, st'⟩ := callSS X F.1 hown (mvT hZ wl) (mvT hZ ws) (mvT hZ wz) (mvT hZ wc) (hyOf hy) (C.back hZ I (kn.alike hS.1.alike) wc wz (Nat.le_of_ble_eq_true hf) (Nat.le_of_ble_eq_true hl)) (g := mkF m pc L.toArray (as.reverse ++ st)) rfl (by show L.toArray.size = _; rw [F.2.2.1, ← hsz]; simp) (argsL := as) (rest := st) (lenOf hsig hlen) rfl (by show 2 * 0 + _ ≤ _; omega) hd (fun _ _ => ⟨rfl, eT, hc, hs⟩)
  dsimp only [Pt.U, Pt.locs, Pt.cells, Pt.slots] at X' hS' hg q1 q2 q3 q5 q6 q7 st'
  rw [q5, q6, q7] at X'
  rw [eT] at hg
  obtain ⟨u, o, r1, r⟩ := K v _ Ls' q1 q2 hg B.1 ⟨B.1.vm, _, _, X', rfl, hS.trans hS' (Nat.le_trans hk hg), Nat.le_refl _, State.Warmed39.trans hZ hS'.1, (hS'.1.alike.findClass _ _).trans hown, N.app q4, q2, q3, kn⟩
  exact ⟨u, o, st'.trans r1, r⟩
theorem Run.callInit (F : Fx p c meth bytes ml ret nm) {i : Nat} {y : MethodName} {by' : ByteArray} {ml' : Nat} {rm : Room} {a : Nat} {as : List Value} {Qy : Option Value → Heap → Lits → Prop} {sig : MethodDescriptor}
    (wl : (Cond.methodLink own i y).before a0 Z = true) (ws : (Cond.instanceMethod y).before a0 Z = true) (wz : (Cond.initialized y.cls).before a0 Z = true) (wc : (Cond.code y by' ml' none).before a0 Z = true)
    (C : Con l Z n0 y by' ml' none rm (.ref a :: as) h Ls [] Qy) (hi : y.name = "<init>") (hy : (y.cls == "java/lang/invoke/MethodHandle" || y.cls == "java/lang/invoke/VarHandle") = false) (hsig : parseMethodDescriptor y.desc = some sig) (hlen : as.length = sig.parameters.length) (hsz : L.length = ml)
    (hf : Nat.ble (rm.frames + 1) R.frames = true) (hl : Nat.ble ((st.map fun v => v.category).sum + (ml' + 11) + rm.locals) R.locals = true) (hc : k + rm.cells ≤ R.cells) (hs : n + rm.slots ≤ R.slots) {st0 : List Value} (hst : st0 = as.reverse ++ .ref a :: st) (d : Dc bytes pc (.invokespecial i) 3 nx)
    (K : ∀ v h' Ls', Qy v h' Ls' → Old Z n0 h' → h.size ≤ h'.size → Run Z n0 p l e R s own m args below meth c Q h' (k + rm.cells) (n + rm.slots) Ls' nx L (v.toList ++ st)) : Run Z n0 p l e R s own m args below meth c Q h k n Ls pc L st0 := fun T W => by
  have hd := hbD F d; obtain ⟨-, rfl⟩ := d
  obtain ⟨vm0, locs, k0, X, eT, hS, hk, hZ, hown, N, hO, I, kn⟩ := W
  subst hst
  obtain ⟨v, vm1, B, -, X', hS', hg, ⟨L1, Ls', q1, q2, q3, q4, q5, q6, q7⟩, st'⟩ := X.specialBackS F.1 hi hown (mvT hZ wl) (mvT hZ ws) (mvT hZ wc) (hyOf hy) (C.back hZ I (kn.alike hS.1.alike) wc wz (Nat.le_of_ble_eq_true hf) (Nat.le_of_ble_eq_true hl)) (g := mkF m pc L.toArray (as.reverse ++ .ref a :: st)) rfl (by show L.toArray.size = _; rw [F.2.2.1, ← hsz]; simp) (Steps.refl _) (a := a) (argsL := as) (rest := st) (lenOf hsig hlen) rfl (by show 2 * 0 + _ ≤ _; omega) hd (fun _ _ => ⟨rfl, eT, hc, hs⟩)
  dsimp only [Pt.U, Pt.locs, Pt.cells, Pt.slots] at X' hS' hg q1 q2 q3 q5 q6 q7 st'
  rw [q5, q6, q7] at X'
  rw [eT] at hg
  obtain ⟨u, o, r1, r⟩ := K v _ Ls' q1 q2 hg B.1 ⟨B.1.vm, _, _, X', rfl, hS.trans hS' (Nat.le_trans hk hg), Nat.le_refl _, State.Warmed39.trans hZ hS'.1, (hS'.1.alike.findClass _ _).trans hown, N.app q4, q2, q3, kn⟩
  exact ⟨u, o, st'.trans r1, r⟩
theorem Run.callVirtual (F : Fx p c meth bytes ml ret nm) {i : Nat} {y z : MethodName} {K0 : String} {by' : ByteArray} {ml' : Nat} {ret' : Option FieldType} {rm : Room} {a : Nat} {as : List Value} {Qy : Option Value → Heap → Lits → Prop} {sig : MethodDescriptor}
    (wl : (Cond.methodLink own i y).before a0 Z = true) (wd : (Cond.declares y).before a0 Z = true) (nf : ∀ U : State, Z.Warmed39 U.vm → NotFace U y) (wsel : (Cond.selects K0 y z).before a0 Z = true) (ws : (Cond.instanceMethod z).before a0 Z = true) (wz : (Cond.initialized z.cls).before a0 Z = true) (wc : (Cond.code z by' ml' ret').before a0 Z = true) (E : Exa Z h a K0)
    (C : Con l Z n0 z by' ml' ret' rm (.ref a :: as) h Ls [] Qy) (hy : (y.cls == "java/lang/invoke/MethodHandle" || y.cls == "java/lang/invoke/VarHandle") = false) (hsig : parseMethodDescriptor y.desc = some sig) (hlen : as.length = sig.parameters.length) (hsz : L.length = ml)
    (hf : Nat.ble (rm.frames + 1) R.frames = true) (hl : Nat.ble ((st.map fun v => v.category).sum + (ml' + 11) + rm.locals) R.locals = true) (hc : k + rm.cells ≤ R.cells) (hs : n + rm.slots ≤ R.slots) {st0 : List Value} (hst : st0 = as.reverse ++ .ref a :: st) (d : Dc bytes pc (.invokevirtual i) 3 nx)
    (K : ∀ v h' Ls', Qy v h' Ls' → Old Z n0 h' → h.size ≤ h'.size → Run Z n0 p l e R s own m args below meth c Q h' (k + rm.cells) (n + rm.slots) Ls' nx L (v.toList ++ st)) : Run Z n0 p l e R s own m args below meth c Q h k n Ls pc L st0 := fun T W => by
  have hd := hbD F d; obtain ⟨-, rfl⟩ := d
  obtain ⟨vm0, locs, k0, X, eT, hS, hk, hZ, hown, N, hO, I, kn⟩ := W
  subst hst
  obtain ⟨cq, kq, qa, qb, qc⟩ := isOf hZ eT E
  obtain ⟨v, vm1, B, -, X', hS', hg, ⟨L1, Ls', q1, q2, q3, q4, q5, q6, q7⟩, st'⟩ := X.virtualBackS F.1 hown (mvT hZ wl) (mvT hZ wd) (nf _ hZ) (mvT hZ wsel) (mvT hZ ws) (hyOf hy) (C.back hZ I (kn.alike hS.1.alike) wc wz (Nat.le_of_ble_eq_true hf) (Nat.le_of_ble_eq_true hl)) qa qc (g := mkF m pc L.toArray (as.reverse ++ .ref a :: st)) rfl (by show L.toArray.size = _; rw [F.2.2.1, ← hsz]; simp) (Steps.refl _) (argsL := as) (rest := st) (lenOf hsig hlen) rfl (by show 2 * 0 + _ ≤ _; omega) hd (fun _ _ => ⟨rfl, eT, hc, hs⟩)
  dsimp only [Pt.U, Pt.locs, Pt.cells, Pt.slots] at X' hS' hg q1 q2 q3 q5 q6 q7 st'
  rw [q5, q6, q7] at X'
  rw [eT] at hg
  obtain ⟨u, o, r1, r⟩ := K v _ Ls' q1 q2 hg B.1 ⟨B.1.vm, _, _, X', rfl, hS.trans hS' (Nat.le_trans hk hg), Nat.le_refl _, State.Warmed39.trans hZ hS'.1, (hS'.1.alike.findClass _ _).trans hown, N.app q4, q2, q3, kn⟩
  exact ⟨u, o, st'.trans r1, r⟩
end Laws
end Jvm.Own
namespace Jvm.Own
open Sem ClassFile Op Lib Jvm.Stand Jvm.Free Jvm.LawKit Jvm.RoadKit
def b2i (b : Bool) : Int32 := if b then 1 else 0
theorem ic_lt (x y : Int32) : if_icmp.holds .lt x y = decide (x.toInt < y.toInt) := by simp [if_icmp.holds, Int32.lt_iff_toInt_lt]
theorem ic_ge (x y : Int32) : if_icmp.holds .ge x y = decide (y.toInt ≤ x.toInt) := by simp [if_icmp.holds, Int32.le_iff_toInt_le]
theorem ic_gt (x y : Int32) : if_icmp.holds .gt x y = decide (y.toInt < x.toInt) := by simp [if_icmp.holds, Int32.lt_iff_toInt_lt]
theorem ic_le (x y : Int32) : if_icmp.holds .le x y = decide (x.toInt ≤ y.toInt) := by simp [if_icmp.holds, Int32.le_iff_toInt_le]
theorem ic_eq (x y : Int32) : if_icmp.holds .eq x y = decide (x.toInt = y.toInt) := by
  by_cases q : x = y
  · subst q; simp [if_icmp.holds]
  · have : x.toInt ≠ y.toInt := fun e => q (Int32.toInt_inj.mp e)
    simp [if_icmp.holds, q, this]
theorem ic_ne (x y : Int32) : if_icmp.holds .ne x y = decide (x.toInt ≠ y.toInt) := by
  by_cases q : x = y
  · simp [if_icmp.holds, q]
  · have : x.toInt ≠ y.toInt := fun e => q (Int32.toInt_inj.mp e)
    simp [if_icmp.holds, q, this]
section Branch
variable {Z : State} {n0 : Nat} {p : Program} {l : Launch} {e : Env} {R : Room} {s : State} {own : String} {m : MethodId} {args : Array Value} {below : List Frame} {meth : Method} {c : Code} {Q : Option Value → Heap → Lits → Prop} {h : Heap} {k n : Nat} {Ls : Lits} {pc nx : Nat} {L : List Slot} {st : List Value}
variable {bytes : ByteArray} {ml : Nat} {ret : Option FieldType} {nm : String} {a0 : Array Value}

theorem Run.icmp_lt (F : Fx p c meth bytes ml ret nm) {x y : Int32} {o : Int} {t : Nat} (d : Dc bytes pc (.if_icmp .lt o) 3 nx) (ht : (pc : Int) + o = (t : Int)) {xi yi : Int} (hx : x.toInt = xi) (hy : y.toInt = yi)
    (K1 : xi < yi → Run Z n0 p l e R s own m args below meth c Q h k n Ls t L st) (K2 : yi ≤ xi → Run Z n0 p l e R s own m args below meth c Q h k n Ls nx L st) : Run Z n0 p l e R s own m args below meth c Q h k n Ls pc L (.int y :: .int x :: st) := by
  subst hx hy
  refine Run.icmp F d ht (fun q => K1 ?_) (fun q => K2 ?_)
  · rw [ic_lt] at q; exact of_decide_eq_true q
  · rw [ic_lt] at q; have := of_decide_eq_false q; omega
theorem Run.icmp_ge (F : Fx p c meth bytes ml ret nm) {x y : Int32} {o : Int} {t : Nat} (d : Dc bytes pc (.if_icmp .ge o) 3 nx) (ht : (pc : Int) + o = (t : Int)) {xi yi : Int} (hx : x.toInt = xi) (hy : y.toInt = yi)
    (K1 : yi ≤ xi → Run Z n0 p l e R s own m args below meth c Q h k n Ls t L st) (K2 : xi < yi → Run Z n0 p l e R s own m args below meth c Q h k n Ls nx L st) : Run Z n0 p l e R s own m args below meth c Q h k n Ls pc L (.int y :: .int x :: st) := by
  subst hx hy
  refine Run.icmp F d ht (fun q => K1 ?_) (fun q => K2 ?_)
  · rw [ic_ge] at q; exact of_decide_eq_true q
  · rw [ic_ge] at q; have := of_decide_eq_false q; omega
theorem Run.icmp_gt (F : Fx p c meth bytes ml ret nm) {x y : Int32} {o : Int} {t : Nat} (d : Dc bytes pc (.if_icmp .gt o) 3 nx) (ht : (pc : Int) + o = (t : Int)) {xi yi : Int} (hx : x.toInt = xi) (hy : y.toInt = yi)
    (K1 : yi < xi → Run Z n0 p l e R s own m args below meth c Q h k n Ls t L st) (K2 : xi ≤ yi → Run Z n0 p l e R s own m args below meth c Q h k n Ls nx L st) : Run Z n0 p l e R s own m args below meth c Q h k n Ls pc L (.int y :: .int x :: st) := by
  subst hx hy
  refine Run.icmp F d ht (fun q => K1 ?_) (fun q => K2 ?_)
  · rw [ic_gt] at q; exact of_decide_eq_true q
  · rw [ic_gt] at q; have := of_decide_eq_false q; omega
theorem Run.icmp_le (F : Fx p c meth bytes ml ret nm) {x y : Int32} {o : Int} {t : Nat} (d : Dc bytes pc (.if_icmp .le o) 3 nx) (ht : (pc : Int) + o = (t : Int)) {xi yi : Int} (hx : x.toInt = xi) (hy : y.toInt = yi)
    (K1 : xi ≤ yi → Run Z n0 p l e R s own m args below meth c Q h k n Ls t L st) (K2 : yi < xi → Run Z n0 p l e R s own m args below meth c Q h k n Ls nx L st) : Run Z n0 p l e R s own m args below meth c Q h k n Ls pc L (.int y :: .int x :: st) := by
  subst hx hy
  refine Run.icmp F d ht (fun q => K1 ?_) (fun q => K2 ?_)
  · rw [ic_le] at q; exact of_decide_eq_true q
  · rw [ic_le] at q; have := of_decide_eq_false q; omega
theorem Run.icmp_eq (F : Fx p c meth bytes ml ret nm) {x y : Int32} {o : Int} {t : Nat} (d : Dc bytes pc (.if_icmp .eq o) 3 nx) (ht : (pc : Int) + o = (t : Int)) {xi yi : Int} (hx : x.toInt = xi) (hy : y.toInt = yi)
    (K1 : xi = yi → Run Z n0 p l e R s own m args below meth c Q h k n Ls t L st) (K2 : xi ≠ yi → Run Z n0 p l e R s own m args below meth c Q h k n Ls nx L st) : Run Z n0 p l e R s own m args below meth c Q h k n Ls pc L (.int y :: .int x :: st) := by
  subst hx hy
  refine Run.icmp F d ht (fun q => K1 ?_) (fun q => K2 ?_)
  · rw [ic_eq] at q; exact of_decide_eq_true q
  · rw [ic_eq] at q; have := of_decide_eq_false q; omega
theorem Run.icmp_ne (F : Fx p c meth bytes ml ret nm) {x y : Int32} {o : Int} {t : Nat} (d : Dc bytes pc (.if_icmp .ne o) 3 nx) (ht : (pc : Int) + o = (t : Int)) {xi yi : Int} (hx : x.toInt = xi) (hy : y.toInt = yi)
    (K1 : xi ≠ yi → Run Z n0 p l e R s own m args below meth c Q h k n Ls t L st) (K2 : xi = yi → Run Z n0 p l e R s own m args below meth c Q h k n Ls nx L st) : Run Z n0 p l e R s own m args below meth c Q h k n Ls pc L (.int y :: .int x :: st) := by
  subst hx hy
  refine Run.icmp F d ht (fun q => K1 ?_) (fun q => K2 ?_)
  · rw [ic_ne] at q; exact of_decide_eq_true q
  · rw [ic_ne] at q; have := of_decide_eq_false q; omega
theorem Run.if_lt (F : Fx p c meth bytes ml ret nm) {x : Int32} {o : Int} {t : Nat} (d : Dc bytes pc (.ifCond .lt o) 3 nx) (ht : (pc : Int) + o = (t : Int)) {xi : Int} (hx : x.toInt = xi)
    (K1 : xi < 0 → Run Z n0 p l e R s own m args below meth c Q h k n Ls t L st) (K2 : 0 ≤ xi → Run Z n0 p l e R s own m args below meth c Q h k n Ls nx L st) : Run Z n0 p l e R s own m args below meth c Q h k n Ls pc L (.int x :: st) := by
  subst hx
  have z : (0 : Int32).toInt = 0 := rfl
  refine Run.if_ F d ht (fun q => K1 ?_) (fun q => K2 ?_)
  · rw [if0, ic_lt, z] at q; exact of_decide_eq_true q
  · rw [if0, ic_lt, z] at q; have := of_decide_eq_false q; omega
theorem Run.if_ge (F : Fx p c meth bytes ml ret nm) {x : Int32} {o : Int} {t : Nat} (d : Dc bytes pc (.ifCond .ge o) 3 nx) (ht : (pc : Int) + o = (t : Int)) {xi : Int} (hx : x.toInt = xi)
    (K1 : 0 ≤ xi → Run Z n0 p l e R s own m args below meth c Q h k n Ls t L st) (K2 : xi < 0 → Run Z n0 p l e R s own m args below meth c Q h k n Ls nx L st) : Run Z n0 p l e R s own m args below meth c Q h k n Ls pc L (.int x :: st) := by
  subst hx
  have z : (0 : Int32).toInt = 0 := rfl
  refine Run.if_ F d ht (fun q => K1 ?_) (fun q => K2 ?_)
  · rw [if0, ic_ge, z] at q; exact of_decide_eq_true q
  · rw [if0, ic_ge, z] at q; have := of_decide_eq_false q; omega
theorem Run.if_gt (F : Fx p c meth bytes ml ret nm) {x : Int32} {o : Int} {t : Nat} (d : Dc bytes pc (.ifCond .gt o) 3 nx) (ht : (pc : Int) + o = (t : Int)) {xi : Int} (hx : x.toInt = xi)
    (K1 : 0 < xi → Run Z n0 p l e R s own m args below meth c Q h k n Ls t L st) (K2 : xi ≤ 0 → Run Z n0 p l e R s own m args below meth c Q h k n Ls nx L st) : Run Z n0 p l e R s own m args below meth c Q h k n Ls pc L (.int x :: st) := by
  subst hx
  have z : (0 : Int32).toInt = 0 := rfl
  refine Run.if_ F d ht (fun q => K1 ?_) (fun q => K2 ?_)
  · rw [if0, ic_gt, z] at q; exact of_decide_eq_true q
  · rw [if0, ic_gt, z] at q; have := of_decide_eq_false q; omega
theorem Run.if_le (F : Fx p c meth bytes ml ret nm) {x : Int32} {o : Int} {t : Nat} (d : Dc bytes pc (.ifCond .le o) 3 nx) (ht : (pc : Int) + o = (t : Int)) {xi : Int} (hx : x.toInt = xi)
    (K1 : xi ≤ 0 → Run Z n0 p l e R s own m args below meth c Q h k n Ls t L st) (K2 : 0 < xi → Run Z n0 p l e R s own m args below meth c Q h k n Ls nx L st) : Run Z n0 p l e R s own m args below meth c Q h k n Ls pc L (.int x :: st) := by
  subst hx
  have z : (0 : Int32).toInt = 0 := rfl
  refine Run.if_ F d ht (fun q => K1 ?_) (fun q => K2 ?_)
  · rw [if0, ic_le, z] at q; exact of_decide_eq_true q
  · rw [if0, ic_le, z] at q; have := of_decide_eq_false q; omega
theorem Run.if_eq (F : Fx p c meth bytes ml ret nm) {x : Int32} {o : Int} {t : Nat} (d : Dc bytes pc (.ifCond .eq o) 3 nx) (ht : (pc : Int) + o = (t : Int)) {xi : Int} (hx : x.toInt = xi)
    (K1 : xi = 0 → Run Z n0 p l e R s own m args below meth c Q h k n Ls t L st) (K2 : xi ≠ 0 → Run Z n0 p l e R s own m args below meth c Q h k n Ls nx L st) : Run Z n0 p l e R s own m args below meth c Q h k n Ls pc L (.int x :: st) := by
  subst hx
  have z : (0 : Int32).toInt = 0 := rfl
  refine Run.if_ F d ht (fun q => K1 ?_) (fun q => K2 ?_)
  · rw [if0, ic_eq, z] at q; exact of_decide_eq_true q
  · rw [if0, ic_eq, z] at q; have := of_decide_eq_false q; omega
theorem Run.if_ne (F : Fx p c meth bytes ml ret nm) {x : Int32} {o : Int} {t : Nat} (d : Dc bytes pc (.ifCond .ne o) 3 nx) (ht : (pc : Int) + o = (t : Int)) {xi : Int} (hx : x.toInt = xi)
    (K1 : xi ≠ 0 → Run Z n0 p l e R s own m args below meth c Q h k n Ls t L st) (K2 : xi = 0 → Run Z n0 p l e R s own m args below meth c Q h k n Ls nx L st) : Run Z n0 p l e R s own m args below meth c Q h k n Ls pc L (.int x :: st) := by
  subst hx
  have z : (0 : Int32).toInt = 0 := rfl
  refine Run.if_ F d ht (fun q => K1 ?_) (fun q => K2 ?_)
  · rw [if0, ic_ne, z] at q; exact of_decide_eq_true q
  · rw [if0, ic_ne, z] at q; have := of_decide_eq_false q; omega
theorem Run.ifB_eq (F : Fx p c meth bytes ml ret nm) {b : Bool} {o : Int} {t : Nat} (d : Dc bytes pc (.ifCond .eq o) 3 nx) (ht : (pc : Int) + o = (t : Int))
    (K1 : b = false → Run Z n0 p l e R s own m args below meth c Q h k n Ls t L st) (K2 : b = true → Run Z n0 p l e R s own m args below meth c Q h k n Ls nx L st) : Run Z n0 p l e R s own m args below meth c Q h k n Ls pc L (.int (b2i b) :: st) := by
  cases b
  · exact Run.ifYes F d ht rfl (K1 rfl)
  · exact Run.ifNo F d rfl (K2 rfl)
theorem Run.ifB_ne (F : Fx p c meth bytes ml ret nm) {b : Bool} {o : Int} {t : Nat} (d : Dc bytes pc (.ifCond .ne o) 3 nx) (ht : (pc : Int) + o = (t : Int))
    (K1 : b = true → Run Z n0 p l e R s own m args below meth c Q h k n Ls t L st) (K2 : b = false → Run Z n0 p l e R s own m args below meth c Q h k n Ls nx L st) : Run Z n0 p l e R s own m args below meth c Q h k n Ls pc L (.int (b2i b) :: st) := by
  cases b
  · exact Run.ifNo F d rfl (K2 rfl)
  · exact Run.ifYes F d ht rfl (K1 rfl)
theorem Run.icmpB_eq (F : Fx p c meth bytes ml ret nm) {b b' : Bool} {o : Int} {t : Nat} (d : Dc bytes pc (.if_icmp .eq o) 3 nx) (ht : (pc : Int) + o = (t : Int))
    (K1 : b = b' → Run Z n0 p l e R s own m args below meth c Q h k n Ls t L st) (K2 : b ≠ b' → Run Z n0 p l e R s own m args below meth c Q h k n Ls nx L st) : Run Z n0 p l e R s own m args below meth c Q h k n Ls pc L (.int (b2i b') :: .int (b2i b) :: st) := by
  cases b <;> cases b'
  · exact Run.icmpYes F d ht rfl (K1 rfl)
  · exact Run.icmpNo F d rfl (K2 (by decide))
  · exact Run.icmpNo F d rfl (K2 (by decide))
  · exact Run.icmpYes F d ht rfl (K1 rfl)
theorem Run.icmpB_ne (F : Fx p c meth bytes ml ret nm) {b b' : Bool} {o : Int} {t : Nat} (d : Dc bytes pc (.if_icmp .ne o) 3 nx) (ht : (pc : Int) + o = (t : Int))
    (K1 : b ≠ b' → Run Z n0 p l e R s own m args below meth c Q h k n Ls t L st) (K2 : b = b' → Run Z n0 p l e R s own m args below meth c Q h k n Ls nx L st) : Run Z n0 p l e R s own m args below meth c Q h k n Ls pc L (.int (b2i b') :: .int (b2i b) :: st) := by
  cases b <;> cases b'
  · exact Run.icmpNo F d rfl (K2 rfl)
  · exact Run.icmpYes F d ht rfl (K1 (by decide))
  · exact Run.icmpYes F d ht rfl (K1 (by decide))
  · exact Run.icmpNo F d rfl (K2 rfl)
/-- a loop's head: P r .. with r the turns left -/
theorem Run.rec (P : Nat → Heap → Nat → Nat → Lits → List Slot → List Value → Prop)
    (step : ∀ r h k n Ls L st, P r h k n Ls L st → (∀ r' h' k' n' Ls' L' st', r' < r → P r' h' k' n' Ls' L' st' → Run Z n0 p l e R s own m args below meth c Q h' k' n' Ls' pc L' st') → Run Z n0 p l e R s own m args below meth c Q h k n Ls pc L st) :
    ∀ r h k n Ls L st, P r h k n Ls L st → Run Z n0 p l e R s own m args below meth c Q h k n Ls pc L st := fun r => by
  induction r using Nat.strongRecOn with
  | ind r ih => exact fun h k n Ls L st hP => step r h k n Ls L st hP fun r' h' k' n' Ls' L' st' hr hP' => ih r' hr h' k' n' Ls' L' st' hP'
/-- a place where roads meet -/
theorem Run.via {pcJ : Nat} (P : Heap → Nat → Nat → Lits → List Slot → List Value → Prop)
    (J : ∀ h k n Ls L st, P h k n Ls L st → Run Z n0 p l e R s own m args below meth c Q h k n Ls pcJ L st) (K : (∀ h k n Ls L st, P h k n Ls L st → Run Z n0 p l e R s own m args below meth c Q h k n Ls pcJ L st) → Run Z n0 p l e R s own m args below meth c Q h k n Ls pc L st) : Run Z n0 p l e R s own m args below meth c Q h k n Ls pc L st := K J
/-- .. the same, only the stack told -/
theorem Run.viaS {pcJ : Nat} (P : List Value → Prop)
    (J : ∀ st', P st' → Run Z n0 p l e R s own m args below meth c Q h k n Ls pcJ L st') (K : (∀ st', P st' → Run Z n0 p l e R s own m args below meth c Q h k n Ls pcJ L st') → Run Z n0 p l e R s own m args below meth c Q h k n Ls pc L st) : Run Z n0 p l e R s own m args below meth c Q h k n Ls pc L st := K J
/-- as if more had been made -/
theorem Run.more {k' n' : Nat} (hk : k ≤ k') (hn : n ≤ n') (K : Run Z n0 p l e R s own m args below meth c Q h k' n' Ls pc L st) : Run Z n0 p l e R s own m args below meth c Q h k n Ls pc L st := fun T W => by
  obtain ⟨vm0, locs, k0, X, r⟩ := W
  exact K T ⟨vm0, locs, k0, X.mono hk hn, r⟩
end Branch
end Jvm.Own
namespace Jvm.Own
open Sem ClassFile Op Lib Jvm.Stand Jvm.Free Jvm.LawKit Jvm.RoadKit
theorem i32_nn {i : Nat} (h : i < 2 ^ 31) : ¬ Int32.ofNat i < 0 := by
  rw [Int32.lt_iff_toInt_lt, Int32.toInt_ofNat_small h]
  have z : (0 : Int32).toInt = 0 := rfl
  omega
theorem i32_tn {i : Nat} (h : i < 2 ^ 31) : (Int32.ofNat i).toNatClampNeg = i := Jvm.Free.XT.n32 h
theorem i32_ti {i : Nat} (h : i < 2 ^ 31) : (Int32.ofNat i).toInt = i := Int32.toInt_ofNat_small h
theorem i32_eq {x : Int32} {i : Nat} (h : x.toInt = i) : x = Int32.ofNat i := by
  apply Int32.toInt_inj.mp
  have := x.toInt_lt
  rw [h, Int32.toInt_ofNat_small (by omega)]
theorem i32_nneg {x : Int32} (h : 0 ≤ x.toInt) : ¬ x < 0 := by
  rw [Int32.lt_iff_toInt_lt]; have z : (0 : Int32).toInt = 0 := rfl; omega
theorem i32_nat {x : Int32} {i : Nat} (h : x.toInt = i) : x.toNatClampNeg = i := by show x.toInt.toNat = i; omega
/-- the byte that holds a char -/
def lb (c : Int32) : Value := .int c.toInt8.toInt32
theorem chr_toInt (x : Int32) : (chr x).toInt = x.toInt % 65536 := by
  have e : (chr x).toBitVec.toNat = x.toBitVec.toNat % 65536 := by
    show x.toUInt32.toUInt16.toUInt32.toNat = _
    rw [UInt16.toNat_toUInt32, UInt32.toNat_toUInt16]; rfl
  have h1 : (chr x).toInt = (chr x).toBitVec.toInt := rfl
  have h2 : x.toInt = x.toBitVec.toInt := rfl
  rw [h1, h2, BitVec.toInt_eq_toNat_cond, BitVec.toInt_eq_toNat_cond, e]
  have := x.toBitVec.isLt
  split <;> split <;> omega
theorem chr_id {x : Int32} (h0 : 0 ≤ x.toInt) (h1 : x.toInt < 65536) : chr x = x := Int32.toInt_inj.mp (by rw [chr_toInt]; omega)
theorem chr_chr (x : Int32) : chr (chr x) = chr x := chr_id (by rw [chr_toInt]; omega) (by rw [chr_toInt]; omega)
theorem nar_char (x : Int32) : nar .char x = chr x := rfl
theorem narrow_chr (x : Int32) : narrow .char (.int (chr x)) = .int (chr x) := by
  have : narrow .char (.int (chr x)) = .int (chr (chr x)) := rfl
  rw [this, chr_chr]
theorem narrow_char {x : Int32} (h0 : 0 ≤ x.toInt) (h1 : x.toInt < 65536) : narrow .char (.int x) = .int x := by rw [← chr_id h0 h1]; exact narrow_chr x
theorem and255 (x : Int32) : (x &&& 255).toInt = x.toInt % 256 := c_mask x 255 8 (by decide) (by decide)
theorem low8 {c : Int32} (h0 : 0 ≤ c.toInt) (h1 : c.toInt < 256) : chr (c.toInt8.toInt32 &&& 255) = c := by
  apply Int32.toInt_inj.mp
  have := c_i2b c
  rw [chr_toInt, and255]; omega
theorem narB (c : Int32) : nar .byte c.toInt8.toInt32 = c.toInt8.toInt32 := by
  show c.toInt8.toInt32.toInt8.toInt32 = _
  simp
theorem b2i_narrow (b : Bool) : narrow .boolean (.int (b2i b)) = .int (b2i b) := by cases b <;> rfl
theorem take_set {cs : List Int32} {i r : Nat} {c : Int32} (hi : i + (r + 1) = cs.length) (hc : cs[i]? = some c) :
    ((cs.take i).map lb ++ List.replicate (r + 1) (Value.int 0)).set i (lb c) = (cs.take (i + 1)).map lb ++ List.replicate r (Value.int 0) := by
  have hl : ((cs.take i).map lb).length = i := by simp; omega
  rw [List.set_append_right _ _ (by omega), hl, Nat.sub_self, List.replicate_succ, List.set_cons_zero, List.take_succ, hc]
  simp
theorem mapInt_get {cs : List Int32} {i : Nat} {c : Int32} (h : cs[i]? = some c) : (cs.map Value.int)[i]? = some (.int c) := by simp [h]
theorem lb_get {cs : List Int32} {i : Nat} {c : Int32} (h : cs[i]? = some c) : (cs.map lb)[i]? = some (.int c.toInt8.toInt32) := by simp [h, lb]
theorem coder0 (n : Nat) : ((XT.ushr (Int32.ofNat n - Int32.ofNat n) 31).toInt8.toInt32) = 0 := by
  rw [Int32.sub_self]; decide
theorem i32_pred {i : Nat} (h : i < 2 ^ 31) : (Int32.ofNat i - 1).toInt = (i : Int) - 1 := by
  have h1 := c_isub (Int32.ofNat i) 1
  have h2 := rng32 (Int32.ofNat i - 1)
  have h3 : (1 : Int32).toInt = 1 := rfl
  rw [i32_ti h, h3] at h1
  omega
theorem chr255 (x : Int32) : 0 ≤ (chr (x &&& 255)).toInt ∧ (chr (x &&& 255)).toInt < 256 := by rw [chr_toInt, and255]; omega
theorem i32_mod {x y : Int32} (hx : 0 ≤ x.toInt) (hy : 0 < y.toInt) : (x % y).toInt = x.toInt % y.toInt := by
  rw [Int32.toInt_mod, Int.tmod_eq_emod_of_nonneg hx]
theorem mask31 (x : Int32) : (x &&& 2147483647).toInt = x.toInt % 2147483648 := c_mask x 2147483647 31 (by decide) (by decide)
theorem ltE {Z : State} {h : Heap} {a : Nat} {C : String} (E : Exa Z h a C) : a < h.size := E.lt
theorem ninN {x y : Nat} {L : List Nat} (q : x ≠ y) (r : x ∉ L) : x ∉ y :: L := fun z => (List.mem_cons.mp z).elim q r
theorem mem1 {x : Nat} : x ∈ [x] := List.mem_singleton.mpr rfl
theorem mem2 {x y : Nat} : x ∈ [x, y] := List.mem_cons_self ..
theorem mem3 {x y : Nat} : y ∈ [x, y] := List.mem_cons_of_mem _ mem1
end Jvm.Own
namespace Jvm.Own
open Sem ClassFile Op Lib Jvm.Stand Jvm.Free Jvm.LawKit Jvm.RoadKit Jvm.Free.SB Jvm.Free.SBG
/-- a String and its bytes -/
def Str (Z : State) (h : Heap) (a b : Nat) (co : Int32) (vs : List Value) : Prop :=
  Exa Z h a "java/lang/String" ∧ Fld Z h a "java/lang/String" "coder" "B" (.int co) ∧ Fld Z h a "java/lang/String" "value" "[B" (.ref b) ∧ Av Z h b .byte vs
theorem Str.keep {Z : State} {h h' : Heap} {ws : List Addr} {a b : Nat} {co : Int32} {vs : List Value} (S : Str Z h a b co vs) (K : Keep h h' ws) (q : a ∉ ws) (q' : b ∉ ws) : Str Z h' a b co vs :=
  ⟨S.1.keep K, S.2.1.keep K q, S.2.2.1.keep K q, S.2.2.2.keep K q'⟩
theorem Str.la {Z : State} {h : Heap} {a b : Nat} {co : Int32} {vs : List Value} (S : Str Z h a b co vs) : a < h.size := S.1.lt
theorem Str.lb {Z : State} {h : Heap} {a b : Nat} {co : Int32} {vs : List Value} (S : Str Z h a b co vs) : b < h.size := S.2.2.2.lt
def litB (text : String) : List Value := text.toList.map fun c => Value.int (Jvm.Lit.byteI c.toNat.toUInt16)
theorem slStr {Z U : State} {q : SQ} {cS : ClassId} {units : Array UInt16} {text : String} (hal : Z.vm.Alike U.vm) (htext : utf16ToString? units = some text) (ht : ∀ c ∈ text.toList, c.toNat < 256) (S : Sl q cS U)
    (hk : ∃ kS : Class, U.vm.classes[cS]? = some kS ∧ kS.kind = .ordinary ∧ q.sC.slots.size = kS.instanceTypes.size) (hB : U.vm.findClass "[B" = some q.SA.cls) (hb : q.SA.slots = stringBytes units) : Str Z U.heap q.sa q.sd 0 (litB text) := by
  obtain ⟨⟨s1, s2, s3, ⟨cv, kv, iv, s4, s4'⟩, ⟨cc, kc, ic, s5, s5'⟩, s6, s7, s8, s9, s10, s11, s12, s13, s14, s15, s16⟩, hf, hc⟩ := S
  obtain ⟨kv', z4⟩ := ff_back hal s4
  obtain ⟨kc', z5⟩ := ff_back hal s5
  obtain ⟨kS, k1, -, k3⟩ := hk
  have hfZ : Z.vm.findClass "java/lang/String" = some q.sC.cls := by rw [← hal.findClass, hc]; exact hf
  obtain ⟨kz, hkz, -⟩ := Vm.findClass_spec hfZ
  obtain ⟨kz', hkz', ekz⟩ := hal.2.2 _ _ hkz
  have e1 : kz' = kS := Option.some.inj (hkz'.symm.trans (hc ▸ k1))
  have hlat := Jvm.ClassFile.lat_of_text htext ht
  have hsl : q.SA.slots = units.map fun u => Value.int (Jvm.Lit.byteI u) := by rw [hb, SBG.stringBytes_lat hlat]; rfl
  have hl : q.SA.slots.toList = litB text := by
    rw [hsl, Array.toList_map, Jvm.ClassFile.units_of_text htext ht, List.map_map]; rfl
  obtain ⟨hst, k9, hk9, comp, hkind⟩ := s11
  have hBZ : Z.vm.findClass "[B" = some q.SA.cls := by rw [← hal.findClass]; exact hB
  obtain ⟨kb, hkb, -⟩ := Vm.findClass_spec hBZ
  obtain ⟨kb', hkb', ekb⟩ := hal.2.2 _ _ hkb
  have e9 : k9 = kb' := Option.some.inj (hk9.symm.trans hkb')
  refine ⟨⟨q.sC, kz, s1, hfZ, hkz, s3, fun _ => by rw [k3, ← e1, ekz]⟩, ⟨q.sC, cc, kc', ic, q.fSC, s1, z5, s7, s2, s3, by rw [← hal.assignable]; exact s5', s9⟩,
    ⟨q.sC, cv, kv', iv, q.fSV, s1, z4, s6, s2, s3, by rw [← hal.assignable]; exact s4', s8⟩, q.SA, ⟨s10, ⟨hst, kb, hkb, comp, by rw [e9, ekb] at hkind; exact hkind⟩, s12⟩, hl, ?_, fun v hv => ?_⟩
  · rw [← hl]; simpa [s13] using s14
  · rw [← hl] at hv
    obtain ⟨j, hj, rfl⟩ := List.mem_iff_getElem.mp hv
    have hj' : j < q.SA.slots.size := by simpa using hj
    have := s16 j hj'
    rw [getD_of (Array.getElem?_eq_getElem hj')] at this
    simpa using this
section Lit
variable {Z : State} {n0 : Nat} {p : Program} {l : Launch} {e : Env} {R : Room} {s : State} {own : String} {m : MethodId} {args : Array Value} {below : List Frame} {meth : Method} {c : Code} {Q : Option Value → Heap → Lits → Prop} {h : Heap} {k n : Nat} {pc nx : Nat} {L : List Slot} {st : List Value}
variable {bytes : ByteArray} {ml : Nat} {ret : Option FieldType} {nm : String} {a0 : Array Value} {T : State} {locs : List Loc} {cells slots : Nat}
/-- the walk's own place taken for a start: nothing written, nothing made yet -/
theorem anew (X : Stand p l e R s m args below meth c T locs cells slots) (hc : cells ≤ R.cells) (hn : slots ≤ R.slots) :
    ∃ s2 : State, s2.heap = T.heap ∧ s2.vm = T.vm ∧ T = s2.setFrames T.frames ∧ Stand p l e { R with cells := R.cells - cells, slots := R.slots - slots } s2 m args below meth c T [] 0 0 := by
  have X1 : Stand p l e R (s.setVm T.vm) m args below meth c T locs cells slots := X.retabled X.warmed.wide
  have e1 : T = { (s.setVm T.vm).setFrames T.frames with heap := T.heap, slotsUsed := T.slotsUsed } := X1.same.1
  refine ⟨{ s.setVm T.vm with heap := T.heap, slotsUsed := T.slotsUsed }, rfl, rfl, e1, X1.admits, X1.cas, X1.clock, X1.frames, ?_, X1.hears, X1.method, X1.code, X1.here, X1.tail, State.WarmedH.refl _, X1.limits, X1.bytes, ?_⟩
  · have r := X1.room
    have hb : T.slotsTrue = true := X1.book
    have h1 := X1.heapSize
    have h2 := X1.used
    simp only [State.hasRoom, Bool.and_eq_true, decide_eq_true_eq] at r ⊢
    obtain ⟨⟨⟨⟨r1, r2⟩, r3⟩, r4⟩, r5⟩ := r
    refine ⟨⟨⟨⟨r1, r2⟩, ?_⟩, ?_⟩, hb⟩
    · show T.heap.size + (R.cells - cells) ≤ _; omega
    · show T.slotsUsed + (R.slots - slots) ≤ _; omega
  · refine ⟨e1, Nat.le_refl _, Nat.le_refl _, ?_, ?_, fun a cl ha => ⟨cl, ha, rfl, rfl, fun _ _ => rfl⟩⟩
    · show T.slotsUsed = T.slotsUsed + ((T.heap.toList.drop T.heap.size).map (·.slots.size)).sum
      rw [List.drop_eq_nil_of_le (by simp)]; rfl
    · show ((T.heap.toList.drop T.heap.size).map (·.slots.size)).sum ≤ 0
      rw [List.drop_eq_nil_of_le (by simp)]; exact Nat.le_refl _
/-- .. and back: what was made from there is made from the true start -/
theorem ofAnew (X : Stand p l e R s m args below meth c T locs cells slots) {s2 T2 : State} {R2 : Room} {k2 n2 : Nat} (hT : T = s2.setFrames T.frames) (X0 : Stand p l e R2 s2 m args below meth c T [] 0 0)
    (X2 : Stand p l e R2 (s2.setVm T2.vm) m args below meth c T2 [] k2 n2) (hS : s2.Since T2.vm T2.heap.size) :
    Stand p l e R (s.setVm T2.vm) m args below meth c T2 locs (cells + k2) (slots + n2) ∧ s.Since T2.vm T2.heap.size := by
  have hW : T.Warmed39 T2.vm := by rw [hT]; exact hS.1
  have hB : T.Booked T2.vm T2.heap.size := by rw [hT]; exact hS.2
  have q : s2.sameButNew (T2.setVm s2.vm) [] k2 n2 := X2.same.setVm s2.vm
  have q' : T.sameButNew (T2.setVm T.vm) [] k2 n2 := by
    rw [hT]
    obtain ⟨q1, q2⟩ := q
    refine ⟨?_, q2⟩
    rw [State.setFrames_setFrames]
    exact q1
  have r := X.movedW X2.here X2.tail (X2.limits.trans X0.limits.symm) (X2.bytes.trans X0.bytes.symm) hW hB q'
  rw [List.append_nil] at r
  exact r
/-- a String constant, whatever the table holds of it -/
theorem Run.ldcS {lt : List (String × Addr)} {text : String} {P : Addr → Addr → Prop} (F : Fx p c meth bytes ml ret nm) {i : Nat} (w : (Cond.stringLink own i text).before a0 Z = true) (wS : ∀ a ∈ Bundle.stringAtoms, a.before a0 Z = true) (hh : Jvm.Lit.constHeld Z own i) (hcw : Jvm.Lit.compactW.before a0 Z = true)
    (ht : ∀ c ∈ text.toList, c.toNat < 256) (hLs : ∀ t ∈ lt, t.1 = text → ∃ b, Str Z h t.2 b 0 (litB text) ∧ P t.2 b) (cap : Nat) (hcap : 4 * text.toList.length ≤ cap) (hbig0 : Nat.ble cap 536870912 = true) (hc : k + 2 ≤ R.cells) (hl : n + (cap + 4) ≤ R.slots) (d : Dc bytes pc (.ldc i) 2 nx)
    (K : ∀ h' a b, Keep h h' [] → Str Z h' a b 0 (litB text) → ((a < n0 ∧ b < n0) ∨ (h.size ≤ a ∧ h.size ≤ b) ∨ P a b) → Run Z n0 p l e R s own m args below meth c Q h' (k + 2) (n + (cap + 4)) (some ((text, a) :: lt)) nx L (.ref a :: st)) :
    Run Z n0 p l e R s own m args below meth c Q h k n (some lt) pc L st := fun T W => by
  have hbig : cap ≤ 536870912 := Nat.le_of_ble_eq_true hbig0
  have hd := hbD F d; obtain ⟨-, rfl⟩ := d
  obtain ⟨vm0, locs, k0, X, eT, hS, hk, hZ, hown, N, hO, I, kn⟩ := W
  have hi : T.vm.interned = vm0.interned := X.warmed.interned_eq
  have X1 : Stand p l e R (s.setVm T.vm) m args below meth c T locs k n := X.retabled X.warmed.wide
  have hW0 : (s.setVm vm0).Warmed39 T.vm := X.warmed.wide
  have hS1 : s.Since T.vm h.size := hS.trans (X.warmed.since h.size) hk
  have hZ1 : Z.Warmed39 T.vm := State.Warmed39.trans hZ hW0
  have hown1 : T.vm.findClass own = some m.cls := (hW0.alike.findClass _ _).trans hown
  have I1 : Itn Z T.vm (some lt) := I.eq hi
  have wi : (Cond.instantiable "java/lang/String" 4).before a0 Z = true := wS _ (by simp [Bundle.stringAtoms, Bundle.sN])
  have wa : (Cond.arrayClass .byte).before a0 Z = true := wS _ (by simp [Bundle.stringAtoms])
  have hH : ConstHeldL Z own i := heldStart hh w ht hcw wa wi
  have w1 : (Cond.stringLink own i text).before args (s.setVm T.vm) = true := mvS hZ1 w
  obtain ⟨kk, cf, si, units, hkk, hcf, hcp, hu, hnm, htext, hres⟩ := Cond.stringLink_spec (s := s.setVm T.vm) hown1 w1
  have hkk' : T.vm.classes[m.cls]? = some kk := hkk
  -- the class at the start of the law
  have hownZ : Z.vm.findClass own = some m.cls := by rw [← hZ1.alike.findClass]; exact hown1
  obtain ⟨kz, cz, iz, uz, hkz, hcfz, hcpz, huz, hnmz, htextz, hresz⟩ := Cond.stringLink_spec hownZ w
  obtain ⟨kk2, hkk2, ekk, -, eent, -⟩ := hZ1.2.2.2 _ kz hkz
  cases hkk'.symm.trans hkk2
  have ecf : cz = cf := by have q : kk.cf = kz.cf := by rw [ekk]
                           rw [hcf, hcfz] at q; exact (Option.some.inj q).symm
  subst ecf
  cases hcpz.symm.trans hcp
  cases huz.symm.trans hu
  -- what is held where the walk stands
  have held : ∀ a, (kk.resolved[i]? = some (some (.string a)) ∨ (kk.resolved[i]? = some none ∧ T.vm.interned.find? (fun p => p.1 == units) = some (units, a))) → ∃ b, Str Z h a b 0 (litB text) ∧ ((a < n0 ∧ b < n0) ∨ P a b) := by
    intro a ha
    have fromZ : SlOf Z a units → ∃ b, Str Z h a b 0 (litB text) ∧ ((a < n0 ∧ b < n0) ∨ P a b) := by
      rintro ⟨q, cS, rfl, S, hkS, hB, hb⟩
      have R0 := slStr (Vm.Alike.refl _) htext ht S hkS hB hb
      refine ⟨q.sd, R0.keep (Keep.ofExt hO.2) nin0 nin0, Or.inl ⟨?_, ?_⟩⟩
      · have := R0.la; rw [hO.1] at this; exact this
      · have := R0.lb; rw [hO.1] at this; exact this
    have fromI : kz.resolved[i]? = some none → T.vm.interned.find? (fun p => p.1 == units) = some (units, a) → ∃ b, Str Z h a b 0 (litB text) ∧ ((a < n0 ∧ b < n0) ∨ P a b) := by
      intro hop hf
      obtain ⟨more, em, hm⟩ := I1 lt rfl
      rw [em, Array.find?_append] at hf
      cases hs : Z.vm.interned.find? (fun p => p.1 == units) with
      | some pr =>
        rw [hs] at hf
        exact fromZ (hH _ kz cz si units a hownZ hkz hcfz hcpz huz (Or.inr ⟨hop, by rw [hs]; simpa using hf⟩))
      | none =>
        rw [hs, Option.none_or] at hf
        obtain ⟨t, htm, h1, h2⟩ := hm _ (Array.mem_of_find?_eq_some hf)
        have e1 : t.1 = text := Option.some.inj (h1.symm.trans htext)
        obtain ⟨b, hb, hp⟩ := hLs t htm e1
        have e2 : t = (text, a) := Prod.ext e1 h2.symm
        subst e2
        exact ⟨b, hb, Or.inr hp⟩
    rcases eent i with e0 | ⟨hop, r, e1, hr | ⟨a3, t, si', us, rfl, -, q3, q4, q5⟩⟩
    · rcases ha with h0 | ⟨h0, hf⟩
      · exact fromZ (hH _ kz cz si units a hownZ hkz hcfz hcpz huz (Or.inl (e0 ▸ h0)))
      · exact fromI (e0 ▸ h0) hf
    · exfalso
      cases r <;> simp [State.rightAt, hkz, hcfz, hnmz] at hr
    · rw [hcfz] at q3 q4
      have e3 : si' = si := by have := q3.symm.trans hcpz; simpa using this
      subst e3
      have e4 : us = units := by simpa [ConstantPool.utf8?, huz] using q4.symm
      subst e4
      rcases ha with h0 | ⟨h0, hf⟩
      · have ea : a3 = a := by have := e1.symm.trans h0; simpa using this
        subst ea
        exact fromI hop q5
      · have := e1.symm.trans h0; simp at this
  have more1 : ∀ a, Itn Z T.vm (some ((text, a) :: lt)) := fun a lt' hlt' => by
    obtain ⟨more, em, hm⟩ := I1 lt rfl
    cases hlt'
    exact ⟨more, em, fun q hq => by obtain ⟨t, h1, h2⟩ := hm q hq; exact ⟨t, List.mem_cons_of_mem _ h1, h2⟩⟩
  rcases hres with hopen | ⟨a, hra⟩
  · cases hf : T.vm.interned.find? (fun p => p.1 == units) with
    | some pr =>
      obtain ⟨u', a⟩ := pr
      have hu' : u' = units := by have := Array.find?_some hf; simpa using this
      subst hu'
      obtain ⟨b, S, hpos⟩ := held a (Or.inr ⟨hopen, hf⟩)
      have q2 : kk.cf.bind (namesOf? ·.constantPool i) = some (.string text) := by rw [hcf]; exact hnm
      have q3 : kk.cf.bind (·.constantPool[i]?) = some (.string si) := by rw [hcf]; exact hcp
      have q4 : kk.cf.bind (·.constantPool.utf8? si) = some u' := by rw [hcf]; simp [ConstantPool.utf8?, hu]
      have hW : (s.setVm T.vm).Warmed39 (T.vm.noted m.cls i (.string a)) := (State.Warmed39.refl (s.setVm T.vm)).notedString hkk (Or.inl hopen) q2 q3 q4 hf
      have X2 : Stand p l e R (s.setVm (T.vm.noted m.cls i (.string a))) m args below meth c (T.setVm (T.vm.noted m.cls i (.string a))) locs k n := X1.retabled hW
      have hS2 : s.Since (T.vm.noted m.cls i (.string a)) h.size := hS1.trans ⟨hW, fun j pp hj hp => by
        have : T.vm.interned[j]? = some pp := hp
        exact absurd (Array.getElem?_eq_some_iff.mp this).1 (Nat.not_lt.mpr hj)⟩ (Nat.le_refl _)
      obtain ⟨u, o, r1, r⟩ := K h a b (Keep.refl _ _) S (hpos.imp id Or.inr) _ ⟨_, locs, h.size, X2.mono (Nat.le_add_right _ _) (Nat.le_add_right _ _), eT, hS2, Nat.le_refl _, State.Warmed39.trans (t := s.setVm T.vm) hZ1 hW, (hW.alike.findClass _ _).trans hown1, N, hO, (more1 a).eq rfl, kn⟩
      refine ⟨u, o, ?_, r⟩
      show Steps p.tables e below (T.setTop { method := m, pc := pc, locals := L.toArray, stack := st, locked := none }) u
      jvm_step X.here [F.1, hd, ldc.wp_string_found (e := e) (s := T) (f := mkF m pc L.toArray st) X.here.top hkk' hcf hcp hu hopen hf]
      exact r1
    | none =>
      obtain ⟨s2, e2h, e2v, hT, X0⟩ := anew X1 (by omega) (by omega)
      have X0' : Stand p l e { R with cells := R.cells - k, slots := R.slots - n } s2 m args below meth c T [] 0 0 := X0
      have hown2 : s2.vm.findClass own = some m.cls := by rw [e2v]; exact hown1
      have hZ2 : Z.Warmed39 s2.vm := by rw [e2v]; exact hZ1
      have hkk2 : s2.vm.classes[m.cls]? = some kk := by rw [e2v]; exact hkk'
      have vac : ConstHeldL s2 own i := fun c' k' cf' i' us' a' h1 h2 h3 h4 h5 h6 => by
        exfalso
        cases hown2.symm.trans h1
        cases hkk2.symm.trans h2
        cases hcf.symm.trans h3
        cases hcp.symm.trans h4
        cases hu.symm.trans h5
        rcases h6 with h6 | ⟨-, h6⟩
        · have := hopen.symm.trans h6; simp at this
        · rw [e2v, hf] at h6; cases h6
      obtain ⟨a, T2, X2, hS2, ⟨k2, hk2, hr2⟩, hkeep, -, hint, ⟨us, hus, hin⟩, stp⟩ := X0'.ldcColdF (fun b cl hb => by rw [e2h] at hb; exact hb) F.1 (own := own) (text := text) hown2 (mvS (s := s2) hZ2 w) (fun dd hdd => by
        have q := wS dd hdd
        simp only [Bundle.stringAtoms, List.mem_cons, List.not_mem_nil, or_false] at hdd
        rcases hdd with rfl | rfl | rfl | rfl | rfl | rfl | rfl
        · exact mv (s := s2) hZ2 q
        · exact mv (s := s2) hZ2 q
        · exact mvA (s := s2) hZ2 q
        · exact mv (s := s2) hZ2 q
        · exact mv (s := s2) hZ2 q
        · exact mv (s := s2) hZ2 q
        · exact mv (s := s2) hZ2 q) vac (fun us hus => Jvm.ClassFile.lat_of_text hus ht) (g := mkF m pc L.toArray st) rfl hd (n := cap) hcap hbig (by show 0 + 2 ≤ R.cells - k; omega) (by show 0 + (cap + 4) ≤ R.slots - n; omega)
      obtain ⟨X3, hS3⟩ := ofAnew X1 hT X0' X2 hS2
      -- the pair that came is this constant's
      obtain ⟨k2', hk2', -, -, ee2, -⟩ := hS2.1.2.2.2 _ kk hkk2
      cases hk2.symm.trans hk2'
      have hfind : T2.vm.interned.find? (fun p => p.1 == units) = some (units, a) := by
        rcases ee2 i with e0 | ⟨-, r, e1, hr | ⟨a3, t, si', us', rfl, -, q3, q4, q5⟩⟩
        · have := (e0.symm.trans hr2).symm.trans hopen; simp at this
        · exfalso
          cases e1.symm.trans hr2
          simp [State.rightAt, hkk2, hcf, hnm] at hr
        · rw [hcf] at q3 q4
          have e3 : si' = si := by have := q3.symm.trans hcp; simpa using this
          subst e3
          have e4 : us' = units := by simpa [ConstantPool.utf8?, hu] using q4.symm
          subst e4
          have ea : a3 = a := by have := e1.symm.trans hr2; simpa using this
          subst ea
          exact q5
      have hpush : T2.vm.interned = T.vm.interned.push (units, a) := by
        rcases hint with e0 | ⟨u2, a2, -, e0⟩
        · rw [e0, hf] at hfind; cases hfind
        · rw [e0, ← Array.append_singleton, Array.find?_append, hf, Option.none_or] at hfind
          have hmem := Array.mem_of_find?_eq_some hfind
          have : (units, a) = (u2, a2) := by simpa using hmem
          rw [this]; exact e0
      have hge : h.size ≤ a := by
        have := (hS2.2 T.vm.interned.size (units, a) (by rw [e2v]; exact Nat.le_refl _) (by rw [hpush]; simp)).1
        rw [e2h, eT] at this; exact this
      obtain ⟨q, cS, rfl, S, hkS, hB, hb, hpos⟩ := hin
      have hal2 : Z.vm.Alike T2.vm := (State.Warmed39.trans hZ2 hS2.1).alike
      have SS := slStr hal2 hus ht S hkS hB hb
      have hpos' : h.size ≤ q.sd := by
        rcases hpos with ⟨x, -⟩ | ⟨-, y⟩
        · rw [e2h, eT] at x; exact absurd x (Nat.not_lt.mpr hge)
        · rw [eT] at y; exact y
      have E : Ext h T2.heap := ext_of fun b hb => by rw [← eT] at hb ⊢; exact hkeep b hb
      obtain ⟨u, o, r1, r⟩ := K T2.heap q.sa q.sd (Keep.ofExt E) SS (Or.inr (Or.inl ⟨hge, hpos'⟩)) T2 ⟨T2.vm, locs, T2.heap.size, X3.mono (by omega) (by omega), rfl, hS1.trans hS3 E.1, Nat.le_refl _, State.Warmed39.trans hZ2 hS2.1, (hS2.1.alike.findClass _ _).trans hown2, N, hO.ext E, fun lt' hlt' => by
        cases hlt'
        obtain ⟨more, em, hm⟩ := I1 lt rfl
        refine ⟨more.push (units, q.sa), by rw [hpush, em]; simp, fun pp hpp => ?_⟩
        rcases Array.mem_push.mp hpp with y | y
        · obtain ⟨t, h1, h2⟩ := hm pp y; exact ⟨t, List.mem_cons_of_mem _ h1, h2⟩
        · subst y; exact ⟨(text, q.sa), List.mem_cons_self .., htext, rfl⟩, kn⟩
      exact ⟨u, o, stp _ r1, r⟩
  · obtain ⟨b, S, hpos⟩ := held a (Or.inl hra)
    have Lt : Lit (s.setVm T.vm) own i a := by
      have : (s.setVm T.vm).vm.findClass own = some m.cls := hown1
      have k1 : T.vm.findClass own = some m.cls := hown1
      show State.resolvedAt? _ _ _ = _
      simp [State.resolvedAt?, k1, hkk', hra]
    obtain ⟨u, o, r1, r⟩ := K h a b (Keep.refl _ _) S (hpos.imp id Or.inr) T ⟨T.vm, locs, h.size, X1.mono (Nat.le_add_right _ _) (Nat.le_add_right _ _), eT, hS1, Nat.le_refl _, hZ1, hown1, N, hO, more1 a, kn⟩
    exact ⟨u, o, ldcAgain (s := s) (vm0 := T.vm) X1 F.1 hZ1 hown1 w Lt (g := mkF m pc L.toArray st) rfl hd u r1, r⟩
end Lit
end Jvm.Own
namespace Jvm.Own
open Sem ClassFile Op Lib Jvm.Stand Jvm.Free Jvm.LawKit Jvm.RoadKit
/-- the two bytes of a char, low one first -/
def hb0 (c : Int32) : Value := .int ((c >>> ((0 : Int32) &&& 31)).toInt8.toInt32)
def hb1 (c : Int32) : Value := .int ((c >>> ((8 : Int32) &&& 31)).toInt8.toInt32)
def u16 : List Int32 → List Value
  | [] => []
  | c :: cs => hb0 c :: hb1 c :: u16 cs
theorem u16_len (cs : List Int32) : (u16 cs).length = 2 * cs.length := by
  induction cs with
  | nil => rfl
  | cons c cs ih => simp only [u16, List.length_cons, ih]; omega
theorem u16_app (cs ds : List Int32) : u16 (cs ++ ds) = u16 cs ++ u16 ds := by
  induction cs with
  | nil => rfl
  | cons c cs ih => simp only [List.cons_append, u16, ih]
theorem u16_get {cs : List Int32} {i : Nat} {c : Int32} (h : cs[i]? = some c) : (u16 cs)[2 * i]? = some (hb0 c) ∧ (u16 cs)[2 * i + 1]? = some (hb1 c) := by
  induction cs generalizing i with
  | nil => simp at h
  | cons d cs ih =>
    cases i with
    | zero => simp at h; subst h; exact ⟨rfl, rfl⟩
    | succ i =>
      have h' : cs[i]? = some c := by simpa using h
      obtain ⟨h1, h2⟩ := ih h'
      have e : 2 * (i + 1) = (2 * i + 1) + 1 := by omega
      constructor
      · rw [e]; simpa [u16] using h1
      · rw [e]; simpa [u16] using h2
theorem u16_set {cs : List Int32} {i r : Nat} {c : Int32} (hi : i + (r + 1) = cs.length) (hc : cs[i]? = some c) :
    ((u16 (cs.take i) ++ List.replicate (2 * (r + 1)) (Value.int 0)).set (2 * i) (hb0 c)).set (2 * i + 1) (hb1 c) = u16 (cs.take (i + 1)) ++ List.replicate (2 * r) (Value.int 0) := by
  have hl : (u16 (cs.take i)).length = 2 * i := by rw [u16_len]; simp; omega
  have e : 2 * (r + 1) = (2 * r + 1) + 1 := by omega
  rw [List.set_append_right _ _ (by omega), hl, Nat.sub_self, e, List.replicate_succ, List.replicate_succ, List.set_cons_zero, List.set_append_right _ _ (by omega), hl, show 2 * i + 1 - 2 * i = 0 + 1 by omega, List.set_cons_succ, List.set_cons_zero, List.take_succ, hc, u16_app]
  simp [u16]
theorem hb0_val {c : Int32} : (c >>> ((0 : Int32) &&& 31)) = c := by
  have := c_ishr c 0 0 (by decide)
  apply Int32.toInt_inj.mp; rw [this]; simp
theorem shr8 (c : Int32) : (c >>> ((8 : Int32) &&& 31)).toInt = c.toInt / 256 := c_ishr c 8 8 (by decide)
theorem or_add {x y : Int32} (hx0 : 0 ≤ x.toInt) (hx : x.toInt < 256) (hy0 : 0 ≤ y.toInt) (hy : y.toInt < 256) :
    ((x <<< ((0 : Int32) &&& 31)) ||| (y <<< ((8 : Int32) &&& 31))).toInt = x.toInt + 256 * y.toInt := by
  have e1 : (x <<< ((0 : Int32) &&& 31)) = x := by
    apply Int32.toInt_inj.mp
    have h := c_ishl x 0 0 (by decide)
    have r := rng32 (x <<< ((0 : Int32) &&& 31))
    simp only [Nat.pow_zero] at h
    omega
  have e2 : (y <<< ((8 : Int32) &&& 31)).toInt = 256 * y.toInt := by
    have h := c_ishl y 8 8 (by decide)
    have r := rng32 (y <<< ((8 : Int32) &&& 31))
    have p8 : ((2 ^ 8 : Nat) : Int) = 256 := by decide
    rw [p8] at h
    omega
  rw [e1]
  generalize hz : (y <<< ((8 : Int32) &&& 31)) = z at e2 ⊢
  have nx : (x.toBitVec.toNat : Int) = x.toInt := by
    have h1 : x.toInt = if 2 * x.toBitVec.toNat < 2 ^ 32 then (x.toBitVec.toNat : Int) else (x.toBitVec.toNat : Int) - ((2 ^ 32 : Nat) : Int) := BitVec.toInt_eq_toNat_cond x.toBitVec
    have h2 := x.toBitVec.isLt
    split at h1 <;> omega
  have nz : (z.toBitVec.toNat : Int) = 256 * y.toInt := by
    have h1 : z.toInt = if 2 * z.toBitVec.toNat < 2 ^ 32 then (z.toBitVec.toNat : Int) else (z.toBitVec.toNat : Int) - ((2 ^ 32 : Nat) : Int) := BitVec.toInt_eq_toNat_cond z.toBitVec
    have h2 := z.toBitVec.isLt
    split at h1 <;> omega
  have key : (x ||| z).toBitVec.toNat = x.toBitVec.toNat + z.toBitVec.toNat := by
    rw [Int32.toBitVec_or, BitVec.toNat_or]
    obtain ⟨q, hq⟩ : ∃ q, z.toBitVec.toNat = 2 ^ 8 * q := ⟨y.toInt.toNat, by omega⟩
    rw [hq, Nat.or_comm, ← Nat.two_pow_add_eq_or_of_lt (by omega : x.toBitVec.toNat < 2 ^ 8)]
    omega
  have h1 : (x ||| z).toInt = (x ||| z).toBitVec.toInt := rfl
  rw [h1, BitVec.toInt_eq_toNat_cond, key]
  split <;> omega
theorem b255 (x : Int32) : (x.toInt8.toInt32 &&& 255).toInt = x.toInt % 256 := by
  have := c_i2b x
  rw [and255]; omega
/-- a char written and read -/
theorem utf_rt {c : Int32} (h0 : 0 ≤ c.toInt) (h1 : c.toInt < 65536) :
    chr ((((c >>> ((0 : Int32) &&& 31)).toInt8.toInt32 &&& 255) <<< ((0 : Int32) &&& 31)) ||| (((c >>> ((8 : Int32) &&& 31)).toInt8.toInt32 &&& 255) <<< ((8 : Int32) &&& 31))) = c := by
  have a1 := b255 (c >>> ((0 : Int32) &&& 31))
  have a2 := b255 (c >>> ((8 : Int32) &&& 31))
  rw [hb0_val] at a1
  rw [shr8] at a2
  have h := or_add (x := (c >>> ((0 : Int32) &&& 31)).toInt8.toInt32 &&& 255) (y := (c >>> ((8 : Int32) &&& 31)).toInt8.toInt32 &&& 255) (by rw [hb0_val, a1]; omega) (by rw [hb0_val, a1]; omega) (by rw [a2]; omega) (by rw [a2]; omega)
  apply Int32.toInt_inj.mp
  rw [chr_toInt, h, hb0_val, a1, a2]
  omega
theorem i32_dbl {i : Nat} (h : 2 * i < 2 ^ 31) : Int32.ofNat i <<< ((1 : Int32) &&& 31) = Int32.ofNat (2 * i) := by
  apply Int32.toInt_inj.mp
  have h1 := c_ishl (Int32.ofNat i) 1 1 (by decide)
  have r := rng32 (Int32.ofNat i <<< ((1 : Int32) &&& 31))
  have p : ((2 ^ 1 : Nat) : Int) = 2 := by decide
  rw [i32_ti (by omega), p] at h1
  rw [i32_ti h]
  omega
theorem coder1 {n : Nat} (h : 0 < n) (h2 : 2 * n < 2 ^ 31) : ((XT.ushr (Int32.ofNat n - Int32.ofNat (2 * n)) 31).toInt8.toInt32) = 1 := by
  have e : (XT.ushr (Int32.ofNat n - Int32.ofNat (2 * n)) 31) = 1 := by
    apply Int32.toInt_inj.mp
    have h1 := c_iushr (Int32.ofNat n - Int32.ofNat (2 * n)) 31 31 (by decide) (by decide)
    have h3 := c_isub (Int32.ofNat n) (Int32.ofNat (2 * n))
    have r := rng32 (Int32.ofNat n - Int32.ofNat (2 * n))
    rw [i32_ti (by omega), i32_ti h2] at h3
    have p : ((2 ^ 31 : Nat) : Int) = 2147483648 := by decide
    rw [p] at h1
    show ((Int32.ofNat n - Int32.ofNat (2 * n)).toUInt32 >>> ((31 : Int32) &&& 31).toUInt32).toInt32.toInt = _
    rw [h1]
    have : (1 : Int32).toInt = 1 := rfl
    omega
  rw [e]; decide
theorem fits_hb0 (c : Int32) : nar .byte ((c >>> ((0 : Int32) &&& 31)).toInt8.toInt32) = (c >>> ((0 : Int32) &&& 31)).toInt8.toInt32 := narB _
/-- all chars below 256 -/
def lat (cs : List Int32) : Bool := cs.all fun c => decide (c.toInt < 256)
def coOf (cs : List Int32) : Int32 := if lat cs then 0 else 1
def byOf (cs : List Int32) : List Value := if lat cs then cs.map lb else u16 cs
theorem lb_inj {c d : Int32} (hc : 0 ≤ c.toInt ∧ c.toInt < 256) (hd : 0 ≤ d.toInt ∧ d.toInt < 256) (h : lb c = lb d) : c = d := by
  have e : c.toInt8.toInt32 = d.toInt8.toInt32 := by simpa [lb] using h
  rw [← low8 hc.1 hc.2, ← low8 hd.1 hd.2, e]
theorem map_lb_inj {cs ds : List Int32} (hc : ∀ c ∈ cs, 0 ≤ c.toInt ∧ c.toInt < 256) (hd : ∀ c ∈ ds, 0 ≤ c.toInt ∧ c.toInt < 256) (h : cs.map lb = ds.map lb) : cs = ds := by
  induction cs generalizing ds with
  | nil => cases ds with
    | nil => rfl
    | cons d ds => simp at h
  | cons c cs ih => cases ds with
    | nil => simp at h
    | cons d ds =>
      simp only [List.map_cons, List.cons.injEq] at h
      rw [lb_inj (hc c (List.mem_cons_self ..)) (hd d (List.mem_cons_self ..)) h.1, ih (fun x hx => hc x (List.mem_cons_of_mem _ hx)) (fun x hx => hd x (List.mem_cons_of_mem _ hx)) h.2]
end Jvm.Own
namespace Jvm.Own
open Sem ClassFile Op Lib Jvm.Stand Jvm.Free Jvm.LawKit Jvm.RoadKit
theorem Fld.one {Z : State} {h : Heap} {a : Nat} {C n d : String} {v w : Value} (F : Fld Z h a C n d v) (G : Fld Z h a C n d w) : v = w := by
  obtain ⟨c1, cf1, k1, i1, f1, a1, a2, -, -, -, -, a7⟩ := F
  obtain ⟨c2, cf2, k2, i2, f2, b1, b2, -, -, -, -, b7⟩ := G
  cases a1.symm.trans b1
  cases a2.symm.trans b2
  exact Option.some.inj (a7.symm.trans b7)
theorem Av.one {Z : State} {h : Heap} {a : Nat} {ty ty' : FieldType} {vs ws : List Value} (A : Av Z h a ty vs) (B : Av Z h a ty' ws) : vs = ws := by
  obtain ⟨c1, A1, rfl, -⟩ := A
  obtain ⟨c2, B1, rfl, -⟩ := B
  cases A1.1.symm.trans B1.1
  rfl
theorem Str.uniq {Z : State} {h : Heap} {x b d : Nat} {co co2 : Int32} {vs ws : List Value} (S : Str Z h x b co vs) (T : Str Z h x d co2 ws) : co = co2 ∧ b = d ∧ vs = ws := by
  have e1 := Fld.one S.2.1 T.2.1
  have e2 := Fld.one S.2.2.1 T.2.2.1
  cases e1; cases e2
  exact ⟨rfl, rfl, Av.one S.2.2.2 T.2.2.2⟩
theorem set_self {cs : List Int32} {i : Nat} {c : Int32} (h : cs[i]? = some c) : cs.set i c = cs := by
  apply List.ext_getElem?
  intro j
  by_cases hj : i = j
  · subst hj; rw [List.getElem?_set_self (List.getElem?_eq_some_iff.mp h).1, h]
  · rw [List.getElem?_set_ne hj]
theorem static_int {s : State} {args : Array Value} {C n d : String} {v : Int32} (h : (Cond.eq (.static C n d) (.int v)).value args s none s [] = some true) : (Term.static C n d).eval args s none [] s = some (.int v) := by
  obtain ⟨x, y, e1, e2, -, -⟩ := cmp_v (Or.inl h)
  cases (Term.int_eval v).symm.trans e2
  cases x <;> simp [Cond.value, e1, Term.int_eval] at h
  rw [e1, h]
end Jvm.Own
namespace Jvm.Own
open Sem ClassFile Op Lib Jvm.Stand Jvm.Free Jvm.LawKit Jvm.RoadKit
theorem decl_of {a : Array Value} {U : State} {y : MethodName} {by' : ByteArray} {ml' : Nat} {ret' : Option FieldType} (w : (Cond.instanceMethod y).before a U = true) (wc : (Cond.code y by' ml' ret').before a U = true) : (Cond.declares y).before a U = true := by
  obtain ⟨mk, meth, h1, h2, h3, h4⟩ := Cond.instanceMethod_spec w
  obtain ⟨m2, cM, q1, -, -, -, -, -, -, hsig⟩ := Cond.code_spec h1 wc
  cases h2.symm.trans q1
  simp [Cond.before, Cond.holds, Cond.value, h1, h2, h3, hsig]
theorem nf_cls {a : Array Value} {U : State} {x y : MethodName} {C : String} (wsel : (Cond.selects C x x).before a U = true) (wd : (Cond.declares x).before a U = true) (hc : x.cls = y.cls) : NotFace U y := fun r0 h0 => by
  obtain ⟨m, meth, hn, -⟩ := Cond.declares_spec wd
  obtain ⟨kr, h1, h2⟩ := notFace_of_selects wsel m hn
  have e1 := findClass_of_methodNamed hn
  have e2 := findClass_of_methodNamed h0
  rw [hc] at e1
  have e3 : m.cls = r0.cls := Option.some.inj (e1.symm.trans e2)
  rw [← e3]
  exact ⟨kr, h1, h2⟩
theorem same_own {a : Array Value} {U : State} {y : MethodName} (wd : (Cond.declares y).before a U = true) (nf : NotFace U y) (hy : (y.cls == "java/lang/invoke/MethodHandle" || y.cls == "java/lang/invoke/VarHandle") = false) : (Cond.sameMethod y.cls y.cls y.name y.desc).before a U = true := by
  obtain ⟨m, meth, hn, -⟩ := Cond.declares_spec wd
  obtain ⟨kr, h1, h2⟩ := nf m hn
  have hc := findClass_of_methodNamed hn
  have hf := State.methodFound?_of_named hn (hyOf hy)
  have hn' : U.methodNamed? ⟨y.cls, y.name, y.desc⟩ = some m := hn
  simp [Cond.before, Cond.holds, Cond.value, hc, hf, hn', h1, h2]
theorem stretch_eq {vs : List Value} {sp n : Nat} {dv : Value} (h : sp + n ≤ vs.length) : ((List.range n).map fun i => vs.getD (sp + i) dv) = (vs.drop sp).take n := by
  apply List.ext_getElem?
  intro i
  by_cases hi : i < n
  · rw [List.getElem?_map, List.getElem?_range hi, List.getElem?_take_of_lt hi, List.getElem?_drop, Option.map_some, List.getD_eq_getElem?_getD, List.getElem?_eq_getElem (show sp + i < vs.length by omega)]; rfl
  · rw [List.getElem?_eq_none (by simp; omega), List.getElem?_eq_none (by simp; omega)]
theorem Av.arv {Z : State} {h : Heap} {a : Nat} {ty : FieldType} {vs : List Value} (A : Av Z h a ty vs) (dv : Value) : ∃ k, Arv Z h a k ty (Int32.ofNat vs.length) vs dv := by
  obtain ⟨c, A, rfl, q, f⟩ := A
  have hs : c.slots.toList.length = c.slots.size := by simp
  rw [hs] at q ⊢
  refine ⟨c.cls, c, A, rfl, (i32_tn q).symm, i32_nn q, ?_, ?_⟩
  · intro i hi
    rw [List.getD_eq_getElem?_getD, Array.getElem?_toList, Array.getElem?_eq_getElem hi]; rfl
  · intro i hi
    rw [List.getD_eq_getElem?_getD, List.getElem?_eq_getElem (show i < c.slots.toList.length by rw [hs]; exact hi)]
    exact f _ (List.getElem_mem _)
theorem avOf {Z : State} {h : Heap} {a : Nat} {k : ClassId} {ty : FieldType} {z : Int32} {vs : List Value} {dv : Value} (A : Arv Z h a k ty z vs dv) (hl : vs.length = z.toNatClampNeg) : Av Z h a ty vs := by
  obtain ⟨c, A, -, q, q0, H, G⟩ := A
  have e : c.slots.toList = vs := by
    apply List.ext_getElem?
    intro i
    by_cases hi : i < c.slots.size
    · rw [Array.getElem?_toList, H i hi, List.getD_eq_getElem?_getD, List.getElem?_eq_getElem (show i < vs.length by omega)]; rfl
    · rw [List.getElem?_eq_none (by simp; omega), List.getElem?_eq_none (by omega)]
  refine ⟨c, A, e, ?_, ?_⟩
  · rw [hl]; have := z.toInt_lt; simp only [Int32.toNatClampNeg]; omega
  · intro v hv
    obtain ⟨i, hi, rfl⟩ := List.mem_iff_getElem.mp hv
    have := G i (by omega)
    rw [List.getD_eq_getElem?_getD, List.getElem?_eq_getElem hi] at this
    exact this
section Jdk
variable {Z : State} {n0 : Nat} {p : Program} {l : Launch} {e : Env} {R : Room} {s : State} {own : String} {m : MethodId} {args : Array Value} {below : List Frame} {meth : Method} {c : Code} {Q : Option Value → Heap → Lits → Prop} {h : Heap} {k n : Nat} {Ls : Lits} {pc nx : Nat} {L : List Slot} {st : List Value}
variable {bytes : ByteArray} {ml : Nat} {ret : Option FieldType} {nm : String} {a0 : Array Value}
/-- super.m(..) -/
theorem Run.callSuper (F : Fx p c meth bytes ml ret nm) {i : Nat} {y : MethodName} {K0 : String} {by' : ByteArray} {ml' : Nat} {ret' : Option FieldType} {rm : Room} {a : Nat} {as : List Value} {Qy : Option Value → Heap → Lits → Prop} {sig : MethodDescriptor}
    (wl : (Cond.methodLink own i y).before a0 Z = true) (wm : (Cond.sameMethod y.cls y.cls y.name y.desc).before a0 Z = true) (ws : (Cond.instanceMethod y).before a0 Z = true) (wu : (Cond.superclass own y.cls).before a0 Z = true) (wz : (Cond.initialized y.cls).before a0 Z = true) (wc : (Cond.code y by' ml' ret').before a0 Z = true) (E : Ins Z h a K0 true)
    (C : Con l Z n0 y by' ml' ret' rm (.ref a :: as) h Ls [] Qy) (hn : y.name ≠ "<init>") (hsig : parseMethodDescriptor y.desc = some sig) (hlen : as.length = sig.parameters.length) (hsz : L.length = ml)
    (hf : Nat.ble (rm.frames + 1) R.frames = true) (hl : Nat.ble ((st.map fun v => v.category).sum + (ml' + 11) + rm.locals) R.locals = true) (hc : k + rm.cells ≤ R.cells) (hs : n + rm.slots ≤ R.slots) {st0 : List Value} (hst : st0 = as.reverse ++ .ref a :: st) (d : Dc bytes pc (.invokespecial i) 3 nx)
    (K : ∀ v h' Ls', Qy v h' Ls' → Old Z n0 h' → h.size ≤ h'.size → Run Z n0 p l e R s own m args below meth c Q h' (k + rm.cells) (n + rm.slots) Ls' nx L (v.toList ++ st)) : Run Z n0 p l e R s own m args below meth c Q h k n Ls pc L st0 := fun T W => by
  have hd := hbD F d; obtain ⟨-, rfl⟩ := d
  obtain ⟨vm0, locs, k0, X, eT, hS, hk, hZ, hown, N, hO, I, kn⟩ := W
  subst hst
  obtain ⟨v, vm1, B, -, X', hS', hg, ⟨L1, Ls', q1, q2, q3, q4, q5, q6, q7⟩, st'⟩ := superBackS X F.1 hZ hown wl wm ws wu hn (C.back hZ I (kn.alike hS.1.alike) wc wz (Nat.le_of_ble_eq_true hf) (Nat.le_of_ble_eq_true hl)) eT E (g := mkF m pc L.toArray (as.reverse ++ .ref a :: st)) rfl (by show L.toArray.size = _; rw [F.2.2.1, ← hsz]; simp) wc (argsL := as) (rest := st) (lenOf hsig hlen) rfl (by show 2 * 0 + _ ≤ _; omega) hd (fun _ _ => ⟨rfl, eT, hc, hs⟩)
  dsimp only [Pt.U, Pt.locs, Pt.cells, Pt.slots] at X' hS' hg q1 q2 q3 q5 q6 q7 st'
  rw [q5, q6, q7] at X'
  rw [eT] at hg
  obtain ⟨u, o, r1, r⟩ := K v _ Ls' q1 q2 hg B.1 ⟨B.1.vm, _, _, X', rfl, hS.trans hS' (Nat.le_trans hk hg), Nat.le_refl _, State.Warmed39.trans hZ hS'.1, (hS'.1.alike.findClass _ _).trans hown, N.app q4, q2, q3, kn⟩
  exact ⟨u, o, st'.trans r1, r⟩
theorem Run.lookHit (F : Fx p c meth bytes ml ret nm) {x : Int32} {df : Int} {pairs : Array (Int × Int)} {ln t : Nat} {ky off : Int} (d : Dc bytes pc (.lookupswitch df pairs) ln nx) (hs : (pairs.toList.zip (pairs.toList.drop 1)).all (fun (a, next) => a.1 < next.1) = true) (hfind : pairs.find? (·.1 == x.toInt) = some (ky, off)) (ht : (pc : Int) + off = t)
    (K : Run Z n0 p l e R s own m args below meth c Q h k n Ls t L st) : Run Z n0 p l e R s own m args below meth c Q h k n Ls pc L (.int x :: st) := by
  have hd := hbD F d; obtain ⟨-, rfl⟩ := d
  have ht' : ((pc : Int) + off).toNat = t := by omega
  subst ht'
  exact Run.still (fun T vm0 locs X eT hZ hown u s => X.lookupswitchHit F.1 (g := mkF m pc L.toArray (.int x :: st)) rfl rfl hd hs hfind (by show 0 ≤ (pc : Int) + off; omega) u s) K
theorem Run.lookMiss (F : Fx p c meth bytes ml ret nm) {x : Int32} {df : Int} {pairs : Array (Int × Int)} {ln t : Nat} (d : Dc bytes pc (.lookupswitch df pairs) ln nx) (hs : (pairs.toList.zip (pairs.toList.drop 1)).all (fun (a, next) => a.1 < next.1) = true) (hfind : pairs.find? (·.1 == x.toInt) = none) (ht : (pc : Int) + df = t)
    (K : Run Z n0 p l e R s own m args below meth c Q h k n Ls t L st) : Run Z n0 p l e R s own m args below meth c Q h k n Ls pc L (.int x :: st) := by
  have hd := hbD F d; obtain ⟨-, rfl⟩ := d
  have ht' : ((pc : Int) + df).toNat = t := by omega
  subst ht'
  exact Run.still (fun T vm0 locs X eT hZ hown u s => X.lookupswitchMiss F.1 (g := mkF m pc L.toArray (.int x :: st)) rfl rfl hd hs hfind (by show 0 ≤ (pc : Int) + df; omega) u s) K
/-- System.arraycopy between arrays of one primitive kind -/
theorem Run.arraycopy (F : Fx p c meth bytes ml ret nm) {i : Nat} {a b : Nat} {ty : FieldType} {vs vd us : List Value} {sp dp nn : Nat} {x y z : Int32}
    (w1 : (Cond.methodLink own i Jvm.Stand.acN).before a0 Z = true) (w2 : (Cond.native Jvm.Stand.acN).before a0 Z = true) (w3 : (Cond.static Jvm.Stand.acN).before a0 Z = true) (w4 : (Cond.initialized "java/lang/System").before a0 Z = true)
    (A : Av Z h a ty vs) (B : Av Z h b ty vd) (hty : refKind ty = false) (g : n0 ≤ b) (hx : x.toInt = sp) (hy : y.toInt = dp) (hz : z.toInt = nn) (h4 : sp + nn ≤ vs.length) (h5 : dp + nn ≤ vd.length) (hus : (vs.drop sp).take nn = us) (hsz : L.length = ml)
    (hf : Nat.ble 1 R.frames = true) (hl : Nat.ble ((st.map fun v => v.category).sum + 18) R.locals = true) (d : Dc bytes pc (.invokestatic i) 3 nx)
    (K : ∀ h', Keep h h' [b] → Av Z h' b ty (vd.take dp ++ us ++ vd.drop (dp + nn)) → Run Z n0 p l e R s own m args below meth c Q h' k n Ls nx L st) : Run Z n0 p l e R s own m args below meth c Q h k n Ls pc L (.int z :: .int y :: .ref b :: .int x :: .ref a :: st) := fun T W => by
  have hd := hbD F d; obtain ⟨-, rfl⟩ := d
  obtain ⟨vm0, locs, k0, X, eT, hS, hk, hZ, hown, N, hO, I, kn⟩ := W
  have lA := A.len
  have lB := B.len
  obtain ⟨kA, A'⟩ := A.arv .null
  obtain ⟨kB, B'⟩ := B.arv .null
  have e1 := i32_nat hx
  have e2 := i32_nat hy
  have e3 := i32_nat hz
  have ew : nativeFrameWords "java/lang/System" "arraycopy" 5 = 7 := by first | decide | simp [nativeFrameWords]
  subst hus
  obtain ⟨T', h', L', X', e', N', K', B2, st'⟩ := cpA X F.1 hZ hown w1 w2 w3 w4 eT A' B' (us := (vs.drop sp).take nn) (Or.inl ⟨rfl, hty⟩) (sp := x) (dp := y) (nn := z) (i32_nneg (by omega)) (i32_nneg (by omega)) (i32_nneg (by omega)) (by rw [e1, e3, i32_tn lA]; exact h4) (by rw [e2, e3, i32_tn lB]; exact h5) (by rw [e1, e3]; exact (stretch_eq h4).symm) (by rw [e2, e3]; exact h5) N g (g := mkF m pc L.toArray (.int z :: .int y :: .ref b :: .int x :: .ref a :: st)) rfl (by show L.toArray.size = _; rw [F.2.2.1, ← hsz]; simp) (rest := st) rfl hd (Nat.le_of_ble_eq_true hf) (W := (st.map fun v => v.category).sum) (by show 2 * 0 + _ ≤ _; omega) (by rw [ew]; exact Nat.le_of_ble_eq_true hl)
  rw [e2, e3] at B2
  have B3 := avOf B2 (by rw [i32_tn lB]; simp; omega)
  obtain ⟨u, o, r1, r⟩ := K h' K' B3 T' ⟨vm0, L', k0, X', e', hS, Nat.le_trans hk K'.1, hZ, hown, N', hO.keep K' (allS g all0), I, kn⟩
  exact ⟨u, o, st' _ r1, r⟩
/-- array.clone() -/
theorem Run.clone (F : Fx p c meth bytes ml ret nm) {i : Nat} {ad : String} {a : Nat} {ty : FieldType} {vs : List Value}
    (w1 : (Cond.methodLink own i ⟨ad, "clone", "()Ljava/lang/Object;"⟩).before a0 Z = true) (w2 : (Cond.sameMethod ad "java/lang/Object" "clone" "()Ljava/lang/Object;").before a0 Z = true) (w3 : (Cond.native ⟨"java/lang/Object", "clone", "()Ljava/lang/Object;"⟩).before a0 Z = true) (w4 : (Cond.instanceMethod ⟨"java/lang/Object", "clone", "()Ljava/lang/Object;"⟩).before a0 Z = true) (w5 : (Cond.selects ad ⟨ad, "clone", "()Ljava/lang/Object;"⟩ ⟨"java/lang/Object", "clone", "()Ljava/lang/Object;"⟩).before a0 Z = true) (w6 : (Cond.castable ad "java/lang/Cloneable").before a0 Z = true)
    (A : Av Z h a ty vs) (E : Exa Z h a ad) (hsz : L.length = ml) (hf : Nat.ble 1 R.frames = true) (hl : Nat.ble ((st.map fun v => v.category).sum + 14) R.locals = true) (cap : Nat) (hcap : vs.length ≤ cap) (hc : k + 1 ≤ R.cells) (hs : n + cap ≤ R.slots) (d : Dc bytes pc (.invokevirtual i) 3 nx)
    (K : ∀ h' b, b = h.size → Keep h h' [] → Av Z h' b ty vs → Exa Z h' b ad → Run Z n0 p l e R s own m args below meth c Q h' (k + 1) (n + cap) Ls nx L (.ref b :: st)) : Run Z n0 p l e R s own m args below meth c Q h k n Ls pc L (.ref a :: st) := fun T W => by
  have hd := hbD F d; obtain ⟨-, rfl⟩ := d
  obtain ⟨vm0, locs, k0, X, eT, hS, hk, hZ, hown, N, hO, I, kn⟩ := W
  have lA := A.len
  obtain ⟨kA, A'⟩ := A.arv .null
  obtain ⟨T', h', X', e', E', A2, E2, st'⟩ := cloneH X F.1 hZ hown w1 w2 w3 w4 w5 w6 eT (Arv.arh A') E (g := mkF m pc L.toArray (.ref a :: st)) rfl (by show L.toArray.size = _; rw [F.2.2.1, ← hsz]; simp) (rest := st) rfl hd (Nat.le_of_ble_eq_true hf) (W := (st.map fun v => v.category).sum) (cap := cap) (by show 2 * 0 + _ ≤ _; omega) (Nat.le_of_ble_eq_true hl) (by rw [i32_tn lA]; exact hcap) hc hs
  have A3 : Av Z h' h.size ty vs := avOf (show Arv Z h' h.size kA ty _ vs .null from A2) (by rw [i32_tn lA])
  obtain ⟨u, o, r1, r⟩ := K h' h.size rfl (Keep.ofExt E') A3 E2 T' ⟨vm0, locs, k0, X', e', hS, Nat.le_trans hk E'.1, hZ, hown, N, hO.ext E', I, kn⟩
  exact ⟨u, o, st' _ r1, r⟩
/-- newarray, with the name of the array's class -/
theorem Run.newarrayE (F : Fx p c meth bytes ml ret nm) {aty : ArrayType} {z : Int32} {len : Nat} {ad : String} (w : (Cond.arrayClass (newarray.typeOf aty)).before a0 Z = true) (had : "[" ++ (newarray.typeOf aty).toString = ad) (hz : ¬ z < 0) (hlen : z.toNatClampNeg = len) (cap : Nat) (hcap : len ≤ cap) (hb : Nat.ble (cap * 8) 536870912 = true) (hc : k + 1 ≤ R.cells) (hl : n + cap ≤ R.slots) (d : Dc bytes pc (.newarray aty) 2 nx)
    (K : ∀ h' a, a = h.size → Keep h h' [] → a < h'.size → Av Z h' a (newarray.typeOf aty) (List.replicate len (defaultValue (newarray.typeOf aty))) → Exa Z h' a ad → Run Z n0 p l e R s own m args below meth c Q h' (k + 1) (n + cap) Ls nx L (.ref a :: st)) : Run Z n0 p l e R s own m args below meth c Q h k n Ls pc L (.int z :: st) := fun T W => by
  have hd := hbD F d; obtain ⟨-, rfl⟩ := d
  obtain ⟨vm0, locs, k0, X, eT, hS, hk, hZ, hown, N, hO, I, kn⟩ := W
  subst hlen
  obtain ⟨T', h', cA, X', e', E', A', E2, st'⟩ := newPE X F.1 hZ w eT (g := mkF m pc L.toArray (.int z :: st)) rfl hd rfl hz hcap (Nat.le_of_ble_eq_true hb) hc hl had
  obtain ⟨u, o, r1, r⟩ := K h' h.size rfl (Keep.ofExt E') A'.lt ⟨_, A', by simp [newA], by simpa using (back32 hz).2, fun v hv => by rw [List.eq_of_mem_replicate hv]; cases aty <;> rfl⟩ E2 T' ⟨vm0, locs, k0, X', e', hS, Nat.le_trans hk E'.1, hZ, hown, N, hO.ext E', I, kn⟩
  exact ⟨u, o, st' _ r1, r⟩
end Jdk
end Jvm.Own
namespace Jvm.Pilot.@@N@@
open Jvm Jvm.ClassFile Sem Op Lib Jvm.Free Jvm.Stand Jvm.LawKit Jvm.RoadKit Bundle Jvm.Own Jvm.Pilot.@@N@@.Jvm.D
theorem pn0 : plainName "java/lang/StringUTF16" = true := by first | (simp [plainName, overriddenIn]; done) | decide +kernel
theorem pn1 : plainName "java/lang/String" = true := by first | (simp [plainName, overriddenIn]; done) | decide +kernel
theorem pn2 : plainName "java/lang/StringLatin1" = true := by first | (simp [plainName, overriddenIn]; done) | decide +kernel
theorem pn3 : plainName "com/example/stanzavault/stanzavault/FormatFinalNamespacePinLaw" = true := by first | (simp [plainName, overriddenIn]; done) | decide +kernel
theorem pn4 : plainName "com/example/stanzavault/stanzavault/Format" = true := by first | (simp [plainName, overriddenIn]; done) | decide +kernel
theorem pd0 : parseMethodDescriptor "(I)I" = some ⟨[.int], some .int⟩ := by decide +kernel
theorem pd1 : parseMethodDescriptor "(I)[B" = some ⟨[.int], some (.array .byte)⟩ := by decide +kernel
theorem pd2 : parseMethodDescriptor "([BII)V" = some ⟨[(.array .byte), .int, .int], none⟩ := by decide +kernel
theorem pd3 : parseMethodDescriptor "([CI[BII)I" = some ⟨[(.array .char), .int, (.array .byte), .int, .int], some .int⟩ := by decide +kernel
theorem pd4 : parseMethodDescriptor "([CII)[B" = some ⟨[(.array .char), .int, .int], some (.array .byte)⟩ := by decide +kernel
theorem pd5 : parseMethodDescriptor "([BI)C" = some ⟨[(.array .byte), .int], some .char⟩ := by decide +kernel
theorem pd6 : parseMethodDescriptor "([BI)B" = some ⟨[(.array .byte), .int], some .byte⟩ := by decide +kernel
theorem pd7 : parseMethodDescriptor "([CIILjava/lang/Void;)V" = some ⟨[(.array .char), .int, .int, (.object "java/lang/Void")], none⟩ := by decide +kernel
theorem pd8 : parseMethodDescriptor "([B[B)Z" = some ⟨[(.array .byte), (.array .byte)], some .boolean⟩ := by decide +kernel
theorem pd9 : parseMethodDescriptor "(Ljava/lang/Object;)Z" = some ⟨[(.object "java/lang/Object")], some .boolean⟩ := by decide +kernel
theorem pd10 : parseMethodDescriptor "(Ljava/lang/String;)Ljava/lang/String;" = some ⟨[(.object "java/lang/String")], some (.object "java/lang/String")⟩ := by decide +kernel
theorem pd11 : parseMethodDescriptor "()[C" = some ⟨[], some (.array .char)⟩ := by decide +kernel
theorem pd12 : parseMethodDescriptor "([C)V" = some ⟨[(.array .char)], none⟩ := by decide +kernel
theorem pd13 : parseMethodDescriptor "(C)[C" = some ⟨[.char], some (.array .char)⟩ := by decide +kernel
theorem d7_0 : Dc jdk_52_method_15_code 0 (.iload_n 1) 1 1 := ⟨by decide +kernel, rfl⟩
theorem d7_1 : Dc jdk_52_method_15_code 1 (.aload_n 0) 1 2 := ⟨by decide +kernel, rfl⟩
theorem d7_2 : Dc jdk_52_method_15_code 2 (.arraylength) 1 3 := ⟨by decide +kernel, rfl⟩
theorem d7_3 : Dc jdk_52_method_15_code 3 (.isub) 1 4 := ⟨by decide +kernel, rfl⟩
theorem d7_4 : Dc jdk_52_method_15_code 4 (.bipush 31) 2 6 := ⟨by decide +kernel, rfl⟩
theorem d7_6 : Dc jdk_52_method_15_code 6 (.iushr) 1 7 := ⟨by decide +kernel, rfl⟩
theorem d7_7 : Dc jdk_52_method_15_code 7 (.i2b) 1 8 := ⟨by decide +kernel, rfl⟩
theorem d7_8 : Dc jdk_52_method_15_code 8 (.ireturn) 1 9 := ⟨by decide +kernel, rfl⟩
theorem d14_0 : Dc jdk_52_method_4_code 0 (.getstatic 44) 3 3 := ⟨by decide +kernel, rfl⟩
theorem d14_3 : Dc jdk_52_method_4_code 3 (.ifCond .ne 25) 3 6 := ⟨by decide +kernel, rfl⟩
theorem d14_6 : Dc jdk_52_method_4_code 6 (.iload_n 1) 1 7 := ⟨by decide +kernel, rfl⟩
theorem d14_7 : Dc jdk_52_method_4_code 7 (.ifCond .lt 11) 3 10 := ⟨by decide +kernel, rfl⟩
theorem d14_10 : Dc jdk_52_method_4_code 10 (.iload_n 1) 1 11 := ⟨by decide +kernel, rfl⟩
theorem d14_11 : Dc jdk_52_method_4_code 11 (.aload_n 0) 1 12 := ⟨by decide +kernel, rfl⟩
theorem d14_12 : Dc jdk_52_method_4_code 12 (.invokestatic 48) 3 15 := ⟨by decide +kernel, rfl⟩
theorem d14_15 : Dc jdk_52_method_4_code 15 (.if_icmp .lt 13) 3 18 := ⟨by decide +kernel, rfl⟩
theorem d14_18 : Dc jdk_52_method_4_code 18 (.new 52) 3 21 := ⟨by decide +kernel, rfl⟩
theorem d14_21 : Dc jdk_52_method_4_code 21 (.dup) 1 22 := ⟨by decide +kernel, rfl⟩
theorem d14_22 : Dc jdk_52_method_4_code 22 (.ldc 54) 2 24 := ⟨by decide +kernel, rfl⟩
theorem d14_24 : Dc jdk_52_method_4_code 24 (.invokespecial 56) 3 27 := ⟨by decide +kernel, rfl⟩
theorem d14_27 : Dc jdk_52_method_4_code 27 (.athrow) 1 28 := ⟨by decide +kernel, rfl⟩
theorem d14_28 : Dc jdk_52_method_4_code 28 (.iload_n 1) 1 29 := ⟨by decide +kernel, rfl⟩
theorem d14_29 : Dc jdk_52_method_4_code 29 (.iconst 1) 1 30 := ⟨by decide +kernel, rfl⟩
theorem d14_30 : Dc jdk_52_method_4_code 30 (.ishl) 1 31 := ⟨by decide +kernel, rfl⟩
theorem d14_31 : Dc jdk_52_method_4_code 31 (.istore_n 1) 1 32 := ⟨by decide +kernel, rfl⟩
theorem d14_32 : Dc jdk_52_method_4_code 32 (.aload_n 0) 1 33 := ⟨by decide +kernel, rfl⟩
theorem d14_33 : Dc jdk_52_method_4_code 33 (.iload_n 1) 1 34 := ⟨by decide +kernel, rfl⟩
theorem d14_34 : Dc jdk_52_method_4_code 34 (.iinc 1 1) 3 37 := ⟨by decide +kernel, rfl⟩
theorem d14_37 : Dc jdk_52_method_4_code 37 (.iload_n 2) 1 38 := ⟨by decide +kernel, rfl⟩
theorem d14_38 : Dc jdk_52_method_4_code 38 (.getstatic 59) 3 41 := ⟨by decide +kernel, rfl⟩
theorem d14_41 : Dc jdk_52_method_4_code 41 (.ishr) 1 42 := ⟨by decide +kernel, rfl⟩
theorem d14_42 : Dc jdk_52_method_4_code 42 (.i2b) 1 43 := ⟨by decide +kernel, rfl⟩
theorem d14_43 : Dc jdk_52_method_4_code 43 (.bastore) 1 44 := ⟨by decide +kernel, rfl⟩
theorem d14_44 : Dc jdk_52_method_4_code 44 (.aload_n 0) 1 45 := ⟨by decide +kernel, rfl⟩
theorem d14_45 : Dc jdk_52_method_4_code 45 (.iload_n 1) 1 46 := ⟨by decide +kernel, rfl⟩
theorem d14_46 : Dc jdk_52_method_4_code 46 (.iload_n 2) 1 47 := ⟨by decide +kernel, rfl⟩
theorem d14_47 : Dc jdk_52_method_4_code 47 (.getstatic 63) 3 50 := ⟨by decide +kernel, rfl⟩
theorem d14_50 : Dc jdk_52_method_4_code 50 (.ishr) 1 51 := ⟨by decide +kernel, rfl⟩
theorem d14_51 : Dc jdk_52_method_4_code 51 (.i2b) 1 52 := ⟨by decide +kernel, rfl⟩
theorem d14_52 : Dc jdk_52_method_4_code 52 (.bastore) 1 53 := ⟨by decide +kernel, rfl⟩
theorem d14_53 : Dc jdk_52_method_4_code 53 (.return_) 1 54 := ⟨by decide +kernel, rfl⟩
theorem d15_0 : Dc jdk_52_method_5_code 0 (.getstatic 44) 3 3 := ⟨by decide +kernel, rfl⟩
theorem d15_3 : Dc jdk_52_method_5_code 3 (.ifCond .ne 25) 3 6 := ⟨by decide +kernel, rfl⟩
theorem d15_6 : Dc jdk_52_method_5_code 6 (.iload_n 1) 1 7 := ⟨by decide +kernel, rfl⟩
theorem d15_7 : Dc jdk_52_method_5_code 7 (.ifCond .lt 11) 3 10 := ⟨by decide +kernel, rfl⟩
theorem d15_10 : Dc jdk_52_method_5_code 10 (.iload_n 1) 1 11 := ⟨by decide +kernel, rfl⟩
theorem d15_11 : Dc jdk_52_method_5_code 11 (.aload_n 0) 1 12 := ⟨by decide +kernel, rfl⟩
theorem d15_12 : Dc jdk_52_method_5_code 12 (.invokestatic 48) 3 15 := ⟨by decide +kernel, rfl⟩
theorem d15_15 : Dc jdk_52_method_5_code 15 (.if_icmp .lt 13) 3 18 := ⟨by decide +kernel, rfl⟩
theorem d15_18 : Dc jdk_52_method_5_code 18 (.new 52) 3 21 := ⟨by decide +kernel, rfl⟩
theorem d15_21 : Dc jdk_52_method_5_code 21 (.dup) 1 22 := ⟨by decide +kernel, rfl⟩
theorem d15_22 : Dc jdk_52_method_5_code 22 (.ldc 54) 2 24 := ⟨by decide +kernel, rfl⟩
theorem d15_24 : Dc jdk_52_method_5_code 24 (.invokespecial 56) 3 27 := ⟨by decide +kernel, rfl⟩
theorem d15_27 : Dc jdk_52_method_5_code 27 (.athrow) 1 28 := ⟨by decide +kernel, rfl⟩
theorem d15_28 : Dc jdk_52_method_5_code 28 (.iload_n 1) 1 29 := ⟨by decide +kernel, rfl⟩
theorem d15_29 : Dc jdk_52_method_5_code 29 (.iconst 1) 1 30 := ⟨by decide +kernel, rfl⟩
theorem d15_30 : Dc jdk_52_method_5_code 30 (.ishl) 1 31 := ⟨by decide +kernel, rfl⟩
theorem d15_31 : Dc jdk_52_method_5_code 31 (.istore_n 1) 1 32 := ⟨by decide +kernel, rfl⟩
theorem d15_32 : Dc jdk_52_method_5_code 32 (.aload_n 0) 1 33 := ⟨by decide +kernel, rfl⟩
theorem d15_33 : Dc jdk_52_method_5_code 33 (.iload_n 1) 1 34 := ⟨by decide +kernel, rfl⟩
theorem d15_34 : Dc jdk_52_method_5_code 34 (.iinc 1 1) 3 37 := ⟨by decide +kernel, rfl⟩
theorem d15_37 : Dc jdk_52_method_5_code 37 (.baload) 1 38 := ⟨by decide +kernel, rfl⟩
theorem d15_38 : Dc jdk_52_method_5_code 38 (.sipush 255) 3 41 := ⟨by decide +kernel, rfl⟩
theorem d15_41 : Dc jdk_52_method_5_code 41 (.iand) 1 42 := ⟨by decide +kernel, rfl⟩
theorem d15_42 : Dc jdk_52_method_5_code 42 (.getstatic 59) 3 45 := ⟨by decide +kernel, rfl⟩
theorem d15_45 : Dc jdk_52_method_5_code 45 (.ishl) 1 46 := ⟨by decide +kernel, rfl⟩
theorem d15_46 : Dc jdk_52_method_5_code 46 (.aload_n 0) 1 47 := ⟨by decide +kernel, rfl⟩
theorem d15_47 : Dc jdk_52_method_5_code 47 (.iload_n 1) 1 48 := ⟨by decide +kernel, rfl⟩
theorem d15_48 : Dc jdk_52_method_5_code 48 (.baload) 1 49 := ⟨by decide +kernel, rfl⟩
theorem d15_49 : Dc jdk_52_method_5_code 49 (.sipush 255) 3 52 := ⟨by decide +kernel, rfl⟩
theorem d15_52 : Dc jdk_52_method_5_code 52 (.iand) 1 53 := ⟨by decide +kernel, rfl⟩
theorem d15_53 : Dc jdk_52_method_5_code 53 (.getstatic 63) 3 56 := ⟨by decide +kernel, rfl⟩
theorem d15_56 : Dc jdk_52_method_5_code 56 (.ishl) 1 57 := ⟨by decide +kernel, rfl⟩
theorem d15_57 : Dc jdk_52_method_5_code 57 (.ior) 1 58 := ⟨by decide +kernel, rfl⟩
theorem d15_58 : Dc jdk_52_method_5_code 58 (.i2c) 1 59 := ⟨by decide +kernel, rfl⟩
theorem d15_59 : Dc jdk_52_method_5_code 59 (.ireturn) 1 60 := ⟨by decide +kernel, rfl⟩
theorem d13_0 : Dc jdk_52_method_3_code 0 (.iload_n 0) 1 1 := ⟨by decide +kernel, rfl⟩
theorem d13_1 : Dc jdk_52_method_3_code 1 (.ifCond .ge 11) 3 4 := ⟨by decide +kernel, rfl⟩
theorem d13_4 : Dc jdk_52_method_3_code 4 (.new 17) 3 7 := ⟨by decide +kernel, rfl⟩
theorem d13_7 : Dc jdk_52_method_3_code 7 (.dup) 1 8 := ⟨by decide +kernel, rfl⟩
theorem d13_8 : Dc jdk_52_method_3_code 8 (.invokespecial 19) 3 11 := ⟨by decide +kernel, rfl⟩
theorem d13_11 : Dc jdk_52_method_3_code 11 (.athrow) 1 12 := ⟨by decide +kernel, rfl⟩
theorem d13_12 : Dc jdk_52_method_3_code 12 (.iload_n 0) 1 13 := ⟨by decide +kernel, rfl⟩
theorem d13_13 : Dc jdk_52_method_3_code 13 (.ldc 20) 2 15 := ⟨by decide +kernel, rfl⟩
theorem d13_15 : Dc jdk_52_method_3_code 15 (.if_icmp .lt 40) 3 18 := ⟨by decide +kernel, rfl⟩
theorem d13_18 : Dc jdk_52_method_3_code 18 (.new 21) 3 21 := ⟨by decide +kernel, rfl⟩
theorem d13_21 : Dc jdk_52_method_3_code 21 (.dup) 1 22 := ⟨by decide +kernel, rfl⟩
theorem d13_22 : Dc jdk_52_method_3_code 22 (.new 23) 3 25 := ⟨by decide +kernel, rfl⟩
theorem d13_25 : Dc jdk_52_method_3_code 25 (.dup) 1 26 := ⟨by decide +kernel, rfl⟩
theorem d13_26 : Dc jdk_52_method_3_code 26 (.invokespecial 25) 3 29 := ⟨by decide +kernel, rfl⟩
theorem d13_29 : Dc jdk_52_method_3_code 29 (.ldc 26) 2 31 := ⟨by decide +kernel, rfl⟩
theorem d13_31 : Dc jdk_52_method_3_code 31 (.invokevirtual 28) 3 34 := ⟨by decide +kernel, rfl⟩
theorem d13_34 : Dc jdk_52_method_3_code 34 (.iload_n 0) 1 35 := ⟨by decide +kernel, rfl⟩
theorem d13_35 : Dc jdk_52_method_3_code 35 (.invokevirtual 32) 3 38 := ⟨by decide +kernel, rfl⟩
theorem d13_38 : Dc jdk_52_method_3_code 38 (.ldc 35) 2 40 := ⟨by decide +kernel, rfl⟩
theorem d13_40 : Dc jdk_52_method_3_code 40 (.invokevirtual 28) 3 43 := ⟨by decide +kernel, rfl⟩
theorem d13_43 : Dc jdk_52_method_3_code 43 (.ldc 20) 2 45 := ⟨by decide +kernel, rfl⟩
theorem d13_45 : Dc jdk_52_method_3_code 45 (.invokevirtual 32) 3 48 := ⟨by decide +kernel, rfl⟩
theorem d13_48 : Dc jdk_52_method_3_code 48 (.invokevirtual 37) 3 51 := ⟨by decide +kernel, rfl⟩
theorem d13_51 : Dc jdk_52_method_3_code 51 (.invokespecial 41) 3 54 := ⟨by decide +kernel, rfl⟩
theorem d13_54 : Dc jdk_52_method_3_code 54 (.athrow) 1 55 := ⟨by decide +kernel, rfl⟩
theorem d13_55 : Dc jdk_52_method_3_code 55 (.iload_n 0) 1 56 := ⟨by decide +kernel, rfl⟩
theorem d13_56 : Dc jdk_52_method_3_code 56 (.iconst 1) 1 57 := ⟨by decide +kernel, rfl⟩
theorem d13_57 : Dc jdk_52_method_3_code 57 (.ishl) 1 58 := ⟨by decide +kernel, rfl⟩
theorem d13_58 : Dc jdk_52_method_3_code 58 (.ireturn) 1 59 := ⟨by decide +kernel, rfl⟩
theorem d12_0 : Dc jdk_52_method_2_code 0 (.iload_n 0) 1 1 := ⟨by decide +kernel, rfl⟩
theorem d12_1 : Dc jdk_52_method_2_code 1 (.invokestatic 11) 3 4 := ⟨by decide +kernel, rfl⟩
theorem d12_4 : Dc jdk_52_method_2_code 4 (.newarray .byte) 2 6 := ⟨by decide +kernel, rfl⟩
theorem d12_6 : Dc jdk_52_method_2_code 6 (.areturn) 1 7 := ⟨by decide +kernel, rfl⟩
theorem d11_0 : Dc jdk_52_method_14_code 0 (.iload_n 2) 1 1 := ⟨by decide +kernel, rfl⟩
theorem d11_1 : Dc jdk_52_method_14_code 1 (.invokestatic 107) 3 4 := ⟨by decide +kernel, rfl⟩
theorem d11_4 : Dc jdk_52_method_14_code 4 (.astore_n 3) 1 5 := ⟨by decide +kernel, rfl⟩
theorem d11_5 : Dc jdk_52_method_14_code 5 (.iconst 0) 1 6 := ⟨by decide +kernel, rfl⟩
theorem d11_6 : Dc jdk_52_method_14_code 6 (.istore 4) 2 8 := ⟨by decide +kernel, rfl⟩
theorem d11_8 : Dc jdk_52_method_14_code 8 (.iload 4) 2 10 := ⟨by decide +kernel, rfl⟩
theorem d11_10 : Dc jdk_52_method_14_code 10 (.iload_n 2) 1 11 := ⟨by decide +kernel, rfl⟩
theorem d11_11 : Dc jdk_52_method_14_code 11 (.if_icmp .ge 21) 3 14 := ⟨by decide +kernel, rfl⟩
theorem d11_14 : Dc jdk_52_method_14_code 14 (.aload_n 3) 1 15 := ⟨by decide +kernel, rfl⟩
theorem d11_15 : Dc jdk_52_method_14_code 15 (.iload 4) 2 17 := ⟨by decide +kernel, rfl⟩
theorem d11_17 : Dc jdk_52_method_14_code 17 (.aload_n 0) 1 18 := ⟨by decide +kernel, rfl⟩
theorem d11_18 : Dc jdk_52_method_14_code 18 (.iload_n 1) 1 19 := ⟨by decide +kernel, rfl⟩
theorem d11_19 : Dc jdk_52_method_14_code 19 (.caload) 1 20 := ⟨by decide +kernel, rfl⟩
theorem d11_20 : Dc jdk_52_method_14_code 20 (.invokestatic 111) 3 23 := ⟨by decide +kernel, rfl⟩
theorem d11_23 : Dc jdk_52_method_14_code 23 (.iinc 1 1) 3 26 := ⟨by decide +kernel, rfl⟩
theorem d11_26 : Dc jdk_52_method_14_code 26 (.iinc 4 1) 3 29 := ⟨by decide +kernel, rfl⟩
theorem d11_29 : Dc jdk_52_method_14_code 29 (.goto (-21)) 3 32 := ⟨by decide +kernel, rfl⟩
theorem d11_32 : Dc jdk_52_method_14_code 32 (.aload_n 3) 1 33 := ⟨by decide +kernel, rfl⟩
theorem d11_33 : Dc jdk_52_method_14_code 33 (.areturn) 1 34 := ⟨by decide +kernel, rfl⟩
theorem d6_0 : Dc jdk_52_method_21_code 0 (.iconst 0) 1 1 := ⟨by decide +kernel, rfl⟩
theorem d6_1 : Dc jdk_52_method_21_code 1 (.istore 5) 2 3 := ⟨by decide +kernel, rfl⟩
theorem d6_3 : Dc jdk_52_method_21_code 3 (.iload 5) 2 5 := ⟨by decide +kernel, rfl⟩
theorem d6_5 : Dc jdk_52_method_21_code 5 (.iload 4) 2 7 := ⟨by decide +kernel, rfl⟩
theorem d6_7 : Dc jdk_52_method_21_code 7 (.if_icmp .ge 37) 3 10 := ⟨by decide +kernel, rfl⟩
theorem d6_10 : Dc jdk_52_method_21_code 10 (.aload_n 0) 1 11 := ⟨by decide +kernel, rfl⟩
theorem d6_11 : Dc jdk_52_method_21_code 11 (.iload_n 1) 1 12 := ⟨by decide +kernel, rfl⟩
theorem d6_12 : Dc jdk_52_method_21_code 12 (.caload) 1 13 := ⟨by decide +kernel, rfl⟩
theorem d6_13 : Dc jdk_52_method_21_code 13 (.istore 6) 2 15 := ⟨by decide +kernel, rfl⟩
theorem d6_15 : Dc jdk_52_method_21_code 15 (.iload 6) 2 17 := ⟨by decide +kernel, rfl⟩
theorem d6_17 : Dc jdk_52_method_21_code 17 (.sipush 255) 3 20 := ⟨by decide +kernel, rfl⟩
theorem d6_20 : Dc jdk_52_method_21_code 20 (.if_icmp .le 6) 3 23 := ⟨by decide +kernel, rfl⟩
theorem d6_23 : Dc jdk_52_method_21_code 23 (.iload 5) 2 25 := ⟨by decide +kernel, rfl⟩
theorem d6_25 : Dc jdk_52_method_21_code 25 (.ireturn) 1 26 := ⟨by decide +kernel, rfl⟩
theorem d6_26 : Dc jdk_52_method_21_code 26 (.aload_n 2) 1 27 := ⟨by decide +kernel, rfl⟩
theorem d6_27 : Dc jdk_52_method_21_code 27 (.iload_n 3) 1 28 := ⟨by decide +kernel, rfl⟩
theorem d6_28 : Dc jdk_52_method_21_code 28 (.iload 6) 2 30 := ⟨by decide +kernel, rfl⟩
theorem d6_30 : Dc jdk_52_method_21_code 30 (.i2b) 1 31 := ⟨by decide +kernel, rfl⟩
theorem d6_31 : Dc jdk_52_method_21_code 31 (.bastore) 1 32 := ⟨by decide +kernel, rfl⟩
theorem d6_32 : Dc jdk_52_method_21_code 32 (.iinc 1 1) 3 35 := ⟨by decide +kernel, rfl⟩
theorem d6_35 : Dc jdk_52_method_21_code 35 (.iinc 3 1) 3 38 := ⟨by decide +kernel, rfl⟩
theorem d6_38 : Dc jdk_52_method_21_code 38 (.iinc 5 1) 3 41 := ⟨by decide +kernel, rfl⟩
theorem d6_41 : Dc jdk_52_method_21_code 41 (.goto (-38)) 3 44 := ⟨by decide +kernel, rfl⟩
theorem d6_44 : Dc jdk_52_method_21_code 44 (.iload 4) 2 46 := ⟨by decide +kernel, rfl⟩
theorem d6_46 : Dc jdk_52_method_21_code 46 (.ireturn) 1 47 := ⟨by decide +kernel, rfl⟩
theorem d5_0 : Dc jdk_52_method_16_code 0 (.iload_n 2) 1 1 := ⟨by decide +kernel, rfl⟩
theorem d5_1 : Dc jdk_52_method_16_code 1 (.newarray .byte) 2 3 := ⟨by decide +kernel, rfl⟩
theorem d5_3 : Dc jdk_52_method_16_code 3 (.astore_n 3) 1 4 := ⟨by decide +kernel, rfl⟩
theorem d5_4 : Dc jdk_52_method_16_code 4 (.aload_n 0) 1 5 := ⟨by decide +kernel, rfl⟩
theorem d5_5 : Dc jdk_52_method_16_code 5 (.iload_n 1) 1 6 := ⟨by decide +kernel, rfl⟩
theorem d5_6 : Dc jdk_52_method_16_code 6 (.aload_n 3) 1 7 := ⟨by decide +kernel, rfl⟩
theorem d5_7 : Dc jdk_52_method_16_code 7 (.iconst 0) 1 8 := ⟨by decide +kernel, rfl⟩
theorem d5_8 : Dc jdk_52_method_16_code 8 (.iload_n 2) 1 9 := ⟨by decide +kernel, rfl⟩
theorem d5_9 : Dc jdk_52_method_16_code 9 (.invokestatic 115) 3 12 := ⟨by decide +kernel, rfl⟩
theorem d5_12 : Dc jdk_52_method_16_code 12 (.istore 4) 2 14 := ⟨by decide +kernel, rfl⟩
theorem d5_14 : Dc jdk_52_method_16_code 14 (.iload 4) 2 16 := ⟨by decide +kernel, rfl⟩
theorem d5_16 : Dc jdk_52_method_16_code 16 (.iload_n 2) 1 17 := ⟨by decide +kernel, rfl⟩
theorem d5_17 : Dc jdk_52_method_16_code 17 (.if_icmp .eq 40) 3 20 := ⟨by decide +kernel, rfl⟩
theorem d5_20 : Dc jdk_52_method_16_code 20 (.aload_n 0) 1 21 := ⟨by decide +kernel, rfl⟩
theorem d5_21 : Dc jdk_52_method_16_code 21 (.iload_n 1) 1 22 := ⟨by decide +kernel, rfl⟩
theorem d5_22 : Dc jdk_52_method_16_code 22 (.iload_n 2) 1 23 := ⟨by decide +kernel, rfl⟩
theorem d5_23 : Dc jdk_52_method_16_code 23 (.invokestatic 119) 3 26 := ⟨by decide +kernel, rfl⟩
theorem d5_26 : Dc jdk_52_method_16_code 26 (.astore 5) 2 28 := ⟨by decide +kernel, rfl⟩
theorem d5_28 : Dc jdk_52_method_16_code 28 (.aload 5) 2 30 := ⟨by decide +kernel, rfl⟩
theorem d5_30 : Dc jdk_52_method_16_code 30 (.iload 4) 2 32 := ⟨by decide +kernel, rfl⟩
theorem d5_32 : Dc jdk_52_method_16_code 32 (.invokestatic 71) 3 35 := ⟨by decide +kernel, rfl⟩
theorem d5_35 : Dc jdk_52_method_16_code 35 (.sipush 255) 3 38 := ⟨by decide +kernel, rfl⟩
theorem d5_38 : Dc jdk_52_method_16_code 38 (.if_icmp .gt 16) 3 41 := ⟨by decide +kernel, rfl⟩
theorem d5_41 : Dc jdk_52_method_16_code 41 (.aload 5) 2 43 := ⟨by decide +kernel, rfl⟩
theorem d5_43 : Dc jdk_52_method_16_code 43 (.iconst 0) 1 44 := ⟨by decide +kernel, rfl⟩
theorem d5_44 : Dc jdk_52_method_16_code 44 (.aload_n 3) 1 45 := ⟨by decide +kernel, rfl⟩
theorem d5_45 : Dc jdk_52_method_16_code 45 (.iconst 0) 1 46 := ⟨by decide +kernel, rfl⟩
theorem d5_46 : Dc jdk_52_method_16_code 46 (.iload_n 2) 1 47 := ⟨by decide +kernel, rfl⟩
theorem d5_47 : Dc jdk_52_method_16_code 47 (.invokestatic 123) 3 50 := ⟨by decide +kernel, rfl⟩
theorem d5_50 : Dc jdk_52_method_16_code 50 (.iload_n 2) 1 51 := ⟨by decide +kernel, rfl⟩
theorem d5_51 : Dc jdk_52_method_16_code 51 (.if_icmp .eq 6) 3 54 := ⟨by decide +kernel, rfl⟩
theorem d5_54 : Dc jdk_52_method_16_code 54 (.aload 5) 2 56 := ⟨by decide +kernel, rfl⟩
theorem d5_56 : Dc jdk_52_method_16_code 56 (.areturn) 1 57 := ⟨by decide +kernel, rfl⟩
theorem d5_57 : Dc jdk_52_method_16_code 57 (.aload_n 3) 1 58 := ⟨by decide +kernel, rfl⟩
theorem d5_58 : Dc jdk_52_method_16_code 58 (.areturn) 1 59 := ⟨by decide +kernel, rfl⟩
theorem d3_0 : Dc jdk_42_method_149_code 0 (.aload_n 0) 1 1 := ⟨by decide +kernel, rfl⟩
theorem d3_1 : Dc jdk_42_method_149_code 1 (.invokespecial 1) 3 4 := ⟨by decide +kernel, rfl⟩
theorem d3_4 : Dc jdk_42_method_149_code 4 (.iload_n 3) 1 5 := ⟨by decide +kernel, rfl⟩
theorem d3_5 : Dc jdk_42_method_149_code 5 (.ifCond .ne 22) 3 8 := ⟨by decide +kernel, rfl⟩
theorem d3_8 : Dc jdk_42_method_149_code 8 (.aload_n 0) 1 9 := ⟨by decide +kernel, rfl⟩
theorem d3_9 : Dc jdk_42_method_149_code 9 (.ldc 7) 2 11 := ⟨by decide +kernel, rfl⟩
theorem d3_11 : Dc jdk_42_method_149_code 11 (.getfield 9) 3 14 := ⟨by decide +kernel, rfl⟩
theorem d3_14 : Dc jdk_42_method_149_code 14 (.putfield 9) 3 17 := ⟨by decide +kernel, rfl⟩
theorem d3_17 : Dc jdk_42_method_149_code 17 (.aload_n 0) 1 18 := ⟨by decide +kernel, rfl⟩
theorem d3_18 : Dc jdk_42_method_149_code 18 (.ldc 7) 2 20 := ⟨by decide +kernel, rfl⟩
theorem d3_20 : Dc jdk_42_method_149_code 20 (.getfield 15) 3 23 := ⟨by decide +kernel, rfl⟩
theorem d3_23 : Dc jdk_42_method_149_code 23 (.putfield 15) 3 26 := ⟨by decide +kernel, rfl⟩
theorem d3_26 : Dc jdk_42_method_149_code 26 (.return_) 1 27 := ⟨by decide +kernel, rfl⟩
theorem d3_27 : Dc jdk_42_method_149_code 27 (.getstatic 38) 3 30 := ⟨by decide +kernel, rfl⟩
theorem d3_30 : Dc jdk_42_method_149_code 30 (.ifCond .eq 28) 3 33 := ⟨by decide +kernel, rfl⟩
theorem d3_33 : Dc jdk_42_method_149_code 33 (.aload_n 1) 1 34 := ⟨by decide +kernel, rfl⟩
theorem d3_34 : Dc jdk_42_method_149_code 34 (.iload_n 2) 1 35 := ⟨by decide +kernel, rfl⟩
theorem d3_35 : Dc jdk_42_method_149_code 35 (.iload_n 3) 1 36 := ⟨by decide +kernel, rfl⟩
theorem d3_36 : Dc jdk_42_method_149_code 36 (.invokestatic 177) 3 39 := ⟨by decide +kernel, rfl⟩
theorem d3_39 : Dc jdk_42_method_149_code 39 (.astore 5) 2 41 := ⟨by decide +kernel, rfl⟩
theorem d3_41 : Dc jdk_42_method_149_code 41 (.aload_n 0) 1 42 := ⟨by decide +kernel, rfl⟩
theorem d3_42 : Dc jdk_42_method_149_code 42 (.aload 5) 2 44 := ⟨by decide +kernel, rfl⟩
theorem d3_44 : Dc jdk_42_method_149_code 44 (.iload_n 3) 1 45 := ⟨by decide +kernel, rfl⟩
theorem d3_45 : Dc jdk_42_method_149_code 45 (.invokestatic 47) 3 48 := ⟨by decide +kernel, rfl⟩
theorem d3_48 : Dc jdk_42_method_149_code 48 (.putfield 15) 3 51 := ⟨by decide +kernel, rfl⟩
theorem d3_51 : Dc jdk_42_method_149_code 51 (.aload_n 0) 1 52 := ⟨by decide +kernel, rfl⟩
theorem d3_52 : Dc jdk_42_method_149_code 52 (.aload 5) 2 54 := ⟨by decide +kernel, rfl⟩
theorem d3_54 : Dc jdk_42_method_149_code 54 (.putfield 9) 3 57 := ⟨by decide +kernel, rfl⟩
theorem d3_57 : Dc jdk_42_method_149_code 57 (.return_) 1 58 := ⟨by decide +kernel, rfl⟩
theorem d3_58 : Dc jdk_42_method_149_code 58 (.aload_n 0) 1 59 := ⟨by decide +kernel, rfl⟩
theorem d3_59 : Dc jdk_42_method_149_code 59 (.iconst 1) 1 60 := ⟨by decide +kernel, rfl⟩
theorem d3_60 : Dc jdk_42_method_149_code 60 (.putfield 15) 3 63 := ⟨by decide +kernel, rfl⟩
theorem d3_63 : Dc jdk_42_method_149_code 63 (.aload_n 0) 1 64 := ⟨by decide +kernel, rfl⟩
theorem d3_64 : Dc jdk_42_method_149_code 64 (.aload_n 1) 1 65 := ⟨by decide +kernel, rfl⟩
theorem d3_65 : Dc jdk_42_method_149_code 65 (.iload_n 2) 1 66 := ⟨by decide +kernel, rfl⟩
theorem d3_66 : Dc jdk_42_method_149_code 66 (.iload_n 3) 1 67 := ⟨by decide +kernel, rfl⟩
theorem d3_67 : Dc jdk_42_method_149_code 67 (.invokestatic 180) 3 70 := ⟨by decide +kernel, rfl⟩
theorem d3_70 : Dc jdk_42_method_149_code 70 (.putfield 9) 3 73 := ⟨by decide +kernel, rfl⟩
theorem d3_73 : Dc jdk_42_method_149_code 73 (.return_) 1 74 := ⟨by decide +kernel, rfl⟩
theorem d2_0 : Dc jdk_42_method_3_code 0 (.aload_n 0) 1 1 := ⟨by decide +kernel, rfl⟩
theorem d2_1 : Dc jdk_42_method_3_code 1 (.aload_n 1) 1 2 := ⟨by decide +kernel, rfl⟩
theorem d2_2 : Dc jdk_42_method_3_code 2 (.iconst 0) 1 3 := ⟨by decide +kernel, rfl⟩
theorem d2_3 : Dc jdk_42_method_3_code 3 (.aload_n 1) 1 4 := ⟨by decide +kernel, rfl⟩
theorem d2_4 : Dc jdk_42_method_3_code 4 (.arraylength) 1 5 := ⟨by decide +kernel, rfl⟩
theorem d2_5 : Dc jdk_42_method_3_code 5 (.aconst_null) 1 6 := ⟨by decide +kernel, rfl⟩
theorem d2_6 : Dc jdk_42_method_3_code 6 (.invokespecial 27) 3 9 := ⟨by decide +kernel, rfl⟩
theorem d2_9 : Dc jdk_42_method_3_code 9 (.return_) 1 10 := ⟨by decide +kernel, rfl⟩
theorem d10_0 : Dc jdk_43_method_13_code 0 (.aload_n 0) 1 1 := ⟨by decide +kernel, rfl⟩
theorem d10_1 : Dc jdk_43_method_13_code 1 (.arraylength) 1 2 := ⟨by decide +kernel, rfl⟩
theorem d10_2 : Dc jdk_43_method_13_code 2 (.aload_n 1) 1 3 := ⟨by decide +kernel, rfl⟩
theorem d10_3 : Dc jdk_43_method_13_code 3 (.arraylength) 1 4 := ⟨by decide +kernel, rfl⟩
theorem d10_4 : Dc jdk_43_method_13_code 4 (.if_icmp .ne 30) 3 7 := ⟨by decide +kernel, rfl⟩
theorem d10_7 : Dc jdk_43_method_13_code 7 (.iconst 0) 1 8 := ⟨by decide +kernel, rfl⟩
theorem d10_8 : Dc jdk_43_method_13_code 8 (.istore_n 2) 1 9 := ⟨by decide +kernel, rfl⟩
theorem d10_9 : Dc jdk_43_method_13_code 9 (.iload_n 2) 1 10 := ⟨by decide +kernel, rfl⟩
theorem d10_10 : Dc jdk_43_method_13_code 10 (.aload_n 0) 1 11 := ⟨by decide +kernel, rfl⟩
theorem d10_11 : Dc jdk_43_method_13_code 11 (.arraylength) 1 12 := ⟨by decide +kernel, rfl⟩
theorem d10_12 : Dc jdk_43_method_13_code 12 (.if_icmp .ge 20) 3 15 := ⟨by decide +kernel, rfl⟩
theorem d10_15 : Dc jdk_43_method_13_code 15 (.aload_n 0) 1 16 := ⟨by decide +kernel, rfl⟩
theorem d10_16 : Dc jdk_43_method_13_code 16 (.iload_n 2) 1 17 := ⟨by decide +kernel, rfl⟩
theorem d10_17 : Dc jdk_43_method_13_code 17 (.baload) 1 18 := ⟨by decide +kernel, rfl⟩
theorem d10_18 : Dc jdk_43_method_13_code 18 (.aload_n 1) 1 19 := ⟨by decide +kernel, rfl⟩
theorem d10_19 : Dc jdk_43_method_13_code 19 (.iload_n 2) 1 20 := ⟨by decide +kernel, rfl⟩
theorem d10_20 : Dc jdk_43_method_13_code 20 (.baload) 1 21 := ⟨by decide +kernel, rfl⟩
theorem d10_21 : Dc jdk_43_method_13_code 21 (.if_icmp .eq 5) 3 24 := ⟨by decide +kernel, rfl⟩
theorem d10_24 : Dc jdk_43_method_13_code 24 (.iconst 0) 1 25 := ⟨by decide +kernel, rfl⟩
theorem d10_25 : Dc jdk_43_method_13_code 25 (.ireturn) 1 26 := ⟨by decide +kernel, rfl⟩
theorem d10_26 : Dc jdk_43_method_13_code 26 (.iinc 2 1) 3 29 := ⟨by decide +kernel, rfl⟩
theorem d10_29 : Dc jdk_43_method_13_code 29 (.goto (-20)) 3 32 := ⟨by decide +kernel, rfl⟩
theorem d10_32 : Dc jdk_43_method_13_code 32 (.iconst 1) 1 33 := ⟨by decide +kernel, rfl⟩
theorem d10_33 : Dc jdk_43_method_13_code 33 (.ireturn) 1 34 := ⟨by decide +kernel, rfl⟩
theorem d10_34 : Dc jdk_43_method_13_code 34 (.iconst 0) 1 35 := ⟨by decide +kernel, rfl⟩
theorem d10_35 : Dc jdk_43_method_13_code 35 (.ireturn) 1 36 := ⟨by decide +kernel, rfl⟩
theorem d9_0 : Dc jdk_42_method_66_code 0 (.aload_n 0) 1 1 := ⟨by decide +kernel, rfl⟩
theorem d9_1 : Dc jdk_42_method_66_code 1 (.aload_n 1) 1 2 := ⟨by decide +kernel, rfl⟩
theorem d9_2 : Dc jdk_42_method_66_code 2 (.if_acmp .ne 5) 3 5 := ⟨by decide +kernel, rfl⟩
theorem d9_5 : Dc jdk_42_method_66_code 5 (.iconst 1) 1 6 := ⟨by decide +kernel, rfl⟩
theorem d9_6 : Dc jdk_42_method_66_code 6 (.ireturn) 1 7 := ⟨by decide +kernel, rfl⟩
theorem d9_7 : Dc jdk_42_method_66_code 7 (.aload_n 1) 1 8 := ⟨by decide +kernel, rfl⟩
theorem d9_8 : Dc jdk_42_method_66_code 8 (.instanceof 10) 3 11 := ⟨by decide +kernel, rfl⟩
theorem d9_11 : Dc jdk_42_method_66_code 11 (.ifCond .eq 43) 3 14 := ⟨by decide +kernel, rfl⟩
theorem d9_14 : Dc jdk_42_method_66_code 14 (.aload_n 1) 1 15 := ⟨by decide +kernel, rfl⟩
theorem d9_15 : Dc jdk_42_method_66_code 15 (.checkcast 10) 3 18 := ⟨by decide +kernel, rfl⟩
theorem d9_18 : Dc jdk_42_method_66_code 18 (.astore_n 2) 1 19 := ⟨by decide +kernel, rfl⟩
theorem d9_19 : Dc jdk_42_method_66_code 19 (.getstatic 38) 3 22 := ⟨by decide +kernel, rfl⟩
theorem d9_22 : Dc jdk_42_method_66_code 22 (.ifCond .eq 14) 3 25 := ⟨by decide +kernel, rfl⟩
theorem d9_25 : Dc jdk_42_method_66_code 25 (.aload_n 0) 1 26 := ⟨by decide +kernel, rfl⟩
theorem d9_26 : Dc jdk_42_method_66_code 26 (.getfield 15) 3 29 := ⟨by decide +kernel, rfl⟩
theorem d9_29 : Dc jdk_42_method_66_code 29 (.aload_n 2) 1 30 := ⟨by decide +kernel, rfl⟩
theorem d9_30 : Dc jdk_42_method_66_code 30 (.getfield 15) 3 33 := ⟨by decide +kernel, rfl⟩
theorem d9_33 : Dc jdk_42_method_66_code 33 (.if_icmp .ne 21) 3 36 := ⟨by decide +kernel, rfl⟩
theorem d9_36 : Dc jdk_42_method_66_code 36 (.aload_n 0) 1 37 := ⟨by decide +kernel, rfl⟩
theorem d9_37 : Dc jdk_42_method_66_code 37 (.getfield 9) 3 40 := ⟨by decide +kernel, rfl⟩
theorem d9_40 : Dc jdk_42_method_66_code 40 (.aload_n 2) 1 41 := ⟨by decide +kernel, rfl⟩
theorem d9_41 : Dc jdk_42_method_66_code 41 (.getfield 9) 3 44 := ⟨by decide +kernel, rfl⟩
theorem d9_44 : Dc jdk_42_method_66_code 44 (.invokestatic 541) 3 47 := ⟨by decide +kernel, rfl⟩
theorem d9_47 : Dc jdk_42_method_66_code 47 (.ifCond .eq 7) 3 50 := ⟨by decide +kernel, rfl⟩
theorem d9_50 : Dc jdk_42_method_66_code 50 (.iconst 1) 1 51 := ⟨by decide +kernel, rfl⟩
theorem d9_51 : Dc jdk_42_method_66_code 51 (.goto 4) 3 54 := ⟨by decide +kernel, rfl⟩
theorem d9_54 : Dc jdk_42_method_66_code 54 (.iconst 0) 1 55 := ⟨by decide +kernel, rfl⟩
theorem d9_55 : Dc jdk_42_method_66_code 55 (.ireturn) 1 56 := ⟨by decide +kernel, rfl⟩
theorem d1_0 : Dc method_2_code 0 (.bipush 47) 2 2 := ⟨by decide +kernel, rfl⟩
theorem d1_2 : Dc method_2_code 2 (.newarray .char) 2 4 := ⟨by decide +kernel, rfl⟩
theorem d1_4 : Dc method_2_code 4 (.dup) 1 5 := ⟨by decide +kernel, rfl⟩
theorem d1_5 : Dc method_2_code 5 (.iconst 0) 1 6 := ⟨by decide +kernel, rfl⟩
theorem d1_6 : Dc method_2_code 6 (.bipush 104) 2 8 := ⟨by decide +kernel, rfl⟩
theorem d1_8 : Dc method_2_code 8 (.castore) 1 9 := ⟨by decide +kernel, rfl⟩
theorem d1_9 : Dc method_2_code 9 (.dup) 1 10 := ⟨by decide +kernel, rfl⟩
theorem d1_10 : Dc method_2_code 10 (.iconst 1) 1 11 := ⟨by decide +kernel, rfl⟩
theorem d1_11 : Dc method_2_code 11 (.bipush 116) 2 13 := ⟨by decide +kernel, rfl⟩
theorem d1_13 : Dc method_2_code 13 (.castore) 1 14 := ⟨by decide +kernel, rfl⟩
theorem d1_14 : Dc method_2_code 14 (.dup) 1 15 := ⟨by decide +kernel, rfl⟩
theorem d1_15 : Dc method_2_code 15 (.iconst 2) 1 16 := ⟨by decide +kernel, rfl⟩
theorem d1_16 : Dc method_2_code 16 (.bipush 116) 2 18 := ⟨by decide +kernel, rfl⟩
theorem d1_18 : Dc method_2_code 18 (.castore) 1 19 := ⟨by decide +kernel, rfl⟩
theorem d1_19 : Dc method_2_code 19 (.dup) 1 20 := ⟨by decide +kernel, rfl⟩
theorem d1_20 : Dc method_2_code 20 (.iconst 3) 1 21 := ⟨by decide +kernel, rfl⟩
theorem d1_21 : Dc method_2_code 21 (.bipush 112) 2 23 := ⟨by decide +kernel, rfl⟩
theorem d1_23 : Dc method_2_code 23 (.castore) 1 24 := ⟨by decide +kernel, rfl⟩
theorem d1_24 : Dc method_2_code 24 (.dup) 1 25 := ⟨by decide +kernel, rfl⟩
theorem d1_25 : Dc method_2_code 25 (.iconst 4) 1 26 := ⟨by decide +kernel, rfl⟩
theorem d1_26 : Dc method_2_code 26 (.bipush 58) 2 28 := ⟨by decide +kernel, rfl⟩
theorem d1_28 : Dc method_2_code 28 (.castore) 1 29 := ⟨by decide +kernel, rfl⟩
theorem d1_29 : Dc method_2_code 29 (.dup) 1 30 := ⟨by decide +kernel, rfl⟩
theorem d1_30 : Dc method_2_code 30 (.iconst 5) 1 31 := ⟨by decide +kernel, rfl⟩
theorem d1_31 : Dc method_2_code 31 (.bipush 47) 2 33 := ⟨by decide +kernel, rfl⟩
theorem d1_33 : Dc method_2_code 33 (.castore) 1 34 := ⟨by decide +kernel, rfl⟩
theorem d1_34 : Dc method_2_code 34 (.dup) 1 35 := ⟨by decide +kernel, rfl⟩
theorem d1_35 : Dc method_2_code 35 (.bipush 6) 2 37 := ⟨by decide +kernel, rfl⟩
theorem d1_37 : Dc method_2_code 37 (.bipush 47) 2 39 := ⟨by decide +kernel, rfl⟩
theorem d1_39 : Dc method_2_code 39 (.castore) 1 40 := ⟨by decide +kernel, rfl⟩
theorem d1_40 : Dc method_2_code 40 (.dup) 1 41 := ⟨by decide +kernel, rfl⟩
theorem d1_41 : Dc method_2_code 41 (.bipush 7) 2 43 := ⟨by decide +kernel, rfl⟩
theorem d1_43 : Dc method_2_code 43 (.bipush 119) 2 45 := ⟨by decide +kernel, rfl⟩
theorem d1_45 : Dc method_2_code 45 (.castore) 1 46 := ⟨by decide +kernel, rfl⟩
theorem d1_46 : Dc method_2_code 46 (.dup) 1 47 := ⟨by decide +kernel, rfl⟩
theorem d1_47 : Dc method_2_code 47 (.bipush 8) 2 49 := ⟨by decide +kernel, rfl⟩
theorem d1_49 : Dc method_2_code 49 (.bipush 119) 2 51 := ⟨by decide +kernel, rfl⟩
theorem d1_51 : Dc method_2_code 51 (.castore) 1 52 := ⟨by decide +kernel, rfl⟩
theorem d1_52 : Dc method_2_code 52 (.dup) 1 53 := ⟨by decide +kernel, rfl⟩
theorem d1_53 : Dc method_2_code 53 (.bipush 9) 2 55 := ⟨by decide +kernel, rfl⟩
theorem d1_55 : Dc method_2_code 55 (.bipush 119) 2 57 := ⟨by decide +kernel, rfl⟩
theorem d1_57 : Dc method_2_code 57 (.castore) 1 58 := ⟨by decide +kernel, rfl⟩
theorem d1_58 : Dc method_2_code 58 (.dup) 1 59 := ⟨by decide +kernel, rfl⟩
theorem d1_59 : Dc method_2_code 59 (.bipush 10) 2 61 := ⟨by decide +kernel, rfl⟩
theorem d1_61 : Dc method_2_code 61 (.bipush 46) 2 63 := ⟨by decide +kernel, rfl⟩
theorem d1_63 : Dc method_2_code 63 (.castore) 1 64 := ⟨by decide +kernel, rfl⟩
theorem d1_64 : Dc method_2_code 64 (.dup) 1 65 := ⟨by decide +kernel, rfl⟩
theorem d1_65 : Dc method_2_code 65 (.bipush 11) 2 67 := ⟨by decide +kernel, rfl⟩
theorem d1_67 : Dc method_2_code 67 (.bipush 120) 2 69 := ⟨by decide +kernel, rfl⟩
theorem d1_69 : Dc method_2_code 69 (.castore) 1 70 := ⟨by decide +kernel, rfl⟩
theorem d1_70 : Dc method_2_code 70 (.dup) 1 71 := ⟨by decide +kernel, rfl⟩
theorem d1_71 : Dc method_2_code 71 (.bipush 12) 2 73 := ⟨by decide +kernel, rfl⟩
theorem d1_73 : Dc method_2_code 73 (.bipush 109) 2 75 := ⟨by decide +kernel, rfl⟩
theorem d1_75 : Dc method_2_code 75 (.castore) 1 76 := ⟨by decide +kernel, rfl⟩
theorem d1_76 : Dc method_2_code 76 (.dup) 1 77 := ⟨by decide +kernel, rfl⟩
theorem d1_77 : Dc method_2_code 77 (.bipush 13) 2 79 := ⟨by decide +kernel, rfl⟩
theorem d1_79 : Dc method_2_code 79 (.bipush 112) 2 81 := ⟨by decide +kernel, rfl⟩
theorem d1_81 : Dc method_2_code 81 (.castore) 1 82 := ⟨by decide +kernel, rfl⟩
theorem d1_82 : Dc method_2_code 82 (.dup) 1 83 := ⟨by decide +kernel, rfl⟩
theorem d1_83 : Dc method_2_code 83 (.bipush 14) 2 85 := ⟨by decide +kernel, rfl⟩
theorem d1_85 : Dc method_2_code 85 (.bipush 112) 2 87 := ⟨by decide +kernel, rfl⟩
theorem d1_87 : Dc method_2_code 87 (.castore) 1 88 := ⟨by decide +kernel, rfl⟩
theorem d1_88 : Dc method_2_code 88 (.dup) 1 89 := ⟨by decide +kernel, rfl⟩
theorem d1_89 : Dc method_2_code 89 (.bipush 15) 2 91 := ⟨by decide +kernel, rfl⟩
theorem d1_91 : Dc method_2_code 91 (.bipush 46) 2 93 := ⟨by decide +kernel, rfl⟩
theorem d1_93 : Dc method_2_code 93 (.castore) 1 94 := ⟨by decide +kernel, rfl⟩
theorem d1_94 : Dc method_2_code 94 (.dup) 1 95 := ⟨by decide +kernel, rfl⟩
theorem d1_95 : Dc method_2_code 95 (.bipush 16) 2 97 := ⟨by decide +kernel, rfl⟩
theorem d1_97 : Dc method_2_code 97 (.bipush 111) 2 99 := ⟨by decide +kernel, rfl⟩
theorem d1_99 : Dc method_2_code 99 (.castore) 1 100 := ⟨by decide +kernel, rfl⟩
theorem d1_100 : Dc method_2_code 100 (.dup) 1 101 := ⟨by decide +kernel, rfl⟩
theorem d1_101 : Dc method_2_code 101 (.bipush 17) 2 103 := ⟨by decide +kernel, rfl⟩
theorem d1_103 : Dc method_2_code 103 (.bipush 114) 2 105 := ⟨by decide +kernel, rfl⟩
theorem d1_105 : Dc method_2_code 105 (.castore) 1 106 := ⟨by decide +kernel, rfl⟩
theorem d1_106 : Dc method_2_code 106 (.dup) 1 107 := ⟨by decide +kernel, rfl⟩
theorem d1_107 : Dc method_2_code 107 (.bipush 18) 2 109 := ⟨by decide +kernel, rfl⟩
theorem d1_109 : Dc method_2_code 109 (.bipush 103) 2 111 := ⟨by decide +kernel, rfl⟩
theorem d1_111 : Dc method_2_code 111 (.castore) 1 112 := ⟨by decide +kernel, rfl⟩
theorem d1_112 : Dc method_2_code 112 (.dup) 1 113 := ⟨by decide +kernel, rfl⟩
theorem d1_113 : Dc method_2_code 113 (.bipush 19) 2 115 := ⟨by decide +kernel, rfl⟩
theorem d1_115 : Dc method_2_code 115 (.bipush 47) 2 117 := ⟨by decide +kernel, rfl⟩
theorem d1_117 : Dc method_2_code 117 (.castore) 1 118 := ⟨by decide +kernel, rfl⟩
theorem d1_118 : Dc method_2_code 118 (.dup) 1 119 := ⟨by decide +kernel, rfl⟩
theorem d1_119 : Dc method_2_code 119 (.bipush 20) 2 121 := ⟨by decide +kernel, rfl⟩
theorem d1_121 : Dc method_2_code 121 (.bipush 101) 2 123 := ⟨by decide +kernel, rfl⟩
theorem d1_123 : Dc method_2_code 123 (.castore) 1 124 := ⟨by decide +kernel, rfl⟩
theorem d1_124 : Dc method_2_code 124 (.dup) 1 125 := ⟨by decide +kernel, rfl⟩
theorem d1_125 : Dc method_2_code 125 (.bipush 21) 2 127 := ⟨by decide +kernel, rfl⟩
theorem d1_127 : Dc method_2_code 127 (.bipush 120) 2 129 := ⟨by decide +kernel, rfl⟩
theorem d1_129 : Dc method_2_code 129 (.castore) 1 130 := ⟨by decide +kernel, rfl⟩
theorem d1_130 : Dc method_2_code 130 (.dup) 1 131 := ⟨by decide +kernel, rfl⟩
theorem d1_131 : Dc method_2_code 131 (.bipush 22) 2 133 := ⟨by decide +kernel, rfl⟩
theorem d1_133 : Dc method_2_code 133 (.bipush 116) 2 135 := ⟨by decide +kernel, rfl⟩
theorem d1_135 : Dc method_2_code 135 (.castore) 1 136 := ⟨by decide +kernel, rfl⟩
theorem d1_136 : Dc method_2_code 136 (.dup) 1 137 := ⟨by decide +kernel, rfl⟩
theorem d1_137 : Dc method_2_code 137 (.bipush 23) 2 139 := ⟨by decide +kernel, rfl⟩
theorem d1_139 : Dc method_2_code 139 (.bipush 101) 2 141 := ⟨by decide +kernel, rfl⟩
theorem d1_141 : Dc method_2_code 141 (.castore) 1 142 := ⟨by decide +kernel, rfl⟩
theorem d1_142 : Dc method_2_code 142 (.dup) 1 143 := ⟨by decide +kernel, rfl⟩
theorem d1_143 : Dc method_2_code 143 (.bipush 24) 2 145 := ⟨by decide +kernel, rfl⟩
theorem d1_145 : Dc method_2_code 145 (.bipush 110) 2 147 := ⟨by decide +kernel, rfl⟩
theorem d1_147 : Dc method_2_code 147 (.castore) 1 148 := ⟨by decide +kernel, rfl⟩
theorem d1_148 : Dc method_2_code 148 (.dup) 1 149 := ⟨by decide +kernel, rfl⟩
theorem d1_149 : Dc method_2_code 149 (.bipush 25) 2 151 := ⟨by decide +kernel, rfl⟩
theorem d1_151 : Dc method_2_code 151 (.bipush 115) 2 153 := ⟨by decide +kernel, rfl⟩
theorem d1_153 : Dc method_2_code 153 (.castore) 1 154 := ⟨by decide +kernel, rfl⟩
theorem d1_154 : Dc method_2_code 154 (.dup) 1 155 := ⟨by decide +kernel, rfl⟩
theorem d1_155 : Dc method_2_code 155 (.bipush 26) 2 157 := ⟨by decide +kernel, rfl⟩
theorem d1_157 : Dc method_2_code 157 (.bipush 105) 2 159 := ⟨by decide +kernel, rfl⟩
theorem d1_159 : Dc method_2_code 159 (.castore) 1 160 := ⟨by decide +kernel, rfl⟩
theorem d1_160 : Dc method_2_code 160 (.dup) 1 161 := ⟨by decide +kernel, rfl⟩
theorem d1_161 : Dc method_2_code 161 (.bipush 27) 2 163 := ⟨by decide +kernel, rfl⟩
theorem d1_163 : Dc method_2_code 163 (.bipush 111) 2 165 := ⟨by decide +kernel, rfl⟩
theorem d1_165 : Dc method_2_code 165 (.castore) 1 166 := ⟨by decide +kernel, rfl⟩
theorem d1_166 : Dc method_2_code 166 (.dup) 1 167 := ⟨by decide +kernel, rfl⟩
theorem d1_167 : Dc method_2_code 167 (.bipush 28) 2 169 := ⟨by decide +kernel, rfl⟩
theorem d1_169 : Dc method_2_code 169 (.bipush 110) 2 171 := ⟨by decide +kernel, rfl⟩
theorem d1_171 : Dc method_2_code 171 (.castore) 1 172 := ⟨by decide +kernel, rfl⟩
theorem d1_172 : Dc method_2_code 172 (.dup) 1 173 := ⟨by decide +kernel, rfl⟩
theorem d1_173 : Dc method_2_code 173 (.bipush 29) 2 175 := ⟨by decide +kernel, rfl⟩
theorem d1_175 : Dc method_2_code 175 (.bipush 115) 2 177 := ⟨by decide +kernel, rfl⟩
theorem d1_177 : Dc method_2_code 177 (.castore) 1 178 := ⟨by decide +kernel, rfl⟩
theorem d1_178 : Dc method_2_code 178 (.dup) 1 179 := ⟨by decide +kernel, rfl⟩
theorem d1_179 : Dc method_2_code 179 (.bipush 30) 2 181 := ⟨by decide +kernel, rfl⟩
theorem d1_181 : Dc method_2_code 181 (.bipush 47) 2 183 := ⟨by decide +kernel, rfl⟩
theorem d1_183 : Dc method_2_code 183 (.castore) 1 184 := ⟨by decide +kernel, rfl⟩
theorem d1_184 : Dc method_2_code 184 (.dup) 1 185 := ⟨by decide +kernel, rfl⟩
theorem d1_185 : Dc method_2_code 185 (.bipush 31) 2 187 := ⟨by decide +kernel, rfl⟩
theorem d1_187 : Dc method_2_code 187 (.bipush 120) 2 189 := ⟨by decide +kernel, rfl⟩
theorem d1_189 : Dc method_2_code 189 (.castore) 1 190 := ⟨by decide +kernel, rfl⟩
theorem d1_190 : Dc method_2_code 190 (.dup) 1 191 := ⟨by decide +kernel, rfl⟩
theorem d1_191 : Dc method_2_code 191 (.bipush 32) 2 193 := ⟨by decide +kernel, rfl⟩
theorem d1_193 : Dc method_2_code 193 (.bipush 101) 2 195 := ⟨by decide +kernel, rfl⟩
theorem d1_195 : Dc method_2_code 195 (.castore) 1 196 := ⟨by decide +kernel, rfl⟩
theorem d1_196 : Dc method_2_code 196 (.dup) 1 197 := ⟨by decide +kernel, rfl⟩
theorem d1_197 : Dc method_2_code 197 (.bipush 33) 2 199 := ⟨by decide +kernel, rfl⟩
theorem d1_199 : Dc method_2_code 199 (.bipush 112) 2 201 := ⟨by decide +kernel, rfl⟩
theorem d1_201 : Dc method_2_code 201 (.castore) 1 202 := ⟨by decide +kernel, rfl⟩
theorem d1_202 : Dc method_2_code 202 (.dup) 1 203 := ⟨by decide +kernel, rfl⟩
theorem d1_203 : Dc method_2_code 203 (.bipush 34) 2 205 := ⟨by decide +kernel, rfl⟩
theorem d1_205 : Dc method_2_code 205 (.bipush 45) 2 207 := ⟨by decide +kernel, rfl⟩
theorem d1_207 : Dc method_2_code 207 (.castore) 1 208 := ⟨by decide +kernel, rfl⟩
theorem d1_208 : Dc method_2_code 208 (.dup) 1 209 := ⟨by decide +kernel, rfl⟩
theorem d1_209 : Dc method_2_code 209 (.bipush 35) 2 211 := ⟨by decide +kernel, rfl⟩
theorem d1_211 : Dc method_2_code 211 (.bipush 48) 2 213 := ⟨by decide +kernel, rfl⟩
theorem d1_213 : Dc method_2_code 213 (.castore) 1 214 := ⟨by decide +kernel, rfl⟩
theorem d1_214 : Dc method_2_code 214 (.dup) 1 215 := ⟨by decide +kernel, rfl⟩
theorem d1_215 : Dc method_2_code 215 (.bipush 36) 2 217 := ⟨by decide +kernel, rfl⟩
theorem d1_217 : Dc method_2_code 217 (.bipush 50) 2 219 := ⟨by decide +kernel, rfl⟩
theorem d1_219 : Dc method_2_code 219 (.castore) 1 220 := ⟨by decide +kernel, rfl⟩
theorem d1_220 : Dc method_2_code 220 (.dup) 1 221 := ⟨by decide +kernel, rfl⟩
theorem d1_221 : Dc method_2_code 221 (.bipush 37) 2 223 := ⟨by decide +kernel, rfl⟩
theorem d1_223 : Dc method_2_code 223 (.bipush 50) 2 225 := ⟨by decide +kernel, rfl⟩
theorem d1_225 : Dc method_2_code 225 (.castore) 1 226 := ⟨by decide +kernel, rfl⟩
theorem d1_226 : Dc method_2_code 226 (.dup) 1 227 := ⟨by decide +kernel, rfl⟩
theorem d1_227 : Dc method_2_code 227 (.bipush 38) 2 229 := ⟨by decide +kernel, rfl⟩
theorem d1_229 : Dc method_2_code 229 (.bipush 55) 2 231 := ⟨by decide +kernel, rfl⟩
theorem d1_231 : Dc method_2_code 231 (.castore) 1 232 := ⟨by decide +kernel, rfl⟩
theorem d1_232 : Dc method_2_code 232 (.dup) 1 233 := ⟨by decide +kernel, rfl⟩
theorem d1_233 : Dc method_2_code 233 (.bipush 39) 2 235 := ⟨by decide +kernel, rfl⟩
theorem d1_235 : Dc method_2_code 235 (.bipush 46) 2 237 := ⟨by decide +kernel, rfl⟩
theorem d1_237 : Dc method_2_code 237 (.castore) 1 238 := ⟨by decide +kernel, rfl⟩
theorem d1_238 : Dc method_2_code 238 (.dup) 1 239 := ⟨by decide +kernel, rfl⟩
theorem d1_239 : Dc method_2_code 239 (.bipush 40) 2 241 := ⟨by decide +kernel, rfl⟩
theorem d1_241 : Dc method_2_code 241 (.bipush 104) 2 243 := ⟨by decide +kernel, rfl⟩
theorem d1_243 : Dc method_2_code 243 (.castore) 1 244 := ⟨by decide +kernel, rfl⟩
theorem d1_244 : Dc method_2_code 244 (.dup) 1 245 := ⟨by decide +kernel, rfl⟩
theorem d1_245 : Dc method_2_code 245 (.bipush 41) 2 247 := ⟨by decide +kernel, rfl⟩
theorem d1_247 : Dc method_2_code 247 (.bipush 116) 2 249 := ⟨by decide +kernel, rfl⟩
theorem d1_249 : Dc method_2_code 249 (.castore) 1 250 := ⟨by decide +kernel, rfl⟩
theorem d1_250 : Dc method_2_code 250 (.dup) 1 251 := ⟨by decide +kernel, rfl⟩
theorem d1_251 : Dc method_2_code 251 (.bipush 42) 2 253 := ⟨by decide +kernel, rfl⟩
theorem d1_253 : Dc method_2_code 253 (.bipush 109) 2 255 := ⟨by decide +kernel, rfl⟩
theorem d1_255 : Dc method_2_code 255 (.castore) 1 256 := ⟨by decide +kernel, rfl⟩
theorem d1_256 : Dc method_2_code 256 (.dup) 1 257 := ⟨by decide +kernel, rfl⟩
theorem d1_257 : Dc method_2_code 257 (.bipush 43) 2 259 := ⟨by decide +kernel, rfl⟩
theorem d1_259 : Dc method_2_code 259 (.bipush 108) 2 261 := ⟨by decide +kernel, rfl⟩
theorem d1_261 : Dc method_2_code 261 (.castore) 1 262 := ⟨by decide +kernel, rfl⟩
theorem d1_262 : Dc method_2_code 262 (.dup) 1 263 := ⟨by decide +kernel, rfl⟩
theorem d1_263 : Dc method_2_code 263 (.bipush 44) 2 265 := ⟨by decide +kernel, rfl⟩
theorem d1_265 : Dc method_2_code 265 (.bipush 35) 2 267 := ⟨by decide +kernel, rfl⟩
theorem d1_267 : Dc method_2_code 267 (.castore) 1 268 := ⟨by decide +kernel, rfl⟩
theorem d1_268 : Dc method_2_code 268 (.dup) 1 269 := ⟨by decide +kernel, rfl⟩
theorem d1_269 : Dc method_2_code 269 (.bipush 45) 2 271 := ⟨by decide +kernel, rfl⟩
theorem d1_271 : Dc method_2_code 271 (.bipush 110) 2 273 := ⟨by decide +kernel, rfl⟩
theorem d1_273 : Dc method_2_code 273 (.castore) 1 274 := ⟨by decide +kernel, rfl⟩
theorem d1_274 : Dc method_2_code 274 (.dup) 1 275 := ⟨by decide +kernel, rfl⟩
theorem d1_275 : Dc method_2_code 275 (.bipush 46) 2 277 := ⟨by decide +kernel, rfl⟩
theorem d1_277 : Dc method_2_code 277 (.bipush 115) 2 279 := ⟨by decide +kernel, rfl⟩
theorem d1_279 : Dc method_2_code 279 (.castore) 1 280 := ⟨by decide +kernel, rfl⟩
theorem d1_280 : Dc method_2_code 280 (.areturn) 1 281 := ⟨by decide +kernel, rfl⟩
theorem d17_0 : Dc method_3_code 0 (.bipush 48) 2 2 := ⟨by decide +kernel, rfl⟩
theorem d17_2 : Dc method_3_code 2 (.newarray .char) 2 4 := ⟨by decide +kernel, rfl⟩
theorem d17_4 : Dc method_3_code 4 (.dup) 1 5 := ⟨by decide +kernel, rfl⟩
theorem d17_5 : Dc method_3_code 5 (.iconst 0) 1 6 := ⟨by decide +kernel, rfl⟩
theorem d17_6 : Dc method_3_code 6 (.bipush 104) 2 8 := ⟨by decide +kernel, rfl⟩
theorem d17_8 : Dc method_3_code 8 (.castore) 1 9 := ⟨by decide +kernel, rfl⟩
theorem d17_9 : Dc method_3_code 9 (.dup) 1 10 := ⟨by decide +kernel, rfl⟩
theorem d17_10 : Dc method_3_code 10 (.iconst 1) 1 11 := ⟨by decide +kernel, rfl⟩
theorem d17_11 : Dc method_3_code 11 (.bipush 116) 2 13 := ⟨by decide +kernel, rfl⟩
theorem d17_13 : Dc method_3_code 13 (.castore) 1 14 := ⟨by decide +kernel, rfl⟩
theorem d17_14 : Dc method_3_code 14 (.dup) 1 15 := ⟨by decide +kernel, rfl⟩
theorem d17_15 : Dc method_3_code 15 (.iconst 2) 1 16 := ⟨by decide +kernel, rfl⟩
theorem d17_16 : Dc method_3_code 16 (.bipush 116) 2 18 := ⟨by decide +kernel, rfl⟩
theorem d17_18 : Dc method_3_code 18 (.castore) 1 19 := ⟨by decide +kernel, rfl⟩
theorem d17_19 : Dc method_3_code 19 (.dup) 1 20 := ⟨by decide +kernel, rfl⟩
theorem d17_20 : Dc method_3_code 20 (.iconst 3) 1 21 := ⟨by decide +kernel, rfl⟩
theorem d17_21 : Dc method_3_code 21 (.bipush 112) 2 23 := ⟨by decide +kernel, rfl⟩
theorem d17_23 : Dc method_3_code 23 (.castore) 1 24 := ⟨by decide +kernel, rfl⟩
theorem d17_24 : Dc method_3_code 24 (.dup) 1 25 := ⟨by decide +kernel, rfl⟩
theorem d17_25 : Dc method_3_code 25 (.iconst 4) 1 26 := ⟨by decide +kernel, rfl⟩
theorem d17_26 : Dc method_3_code 26 (.bipush 58) 2 28 := ⟨by decide +kernel, rfl⟩
theorem d17_28 : Dc method_3_code 28 (.castore) 1 29 := ⟨by decide +kernel, rfl⟩
theorem d17_29 : Dc method_3_code 29 (.dup) 1 30 := ⟨by decide +kernel, rfl⟩
theorem d17_30 : Dc method_3_code 30 (.iconst 5) 1 31 := ⟨by decide +kernel, rfl⟩
theorem d17_31 : Dc method_3_code 31 (.bipush 47) 2 33 := ⟨by decide +kernel, rfl⟩
theorem d17_33 : Dc method_3_code 33 (.castore) 1 34 := ⟨by decide +kernel, rfl⟩
theorem d17_34 : Dc method_3_code 34 (.dup) 1 35 := ⟨by decide +kernel, rfl⟩
theorem d17_35 : Dc method_3_code 35 (.bipush 6) 2 37 := ⟨by decide +kernel, rfl⟩
theorem d17_37 : Dc method_3_code 37 (.bipush 47) 2 39 := ⟨by decide +kernel, rfl⟩
theorem d17_39 : Dc method_3_code 39 (.castore) 1 40 := ⟨by decide +kernel, rfl⟩
theorem d17_40 : Dc method_3_code 40 (.dup) 1 41 := ⟨by decide +kernel, rfl⟩
theorem d17_41 : Dc method_3_code 41 (.bipush 7) 2 43 := ⟨by decide +kernel, rfl⟩
theorem d17_43 : Dc method_3_code 43 (.bipush 119) 2 45 := ⟨by decide +kernel, rfl⟩
theorem d17_45 : Dc method_3_code 45 (.castore) 1 46 := ⟨by decide +kernel, rfl⟩
theorem d17_46 : Dc method_3_code 46 (.dup) 1 47 := ⟨by decide +kernel, rfl⟩
theorem d17_47 : Dc method_3_code 47 (.bipush 8) 2 49 := ⟨by decide +kernel, rfl⟩
theorem d17_49 : Dc method_3_code 49 (.bipush 119) 2 51 := ⟨by decide +kernel, rfl⟩
theorem d17_51 : Dc method_3_code 51 (.castore) 1 52 := ⟨by decide +kernel, rfl⟩
theorem d17_52 : Dc method_3_code 52 (.dup) 1 53 := ⟨by decide +kernel, rfl⟩
theorem d17_53 : Dc method_3_code 53 (.bipush 9) 2 55 := ⟨by decide +kernel, rfl⟩
theorem d17_55 : Dc method_3_code 55 (.bipush 119) 2 57 := ⟨by decide +kernel, rfl⟩
theorem d17_57 : Dc method_3_code 57 (.castore) 1 58 := ⟨by decide +kernel, rfl⟩
theorem d17_58 : Dc method_3_code 58 (.dup) 1 59 := ⟨by decide +kernel, rfl⟩
theorem d17_59 : Dc method_3_code 59 (.bipush 10) 2 61 := ⟨by decide +kernel, rfl⟩
theorem d17_61 : Dc method_3_code 61 (.bipush 46) 2 63 := ⟨by decide +kernel, rfl⟩
theorem d17_63 : Dc method_3_code 63 (.castore) 1 64 := ⟨by decide +kernel, rfl⟩
theorem d17_64 : Dc method_3_code 64 (.dup) 1 65 := ⟨by decide +kernel, rfl⟩
theorem d17_65 : Dc method_3_code 65 (.bipush 11) 2 67 := ⟨by decide +kernel, rfl⟩
theorem d17_67 : Dc method_3_code 67 (.bipush 120) 2 69 := ⟨by decide +kernel, rfl⟩
theorem d17_69 : Dc method_3_code 69 (.castore) 1 70 := ⟨by decide +kernel, rfl⟩
theorem d17_70 : Dc method_3_code 70 (.dup) 1 71 := ⟨by decide +kernel, rfl⟩
theorem d17_71 : Dc method_3_code 71 (.bipush 12) 2 73 := ⟨by decide +kernel, rfl⟩
theorem d17_73 : Dc method_3_code 73 (.bipush 109) 2 75 := ⟨by decide +kernel, rfl⟩
theorem d17_75 : Dc method_3_code 75 (.castore) 1 76 := ⟨by decide +kernel, rfl⟩
theorem d17_76 : Dc method_3_code 76 (.dup) 1 77 := ⟨by decide +kernel, rfl⟩
theorem d17_77 : Dc method_3_code 77 (.bipush 13) 2 79 := ⟨by decide +kernel, rfl⟩
theorem d17_79 : Dc method_3_code 79 (.bipush 112) 2 81 := ⟨by decide +kernel, rfl⟩
theorem d17_81 : Dc method_3_code 81 (.castore) 1 82 := ⟨by decide +kernel, rfl⟩
theorem d17_82 : Dc method_3_code 82 (.dup) 1 83 := ⟨by decide +kernel, rfl⟩
theorem d17_83 : Dc method_3_code 83 (.bipush 14) 2 85 := ⟨by decide +kernel, rfl⟩
theorem d17_85 : Dc method_3_code 85 (.bipush 112) 2 87 := ⟨by decide +kernel, rfl⟩
theorem d17_87 : Dc method_3_code 87 (.castore) 1 88 := ⟨by decide +kernel, rfl⟩
theorem d17_88 : Dc method_3_code 88 (.dup) 1 89 := ⟨by decide +kernel, rfl⟩
theorem d17_89 : Dc method_3_code 89 (.bipush 15) 2 91 := ⟨by decide +kernel, rfl⟩
theorem d17_91 : Dc method_3_code 91 (.bipush 46) 2 93 := ⟨by decide +kernel, rfl⟩
theorem d17_93 : Dc method_3_code 93 (.castore) 1 94 := ⟨by decide +kernel, rfl⟩
theorem d17_94 : Dc method_3_code 94 (.dup) 1 95 := ⟨by decide +kernel, rfl⟩
theorem d17_95 : Dc method_3_code 95 (.bipush 16) 2 97 := ⟨by decide +kernel, rfl⟩
theorem d17_97 : Dc method_3_code 97 (.bipush 111) 2 99 := ⟨by decide +kernel, rfl⟩
theorem d17_99 : Dc method_3_code 99 (.castore) 1 100 := ⟨by decide +kernel, rfl⟩
theorem d17_100 : Dc method_3_code 100 (.dup) 1 101 := ⟨by decide +kernel, rfl⟩
theorem d17_101 : Dc method_3_code 101 (.bipush 17) 2 103 := ⟨by decide +kernel, rfl⟩
theorem d17_103 : Dc method_3_code 103 (.bipush 114) 2 105 := ⟨by decide +kernel, rfl⟩
theorem d17_105 : Dc method_3_code 105 (.castore) 1 106 := ⟨by decide +kernel, rfl⟩
theorem d17_106 : Dc method_3_code 106 (.dup) 1 107 := ⟨by decide +kernel, rfl⟩
theorem d17_107 : Dc method_3_code 107 (.bipush 18) 2 109 := ⟨by decide +kernel, rfl⟩
theorem d17_109 : Dc method_3_code 109 (.bipush 103) 2 111 := ⟨by decide +kernel, rfl⟩
theorem d17_111 : Dc method_3_code 111 (.castore) 1 112 := ⟨by decide +kernel, rfl⟩
theorem d17_112 : Dc method_3_code 112 (.dup) 1 113 := ⟨by decide +kernel, rfl⟩
theorem d17_113 : Dc method_3_code 113 (.bipush 19) 2 115 := ⟨by decide +kernel, rfl⟩
theorem d17_115 : Dc method_3_code 115 (.bipush 47) 2 117 := ⟨by decide +kernel, rfl⟩
theorem d17_117 : Dc method_3_code 117 (.castore) 1 118 := ⟨by decide +kernel, rfl⟩
theorem d17_118 : Dc method_3_code 118 (.dup) 1 119 := ⟨by decide +kernel, rfl⟩
theorem d17_119 : Dc method_3_code 119 (.bipush 20) 2 121 := ⟨by decide +kernel, rfl⟩
theorem d17_121 : Dc method_3_code 121 (.bipush 101) 2 123 := ⟨by decide +kernel, rfl⟩
theorem d17_123 : Dc method_3_code 123 (.castore) 1 124 := ⟨by decide +kernel, rfl⟩
theorem d17_124 : Dc method_3_code 124 (.dup) 1 125 := ⟨by decide +kernel, rfl⟩
theorem d17_125 : Dc method_3_code 125 (.bipush 21) 2 127 := ⟨by decide +kernel, rfl⟩
theorem d17_127 : Dc method_3_code 127 (.bipush 120) 2 129 := ⟨by decide +kernel, rfl⟩
theorem d17_129 : Dc method_3_code 129 (.castore) 1 130 := ⟨by decide +kernel, rfl⟩
theorem d17_130 : Dc method_3_code 130 (.dup) 1 131 := ⟨by decide +kernel, rfl⟩
theorem d17_131 : Dc method_3_code 131 (.bipush 22) 2 133 := ⟨by decide +kernel, rfl⟩
theorem d17_133 : Dc method_3_code 133 (.bipush 116) 2 135 := ⟨by decide +kernel, rfl⟩
theorem d17_135 : Dc method_3_code 135 (.castore) 1 136 := ⟨by decide +kernel, rfl⟩
theorem d17_136 : Dc method_3_code 136 (.dup) 1 137 := ⟨by decide +kernel, rfl⟩
theorem d17_137 : Dc method_3_code 137 (.bipush 23) 2 139 := ⟨by decide +kernel, rfl⟩
theorem d17_139 : Dc method_3_code 139 (.bipush 101) 2 141 := ⟨by decide +kernel, rfl⟩
theorem d17_141 : Dc method_3_code 141 (.castore) 1 142 := ⟨by decide +kernel, rfl⟩
theorem d17_142 : Dc method_3_code 142 (.dup) 1 143 := ⟨by decide +kernel, rfl⟩
theorem d17_143 : Dc method_3_code 143 (.bipush 24) 2 145 := ⟨by decide +kernel, rfl⟩
theorem d17_145 : Dc method_3_code 145 (.bipush 110) 2 147 := ⟨by decide +kernel, rfl⟩
theorem d17_147 : Dc method_3_code 147 (.castore) 1 148 := ⟨by decide +kernel, rfl⟩
theorem d17_148 : Dc method_3_code 148 (.dup) 1 149 := ⟨by decide +kernel, rfl⟩
theorem d17_149 : Dc method_3_code 149 (.bipush 25) 2 151 := ⟨by decide +kernel, rfl⟩
theorem d17_151 : Dc method_3_code 151 (.bipush 115) 2 153 := ⟨by decide +kernel, rfl⟩
theorem d17_153 : Dc method_3_code 153 (.castore) 1 154 := ⟨by decide +kernel, rfl⟩
theorem d17_154 : Dc method_3_code 154 (.dup) 1 155 := ⟨by decide +kernel, rfl⟩
theorem d17_155 : Dc method_3_code 155 (.bipush 26) 2 157 := ⟨by decide +kernel, rfl⟩
theorem d17_157 : Dc method_3_code 157 (.bipush 105) 2 159 := ⟨by decide +kernel, rfl⟩
theorem d17_159 : Dc method_3_code 159 (.castore) 1 160 := ⟨by decide +kernel, rfl⟩
theorem d17_160 : Dc method_3_code 160 (.dup) 1 161 := ⟨by decide +kernel, rfl⟩
theorem d17_161 : Dc method_3_code 161 (.bipush 27) 2 163 := ⟨by decide +kernel, rfl⟩
theorem d17_163 : Dc method_3_code 163 (.bipush 111) 2 165 := ⟨by decide +kernel, rfl⟩
theorem d17_165 : Dc method_3_code 165 (.castore) 1 166 := ⟨by decide +kernel, rfl⟩
theorem d17_166 : Dc method_3_code 166 (.dup) 1 167 := ⟨by decide +kernel, rfl⟩
theorem d17_167 : Dc method_3_code 167 (.bipush 28) 2 169 := ⟨by decide +kernel, rfl⟩
theorem d17_169 : Dc method_3_code 169 (.bipush 110) 2 171 := ⟨by decide +kernel, rfl⟩
theorem d17_171 : Dc method_3_code 171 (.castore) 1 172 := ⟨by decide +kernel, rfl⟩
theorem d17_172 : Dc method_3_code 172 (.dup) 1 173 := ⟨by decide +kernel, rfl⟩
theorem d17_173 : Dc method_3_code 173 (.bipush 29) 2 175 := ⟨by decide +kernel, rfl⟩
theorem d17_175 : Dc method_3_code 175 (.bipush 115) 2 177 := ⟨by decide +kernel, rfl⟩
theorem d17_177 : Dc method_3_code 177 (.castore) 1 178 := ⟨by decide +kernel, rfl⟩
theorem d17_178 : Dc method_3_code 178 (.dup) 1 179 := ⟨by decide +kernel, rfl⟩
theorem d17_179 : Dc method_3_code 179 (.bipush 30) 2 181 := ⟨by decide +kernel, rfl⟩
theorem d17_181 : Dc method_3_code 181 (.bipush 47) 2 183 := ⟨by decide +kernel, rfl⟩
theorem d17_183 : Dc method_3_code 183 (.castore) 1 184 := ⟨by decide +kernel, rfl⟩
theorem d17_184 : Dc method_3_code 184 (.dup) 1 185 := ⟨by decide +kernel, rfl⟩
theorem d17_185 : Dc method_3_code 185 (.bipush 31) 2 187 := ⟨by decide +kernel, rfl⟩
theorem d17_187 : Dc method_3_code 187 (.bipush 120) 2 189 := ⟨by decide +kernel, rfl⟩
theorem d17_189 : Dc method_3_code 189 (.castore) 1 190 := ⟨by decide +kernel, rfl⟩
theorem d17_190 : Dc method_3_code 190 (.dup) 1 191 := ⟨by decide +kernel, rfl⟩
theorem d17_191 : Dc method_3_code 191 (.bipush 32) 2 193 := ⟨by decide +kernel, rfl⟩
theorem d17_193 : Dc method_3_code 193 (.bipush 101) 2 195 := ⟨by decide +kernel, rfl⟩
theorem d17_195 : Dc method_3_code 195 (.castore) 1 196 := ⟨by decide +kernel, rfl⟩
theorem d17_196 : Dc method_3_code 196 (.dup) 1 197 := ⟨by decide +kernel, rfl⟩
theorem d17_197 : Dc method_3_code 197 (.bipush 33) 2 199 := ⟨by decide +kernel, rfl⟩
theorem d17_199 : Dc method_3_code 199 (.bipush 112) 2 201 := ⟨by decide +kernel, rfl⟩
theorem d17_201 : Dc method_3_code 201 (.castore) 1 202 := ⟨by decide +kernel, rfl⟩
theorem d17_202 : Dc method_3_code 202 (.dup) 1 203 := ⟨by decide +kernel, rfl⟩
theorem d17_203 : Dc method_3_code 203 (.bipush 34) 2 205 := ⟨by decide +kernel, rfl⟩
theorem d17_205 : Dc method_3_code 205 (.bipush 45) 2 207 := ⟨by decide +kernel, rfl⟩
theorem d17_207 : Dc method_3_code 207 (.castore) 1 208 := ⟨by decide +kernel, rfl⟩
theorem d17_208 : Dc method_3_code 208 (.dup) 1 209 := ⟨by decide +kernel, rfl⟩
theorem d17_209 : Dc method_3_code 209 (.bipush 35) 2 211 := ⟨by decide +kernel, rfl⟩
theorem d17_211 : Dc method_3_code 211 (.bipush 48) 2 213 := ⟨by decide +kernel, rfl⟩
theorem d17_213 : Dc method_3_code 213 (.castore) 1 214 := ⟨by decide +kernel, rfl⟩
theorem d17_214 : Dc method_3_code 214 (.dup) 1 215 := ⟨by decide +kernel, rfl⟩
theorem d17_215 : Dc method_3_code 215 (.bipush 36) 2 217 := ⟨by decide +kernel, rfl⟩
theorem d17_217 : Dc method_3_code 217 (.bipush 50) 2 219 := ⟨by decide +kernel, rfl⟩
theorem d17_219 : Dc method_3_code 219 (.castore) 1 220 := ⟨by decide +kernel, rfl⟩
theorem d17_220 : Dc method_3_code 220 (.dup) 1 221 := ⟨by decide +kernel, rfl⟩
theorem d17_221 : Dc method_3_code 221 (.bipush 37) 2 223 := ⟨by decide +kernel, rfl⟩
theorem d17_223 : Dc method_3_code 223 (.bipush 50) 2 225 := ⟨by decide +kernel, rfl⟩
theorem d17_225 : Dc method_3_code 225 (.castore) 1 226 := ⟨by decide +kernel, rfl⟩
theorem d17_226 : Dc method_3_code 226 (.dup) 1 227 := ⟨by decide +kernel, rfl⟩
theorem d17_227 : Dc method_3_code 227 (.bipush 38) 2 229 := ⟨by decide +kernel, rfl⟩
theorem d17_229 : Dc method_3_code 229 (.bipush 55) 2 231 := ⟨by decide +kernel, rfl⟩
theorem d17_231 : Dc method_3_code 231 (.castore) 1 232 := ⟨by decide +kernel, rfl⟩
theorem d17_232 : Dc method_3_code 232 (.dup) 1 233 := ⟨by decide +kernel, rfl⟩
theorem d17_233 : Dc method_3_code 233 (.bipush 39) 2 235 := ⟨by decide +kernel, rfl⟩
theorem d17_235 : Dc method_3_code 235 (.bipush 46) 2 237 := ⟨by decide +kernel, rfl⟩
theorem d17_237 : Dc method_3_code 237 (.castore) 1 238 := ⟨by decide +kernel, rfl⟩
theorem d17_238 : Dc method_3_code 238 (.dup) 1 239 := ⟨by decide +kernel, rfl⟩
theorem d17_239 : Dc method_3_code 239 (.bipush 40) 2 241 := ⟨by decide +kernel, rfl⟩
theorem d17_241 : Dc method_3_code 241 (.bipush 104) 2 243 := ⟨by decide +kernel, rfl⟩
theorem d17_243 : Dc method_3_code 243 (.castore) 1 244 := ⟨by decide +kernel, rfl⟩
theorem d17_244 : Dc method_3_code 244 (.dup) 1 245 := ⟨by decide +kernel, rfl⟩
theorem d17_245 : Dc method_3_code 245 (.bipush 41) 2 247 := ⟨by decide +kernel, rfl⟩
theorem d17_247 : Dc method_3_code 247 (.bipush 116) 2 249 := ⟨by decide +kernel, rfl⟩
theorem d17_249 : Dc method_3_code 249 (.castore) 1 250 := ⟨by decide +kernel, rfl⟩
theorem d17_250 : Dc method_3_code 250 (.dup) 1 251 := ⟨by decide +kernel, rfl⟩
theorem d17_251 : Dc method_3_code 251 (.bipush 42) 2 253 := ⟨by decide +kernel, rfl⟩
theorem d17_253 : Dc method_3_code 253 (.bipush 109) 2 255 := ⟨by decide +kernel, rfl⟩
theorem d17_255 : Dc method_3_code 255 (.castore) 1 256 := ⟨by decide +kernel, rfl⟩
theorem d17_256 : Dc method_3_code 256 (.dup) 1 257 := ⟨by decide +kernel, rfl⟩
theorem d17_257 : Dc method_3_code 257 (.bipush 43) 2 259 := ⟨by decide +kernel, rfl⟩
theorem d17_259 : Dc method_3_code 259 (.bipush 108) 2 261 := ⟨by decide +kernel, rfl⟩
theorem d17_261 : Dc method_3_code 261 (.castore) 1 262 := ⟨by decide +kernel, rfl⟩
theorem d17_262 : Dc method_3_code 262 (.dup) 1 263 := ⟨by decide +kernel, rfl⟩
theorem d17_263 : Dc method_3_code 263 (.bipush 44) 2 265 := ⟨by decide +kernel, rfl⟩
theorem d17_265 : Dc method_3_code 265 (.bipush 35) 2 267 := ⟨by decide +kernel, rfl⟩
theorem d17_267 : Dc method_3_code 267 (.castore) 1 268 := ⟨by decide +kernel, rfl⟩
theorem d17_268 : Dc method_3_code 268 (.dup) 1 269 := ⟨by decide +kernel, rfl⟩
theorem d17_269 : Dc method_3_code 269 (.bipush 45) 2 271 := ⟨by decide +kernel, rfl⟩
theorem d17_271 : Dc method_3_code 271 (.bipush 110) 2 273 := ⟨by decide +kernel, rfl⟩
theorem d17_273 : Dc method_3_code 273 (.castore) 1 274 := ⟨by decide +kernel, rfl⟩
theorem d17_274 : Dc method_3_code 274 (.dup) 1 275 := ⟨by decide +kernel, rfl⟩
theorem d17_275 : Dc method_3_code 275 (.bipush 46) 2 277 := ⟨by decide +kernel, rfl⟩
theorem d17_277 : Dc method_3_code 277 (.bipush 115) 2 279 := ⟨by decide +kernel, rfl⟩
theorem d17_279 : Dc method_3_code 279 (.castore) 1 280 := ⟨by decide +kernel, rfl⟩
theorem d17_280 : Dc method_3_code 280 (.dup) 1 281 := ⟨by decide +kernel, rfl⟩
theorem d17_281 : Dc method_3_code 281 (.bipush 47) 2 283 := ⟨by decide +kernel, rfl⟩
theorem d17_283 : Dc method_3_code 283 (.iload_n 0) 1 284 := ⟨by decide +kernel, rfl⟩
theorem d17_284 : Dc method_3_code 284 (.castore) 1 285 := ⟨by decide +kernel, rfl⟩
theorem d17_285 : Dc method_3_code 285 (.areturn) 1 286 := ⟨by decide +kernel, rfl⟩
theorem d16_0 : Dc method_4_code 0 (.bipush 48) 2 2 := ⟨by decide +kernel, rfl⟩
theorem d16_2 : Dc method_4_code 2 (.newarray .char) 2 4 := ⟨by decide +kernel, rfl⟩
theorem d16_4 : Dc method_4_code 4 (.dup) 1 5 := ⟨by decide +kernel, rfl⟩
theorem d16_5 : Dc method_4_code 5 (.iconst 0) 1 6 := ⟨by decide +kernel, rfl⟩
theorem d16_6 : Dc method_4_code 6 (.iload_n 0) 1 7 := ⟨by decide +kernel, rfl⟩
theorem d16_7 : Dc method_4_code 7 (.castore) 1 8 := ⟨by decide +kernel, rfl⟩
theorem d16_8 : Dc method_4_code 8 (.dup) 1 9 := ⟨by decide +kernel, rfl⟩
theorem d16_9 : Dc method_4_code 9 (.iconst 1) 1 10 := ⟨by decide +kernel, rfl⟩
theorem d16_10 : Dc method_4_code 10 (.bipush 104) 2 12 := ⟨by decide +kernel, rfl⟩
theorem d16_12 : Dc method_4_code 12 (.castore) 1 13 := ⟨by decide +kernel, rfl⟩
theorem d16_13 : Dc method_4_code 13 (.dup) 1 14 := ⟨by decide +kernel, rfl⟩
theorem d16_14 : Dc method_4_code 14 (.iconst 2) 1 15 := ⟨by decide +kernel, rfl⟩
theorem d16_15 : Dc method_4_code 15 (.bipush 116) 2 17 := ⟨by decide +kernel, rfl⟩
theorem d16_17 : Dc method_4_code 17 (.castore) 1 18 := ⟨by decide +kernel, rfl⟩
theorem d16_18 : Dc method_4_code 18 (.dup) 1 19 := ⟨by decide +kernel, rfl⟩
theorem d16_19 : Dc method_4_code 19 (.iconst 3) 1 20 := ⟨by decide +kernel, rfl⟩
theorem d16_20 : Dc method_4_code 20 (.bipush 116) 2 22 := ⟨by decide +kernel, rfl⟩
theorem d16_22 : Dc method_4_code 22 (.castore) 1 23 := ⟨by decide +kernel, rfl⟩
theorem d16_23 : Dc method_4_code 23 (.dup) 1 24 := ⟨by decide +kernel, rfl⟩
theorem d16_24 : Dc method_4_code 24 (.iconst 4) 1 25 := ⟨by decide +kernel, rfl⟩
theorem d16_25 : Dc method_4_code 25 (.bipush 112) 2 27 := ⟨by decide +kernel, rfl⟩
theorem d16_27 : Dc method_4_code 27 (.castore) 1 28 := ⟨by decide +kernel, rfl⟩
theorem d16_28 : Dc method_4_code 28 (.dup) 1 29 := ⟨by decide +kernel, rfl⟩
theorem d16_29 : Dc method_4_code 29 (.iconst 5) 1 30 := ⟨by decide +kernel, rfl⟩
theorem d16_30 : Dc method_4_code 30 (.bipush 58) 2 32 := ⟨by decide +kernel, rfl⟩
theorem d16_32 : Dc method_4_code 32 (.castore) 1 33 := ⟨by decide +kernel, rfl⟩
theorem d16_33 : Dc method_4_code 33 (.dup) 1 34 := ⟨by decide +kernel, rfl⟩
theorem d16_34 : Dc method_4_code 34 (.bipush 6) 2 36 := ⟨by decide +kernel, rfl⟩
theorem d16_36 : Dc method_4_code 36 (.bipush 47) 2 38 := ⟨by decide +kernel, rfl⟩
theorem d16_38 : Dc method_4_code 38 (.castore) 1 39 := ⟨by decide +kernel, rfl⟩
theorem d16_39 : Dc method_4_code 39 (.dup) 1 40 := ⟨by decide +kernel, rfl⟩
theorem d16_40 : Dc method_4_code 40 (.bipush 7) 2 42 := ⟨by decide +kernel, rfl⟩
theorem d16_42 : Dc method_4_code 42 (.bipush 47) 2 44 := ⟨by decide +kernel, rfl⟩
theorem d16_44 : Dc method_4_code 44 (.castore) 1 45 := ⟨by decide +kernel, rfl⟩
theorem d16_45 : Dc method_4_code 45 (.dup) 1 46 := ⟨by decide +kernel, rfl⟩
theorem d16_46 : Dc method_4_code 46 (.bipush 8) 2 48 := ⟨by decide +kernel, rfl⟩
theorem d16_48 : Dc method_4_code 48 (.bipush 119) 2 50 := ⟨by decide +kernel, rfl⟩
theorem d16_50 : Dc method_4_code 50 (.castore) 1 51 := ⟨by decide +kernel, rfl⟩
theorem d16_51 : Dc method_4_code 51 (.dup) 1 52 := ⟨by decide +kernel, rfl⟩
theorem d16_52 : Dc method_4_code 52 (.bipush 9) 2 54 := ⟨by decide +kernel, rfl⟩
theorem d16_54 : Dc method_4_code 54 (.bipush 119) 2 56 := ⟨by decide +kernel, rfl⟩
theorem d16_56 : Dc method_4_code 56 (.castore) 1 57 := ⟨by decide +kernel, rfl⟩
theorem d16_57 : Dc method_4_code 57 (.dup) 1 58 := ⟨by decide +kernel, rfl⟩
theorem d16_58 : Dc method_4_code 58 (.bipush 10) 2 60 := ⟨by decide +kernel, rfl⟩
theorem d16_60 : Dc method_4_code 60 (.bipush 119) 2 62 := ⟨by decide +kernel, rfl⟩
theorem d16_62 : Dc method_4_code 62 (.castore) 1 63 := ⟨by decide +kernel, rfl⟩
theorem d16_63 : Dc method_4_code 63 (.dup) 1 64 := ⟨by decide +kernel, rfl⟩
theorem d16_64 : Dc method_4_code 64 (.bipush 11) 2 66 := ⟨by decide +kernel, rfl⟩
theorem d16_66 : Dc method_4_code 66 (.bipush 46) 2 68 := ⟨by decide +kernel, rfl⟩
theorem d16_68 : Dc method_4_code 68 (.castore) 1 69 := ⟨by decide +kernel, rfl⟩
theorem d16_69 : Dc method_4_code 69 (.dup) 1 70 := ⟨by decide +kernel, rfl⟩
theorem d16_70 : Dc method_4_code 70 (.bipush 12) 2 72 := ⟨by decide +kernel, rfl⟩
theorem d16_72 : Dc method_4_code 72 (.bipush 120) 2 74 := ⟨by decide +kernel, rfl⟩
theorem d16_74 : Dc method_4_code 74 (.castore) 1 75 := ⟨by decide +kernel, rfl⟩
theorem d16_75 : Dc method_4_code 75 (.dup) 1 76 := ⟨by decide +kernel, rfl⟩
theorem d16_76 : Dc method_4_code 76 (.bipush 13) 2 78 := ⟨by decide +kernel, rfl⟩
theorem d16_78 : Dc method_4_code 78 (.bipush 109) 2 80 := ⟨by decide +kernel, rfl⟩
theorem d16_80 : Dc method_4_code 80 (.castore) 1 81 := ⟨by decide +kernel, rfl⟩
theorem d16_81 : Dc method_4_code 81 (.dup) 1 82 := ⟨by decide +kernel, rfl⟩
theorem d16_82 : Dc method_4_code 82 (.bipush 14) 2 84 := ⟨by decide +kernel, rfl⟩
theorem d16_84 : Dc method_4_code 84 (.bipush 112) 2 86 := ⟨by decide +kernel, rfl⟩
theorem d16_86 : Dc method_4_code 86 (.castore) 1 87 := ⟨by decide +kernel, rfl⟩
theorem d16_87 : Dc method_4_code 87 (.dup) 1 88 := ⟨by decide +kernel, rfl⟩
theorem d16_88 : Dc method_4_code 88 (.bipush 15) 2 90 := ⟨by decide +kernel, rfl⟩
theorem d16_90 : Dc method_4_code 90 (.bipush 112) 2 92 := ⟨by decide +kernel, rfl⟩
theorem d16_92 : Dc method_4_code 92 (.castore) 1 93 := ⟨by decide +kernel, rfl⟩
theorem d16_93 : Dc method_4_code 93 (.dup) 1 94 := ⟨by decide +kernel, rfl⟩
theorem d16_94 : Dc method_4_code 94 (.bipush 16) 2 96 := ⟨by decide +kernel, rfl⟩
theorem d16_96 : Dc method_4_code 96 (.bipush 46) 2 98 := ⟨by decide +kernel, rfl⟩
theorem d16_98 : Dc method_4_code 98 (.castore) 1 99 := ⟨by decide +kernel, rfl⟩
theorem d16_99 : Dc method_4_code 99 (.dup) 1 100 := ⟨by decide +kernel, rfl⟩
theorem d16_100 : Dc method_4_code 100 (.bipush 17) 2 102 := ⟨by decide +kernel, rfl⟩
theorem d16_102 : Dc method_4_code 102 (.bipush 111) 2 104 := ⟨by decide +kernel, rfl⟩
theorem d16_104 : Dc method_4_code 104 (.castore) 1 105 := ⟨by decide +kernel, rfl⟩
theorem d16_105 : Dc method_4_code 105 (.dup) 1 106 := ⟨by decide +kernel, rfl⟩
theorem d16_106 : Dc method_4_code 106 (.bipush 18) 2 108 := ⟨by decide +kernel, rfl⟩
theorem d16_108 : Dc method_4_code 108 (.bipush 114) 2 110 := ⟨by decide +kernel, rfl⟩
theorem d16_110 : Dc method_4_code 110 (.castore) 1 111 := ⟨by decide +kernel, rfl⟩
theorem d16_111 : Dc method_4_code 111 (.dup) 1 112 := ⟨by decide +kernel, rfl⟩
theorem d16_112 : Dc method_4_code 112 (.bipush 19) 2 114 := ⟨by decide +kernel, rfl⟩
theorem d16_114 : Dc method_4_code 114 (.bipush 103) 2 116 := ⟨by decide +kernel, rfl⟩
theorem d16_116 : Dc method_4_code 116 (.castore) 1 117 := ⟨by decide +kernel, rfl⟩
theorem d16_117 : Dc method_4_code 117 (.dup) 1 118 := ⟨by decide +kernel, rfl⟩
theorem d16_118 : Dc method_4_code 118 (.bipush 20) 2 120 := ⟨by decide +kernel, rfl⟩
theorem d16_120 : Dc method_4_code 120 (.bipush 47) 2 122 := ⟨by decide +kernel, rfl⟩
theorem d16_122 : Dc method_4_code 122 (.castore) 1 123 := ⟨by decide +kernel, rfl⟩
theorem d16_123 : Dc method_4_code 123 (.dup) 1 124 := ⟨by decide +kernel, rfl⟩
theorem d16_124 : Dc method_4_code 124 (.bipush 21) 2 126 := ⟨by decide +kernel, rfl⟩
theorem d16_126 : Dc method_4_code 126 (.bipush 101) 2 128 := ⟨by decide +kernel, rfl⟩
theorem d16_128 : Dc method_4_code 128 (.castore) 1 129 := ⟨by decide +kernel, rfl⟩
theorem d16_129 : Dc method_4_code 129 (.dup) 1 130 := ⟨by decide +kernel, rfl⟩
theorem d16_130 : Dc method_4_code 130 (.bipush 22) 2 132 := ⟨by decide +kernel, rfl⟩
theorem d16_132 : Dc method_4_code 132 (.bipush 120) 2 134 := ⟨by decide +kernel, rfl⟩
theorem d16_134 : Dc method_4_code 134 (.castore) 1 135 := ⟨by decide +kernel, rfl⟩
theorem d16_135 : Dc method_4_code 135 (.dup) 1 136 := ⟨by decide +kernel, rfl⟩
theorem d16_136 : Dc method_4_code 136 (.bipush 23) 2 138 := ⟨by decide +kernel, rfl⟩
theorem d16_138 : Dc method_4_code 138 (.bipush 116) 2 140 := ⟨by decide +kernel, rfl⟩
theorem d16_140 : Dc method_4_code 140 (.castore) 1 141 := ⟨by decide +kernel, rfl⟩
theorem d16_141 : Dc method_4_code 141 (.dup) 1 142 := ⟨by decide +kernel, rfl⟩
theorem d16_142 : Dc method_4_code 142 (.bipush 24) 2 144 := ⟨by decide +kernel, rfl⟩
theorem d16_144 : Dc method_4_code 144 (.bipush 101) 2 146 := ⟨by decide +kernel, rfl⟩
theorem d16_146 : Dc method_4_code 146 (.castore) 1 147 := ⟨by decide +kernel, rfl⟩
theorem d16_147 : Dc method_4_code 147 (.dup) 1 148 := ⟨by decide +kernel, rfl⟩
theorem d16_148 : Dc method_4_code 148 (.bipush 25) 2 150 := ⟨by decide +kernel, rfl⟩
theorem d16_150 : Dc method_4_code 150 (.bipush 110) 2 152 := ⟨by decide +kernel, rfl⟩
theorem d16_152 : Dc method_4_code 152 (.castore) 1 153 := ⟨by decide +kernel, rfl⟩
theorem d16_153 : Dc method_4_code 153 (.dup) 1 154 := ⟨by decide +kernel, rfl⟩
theorem d16_154 : Dc method_4_code 154 (.bipush 26) 2 156 := ⟨by decide +kernel, rfl⟩
theorem d16_156 : Dc method_4_code 156 (.bipush 115) 2 158 := ⟨by decide +kernel, rfl⟩
theorem d16_158 : Dc method_4_code 158 (.castore) 1 159 := ⟨by decide +kernel, rfl⟩
theorem d16_159 : Dc method_4_code 159 (.dup) 1 160 := ⟨by decide +kernel, rfl⟩
theorem d16_160 : Dc method_4_code 160 (.bipush 27) 2 162 := ⟨by decide +kernel, rfl⟩
theorem d16_162 : Dc method_4_code 162 (.bipush 105) 2 164 := ⟨by decide +kernel, rfl⟩
theorem d16_164 : Dc method_4_code 164 (.castore) 1 165 := ⟨by decide +kernel, rfl⟩
theorem d16_165 : Dc method_4_code 165 (.dup) 1 166 := ⟨by decide +kernel, rfl⟩
theorem d16_166 : Dc method_4_code 166 (.bipush 28) 2 168 := ⟨by decide +kernel, rfl⟩
theorem d16_168 : Dc method_4_code 168 (.bipush 111) 2 170 := ⟨by decide +kernel, rfl⟩
theorem d16_170 : Dc method_4_code 170 (.castore) 1 171 := ⟨by decide +kernel, rfl⟩
theorem d16_171 : Dc method_4_code 171 (.dup) 1 172 := ⟨by decide +kernel, rfl⟩
theorem d16_172 : Dc method_4_code 172 (.bipush 29) 2 174 := ⟨by decide +kernel, rfl⟩
theorem d16_174 : Dc method_4_code 174 (.bipush 110) 2 176 := ⟨by decide +kernel, rfl⟩
theorem d16_176 : Dc method_4_code 176 (.castore) 1 177 := ⟨by decide +kernel, rfl⟩
theorem d16_177 : Dc method_4_code 177 (.dup) 1 178 := ⟨by decide +kernel, rfl⟩
theorem d16_178 : Dc method_4_code 178 (.bipush 30) 2 180 := ⟨by decide +kernel, rfl⟩
theorem d16_180 : Dc method_4_code 180 (.bipush 115) 2 182 := ⟨by decide +kernel, rfl⟩
theorem d16_182 : Dc method_4_code 182 (.castore) 1 183 := ⟨by decide +kernel, rfl⟩
theorem d16_183 : Dc method_4_code 183 (.dup) 1 184 := ⟨by decide +kernel, rfl⟩
theorem d16_184 : Dc method_4_code 184 (.bipush 31) 2 186 := ⟨by decide +kernel, rfl⟩
theorem d16_186 : Dc method_4_code 186 (.bipush 47) 2 188 := ⟨by decide +kernel, rfl⟩
theorem d16_188 : Dc method_4_code 188 (.castore) 1 189 := ⟨by decide +kernel, rfl⟩
theorem d16_189 : Dc method_4_code 189 (.dup) 1 190 := ⟨by decide +kernel, rfl⟩
theorem d16_190 : Dc method_4_code 190 (.bipush 32) 2 192 := ⟨by decide +kernel, rfl⟩
theorem d16_192 : Dc method_4_code 192 (.bipush 120) 2 194 := ⟨by decide +kernel, rfl⟩
theorem d16_194 : Dc method_4_code 194 (.castore) 1 195 := ⟨by decide +kernel, rfl⟩
theorem d16_195 : Dc method_4_code 195 (.dup) 1 196 := ⟨by decide +kernel, rfl⟩
theorem d16_196 : Dc method_4_code 196 (.bipush 33) 2 198 := ⟨by decide +kernel, rfl⟩
theorem d16_198 : Dc method_4_code 198 (.bipush 101) 2 200 := ⟨by decide +kernel, rfl⟩
theorem d16_200 : Dc method_4_code 200 (.castore) 1 201 := ⟨by decide +kernel, rfl⟩
theorem d16_201 : Dc method_4_code 201 (.dup) 1 202 := ⟨by decide +kernel, rfl⟩
theorem d16_202 : Dc method_4_code 202 (.bipush 34) 2 204 := ⟨by decide +kernel, rfl⟩
theorem d16_204 : Dc method_4_code 204 (.bipush 112) 2 206 := ⟨by decide +kernel, rfl⟩
theorem d16_206 : Dc method_4_code 206 (.castore) 1 207 := ⟨by decide +kernel, rfl⟩
theorem d16_207 : Dc method_4_code 207 (.dup) 1 208 := ⟨by decide +kernel, rfl⟩
theorem d16_208 : Dc method_4_code 208 (.bipush 35) 2 210 := ⟨by decide +kernel, rfl⟩
theorem d16_210 : Dc method_4_code 210 (.bipush 45) 2 212 := ⟨by decide +kernel, rfl⟩
theorem d16_212 : Dc method_4_code 212 (.castore) 1 213 := ⟨by decide +kernel, rfl⟩
theorem d16_213 : Dc method_4_code 213 (.dup) 1 214 := ⟨by decide +kernel, rfl⟩
theorem d16_214 : Dc method_4_code 214 (.bipush 36) 2 216 := ⟨by decide +kernel, rfl⟩
theorem d16_216 : Dc method_4_code 216 (.bipush 48) 2 218 := ⟨by decide +kernel, rfl⟩
theorem d16_218 : Dc method_4_code 218 (.castore) 1 219 := ⟨by decide +kernel, rfl⟩
theorem d16_219 : Dc method_4_code 219 (.dup) 1 220 := ⟨by decide +kernel, rfl⟩
theorem d16_220 : Dc method_4_code 220 (.bipush 37) 2 222 := ⟨by decide +kernel, rfl⟩
theorem d16_222 : Dc method_4_code 222 (.bipush 50) 2 224 := ⟨by decide +kernel, rfl⟩
theorem d16_224 : Dc method_4_code 224 (.castore) 1 225 := ⟨by decide +kernel, rfl⟩
theorem d16_225 : Dc method_4_code 225 (.dup) 1 226 := ⟨by decide +kernel, rfl⟩
theorem d16_226 : Dc method_4_code 226 (.bipush 38) 2 228 := ⟨by decide +kernel, rfl⟩
theorem d16_228 : Dc method_4_code 228 (.bipush 50) 2 230 := ⟨by decide +kernel, rfl⟩
theorem d16_230 : Dc method_4_code 230 (.castore) 1 231 := ⟨by decide +kernel, rfl⟩
theorem d16_231 : Dc method_4_code 231 (.dup) 1 232 := ⟨by decide +kernel, rfl⟩
theorem d16_232 : Dc method_4_code 232 (.bipush 39) 2 234 := ⟨by decide +kernel, rfl⟩
theorem d16_234 : Dc method_4_code 234 (.bipush 55) 2 236 := ⟨by decide +kernel, rfl⟩
theorem d16_236 : Dc method_4_code 236 (.castore) 1 237 := ⟨by decide +kernel, rfl⟩
theorem d16_237 : Dc method_4_code 237 (.dup) 1 238 := ⟨by decide +kernel, rfl⟩
theorem d16_238 : Dc method_4_code 238 (.bipush 40) 2 240 := ⟨by decide +kernel, rfl⟩
theorem d16_240 : Dc method_4_code 240 (.bipush 46) 2 242 := ⟨by decide +kernel, rfl⟩
theorem d16_242 : Dc method_4_code 242 (.castore) 1 243 := ⟨by decide +kernel, rfl⟩
theorem d16_243 : Dc method_4_code 243 (.dup) 1 244 := ⟨by decide +kernel, rfl⟩
theorem d16_244 : Dc method_4_code 244 (.bipush 41) 2 246 := ⟨by decide +kernel, rfl⟩
theorem d16_246 : Dc method_4_code 246 (.bipush 104) 2 248 := ⟨by decide +kernel, rfl⟩
theorem d16_248 : Dc method_4_code 248 (.castore) 1 249 := ⟨by decide +kernel, rfl⟩
theorem d16_249 : Dc method_4_code 249 (.dup) 1 250 := ⟨by decide +kernel, rfl⟩
theorem d16_250 : Dc method_4_code 250 (.bipush 42) 2 252 := ⟨by decide +kernel, rfl⟩
theorem d16_252 : Dc method_4_code 252 (.bipush 116) 2 254 := ⟨by decide +kernel, rfl⟩
theorem d16_254 : Dc method_4_code 254 (.castore) 1 255 := ⟨by decide +kernel, rfl⟩
theorem d16_255 : Dc method_4_code 255 (.dup) 1 256 := ⟨by decide +kernel, rfl⟩
theorem d16_256 : Dc method_4_code 256 (.bipush 43) 2 258 := ⟨by decide +kernel, rfl⟩
theorem d16_258 : Dc method_4_code 258 (.bipush 109) 2 260 := ⟨by decide +kernel, rfl⟩
theorem d16_260 : Dc method_4_code 260 (.castore) 1 261 := ⟨by decide +kernel, rfl⟩
theorem d16_261 : Dc method_4_code 261 (.dup) 1 262 := ⟨by decide +kernel, rfl⟩
theorem d16_262 : Dc method_4_code 262 (.bipush 44) 2 264 := ⟨by decide +kernel, rfl⟩
theorem d16_264 : Dc method_4_code 264 (.bipush 108) 2 266 := ⟨by decide +kernel, rfl⟩
theorem d16_266 : Dc method_4_code 266 (.castore) 1 267 := ⟨by decide +kernel, rfl⟩
theorem d16_267 : Dc method_4_code 267 (.dup) 1 268 := ⟨by decide +kernel, rfl⟩
theorem d16_268 : Dc method_4_code 268 (.bipush 45) 2 270 := ⟨by decide +kernel, rfl⟩
theorem d16_270 : Dc method_4_code 270 (.bipush 35) 2 272 := ⟨by decide +kernel, rfl⟩
theorem d16_272 : Dc method_4_code 272 (.castore) 1 273 := ⟨by decide +kernel, rfl⟩
theorem d16_273 : Dc method_4_code 273 (.dup) 1 274 := ⟨by decide +kernel, rfl⟩
theorem d16_274 : Dc method_4_code 274 (.bipush 46) 2 276 := ⟨by decide +kernel, rfl⟩
theorem d16_276 : Dc method_4_code 276 (.bipush 110) 2 278 := ⟨by decide +kernel, rfl⟩
theorem d16_278 : Dc method_4_code 278 (.castore) 1 279 := ⟨by decide +kernel, rfl⟩
theorem d16_279 : Dc method_4_code 279 (.dup) 1 280 := ⟨by decide +kernel, rfl⟩
theorem d16_280 : Dc method_4_code 280 (.bipush 47) 2 282 := ⟨by decide +kernel, rfl⟩
theorem d16_282 : Dc method_4_code 282 (.bipush 115) 2 284 := ⟨by decide +kernel, rfl⟩
theorem d16_284 : Dc method_4_code 284 (.castore) 1 285 := ⟨by decide +kernel, rfl⟩
theorem d16_285 : Dc method_4_code 285 (.areturn) 1 286 := ⟨by decide +kernel, rfl⟩
theorem d8_0 : Dc prog_11_method_2_code 0 (.ldc 9) 2 2 := ⟨by decide +kernel, rfl⟩
theorem d8_2 : Dc prog_11_method_2_code 2 (.aload_n 0) 1 3 := ⟨by decide +kernel, rfl⟩
theorem d8_3 : Dc prog_11_method_2_code 3 (.invokevirtual 11) 3 6 := ⟨by decide +kernel, rfl⟩
theorem d8_6 : Dc prog_11_method_2_code 6 (.ifCond .eq 8) 3 9 := ⟨by decide +kernel, rfl⟩
theorem d8_9 : Dc prog_11_method_2_code 9 (.ldc 17) 2 11 := ⟨by decide +kernel, rfl⟩
theorem d8_11 : Dc prog_11_method_2_code 11 (.goto 4) 3 14 := ⟨by decide +kernel, rfl⟩
theorem d8_14 : Dc prog_11_method_2_code 14 (.aload_n 0) 1 15 := ⟨by decide +kernel, rfl⟩
theorem d8_15 : Dc prog_11_method_2_code 15 (.areturn) 1 16 := ⟨by decide +kernel, rfl⟩
theorem d0_0 : Dc code 0 (.ldc 7) 2 2 := ⟨by decide +kernel, rfl⟩
theorem d0_2 : Dc code 2 (.astore 6) 2 4 := ⟨by decide +kernel, rfl⟩
theorem d0_4 : Dc code 4 (.iload_n 0) 1 5 := ⟨by decide +kernel, rfl⟩
theorem d0_5 : Dc code 5 (.ldc 9) 2 7 := ⟨by decide +kernel, rfl⟩
theorem d0_7 : Dc code 7 (.iand) 1 8 := ⟨by decide +kernel, rfl⟩
theorem d0_8 : Dc code 8 (.iconst 5) 1 9 := ⟨by decide +kernel, rfl⟩
theorem d0_9 : Dc code 9 (.irem) 1 10 := ⟨by decide +kernel, rfl⟩
theorem d0_10 : Dc code 10 (.istore 7) 2 12 := ⟨by decide +kernel, rfl⟩
theorem d0_12 : Dc code 12 (.iload 7) 2 14 := ⟨by decide +kernel, rfl⟩
theorem d0_14 : Dc code 14 (.ifCond .ne 102) 3 17 := ⟨by decide +kernel, rfl⟩
theorem d0_17 : Dc code 17 (.invokestatic 10) 3 20 := ⟨by decide +kernel, rfl⟩
theorem d0_20 : Dc code 20 (.astore 8) 2 22 := ⟨by decide +kernel, rfl⟩
theorem d0_22 : Dc code 22 (.iload_n 1) 1 23 := ⟨by decide +kernel, rfl⟩
theorem d0_23 : Dc code 23 (.ldc 9) 2 25 := ⟨by decide +kernel, rfl⟩
theorem d0_25 : Dc code 25 (.iand) 1 26 := ⟨by decide +kernel, rfl⟩
theorem d0_26 : Dc code 26 (.bipush 48) 2 28 := ⟨by decide +kernel, rfl⟩
theorem d0_28 : Dc code 28 (.irem) 1 29 := ⟨by decide +kernel, rfl⟩
theorem d0_29 : Dc code 29 (.istore 9) 2 31 := ⟨by decide +kernel, rfl⟩
theorem d0_31 : Dc code 31 (.iconst 1) 1 32 := ⟨by decide +kernel, rfl⟩
theorem d0_32 : Dc code 32 (.istore 10) 2 34 := ⟨by decide +kernel, rfl⟩
theorem d0_34 : Dc code 34 (.iload 9) 2 36 := ⟨by decide +kernel, rfl⟩
theorem d0_36 : Dc code 36 (.bipush 47) 2 38 := ⟨by decide +kernel, rfl⟩
theorem d0_38 : Dc code 38 (.if_icmp .ge 37) 3 41 := ⟨by decide +kernel, rfl⟩
theorem d0_41 : Dc code 41 (.iload_n 3) 1 42 := ⟨by decide +kernel, rfl⟩
theorem d0_42 : Dc code 42 (.iconst 1) 1 43 := ⟨by decide +kernel, rfl⟩
theorem d0_43 : Dc code 43 (.iand) 1 44 := ⟨by decide +kernel, rfl⟩
theorem d0_44 : Dc code 44 (.ifCond .eq 31) 3 47 := ⟨by decide +kernel, rfl⟩
theorem d0_47 : Dc code 47 (.iload_n 2) 1 48 := ⟨by decide +kernel, rfl⟩
theorem d0_48 : Dc code 48 (.i2c) 1 49 := ⟨by decide +kernel, rfl⟩
theorem d0_49 : Dc code 49 (.istore 11) 2 51 := ⟨by decide +kernel, rfl⟩
theorem d0_51 : Dc code 51 (.aload 8) 2 53 := ⟨by decide +kernel, rfl⟩
theorem d0_53 : Dc code 53 (.iload 9) 2 55 := ⟨by decide +kernel, rfl⟩
theorem d0_55 : Dc code 55 (.caload) 1 56 := ⟨by decide +kernel, rfl⟩
theorem d0_56 : Dc code 56 (.iload 11) 2 58 := ⟨by decide +kernel, rfl⟩
theorem d0_58 : Dc code 58 (.if_icmp .ne 7) 3 61 := ⟨by decide +kernel, rfl⟩
theorem d0_61 : Dc code 61 (.iconst 1) 1 62 := ⟨by decide +kernel, rfl⟩
theorem d0_62 : Dc code 62 (.goto 4) 3 65 := ⟨by decide +kernel, rfl⟩
theorem d0_65 : Dc code 65 (.iconst 0) 1 66 := ⟨by decide +kernel, rfl⟩
theorem d0_66 : Dc code 66 (.istore 10) 2 68 := ⟨by decide +kernel, rfl⟩
theorem d0_68 : Dc code 68 (.aload 8) 2 70 := ⟨by decide +kernel, rfl⟩
theorem d0_70 : Dc code 70 (.iload 9) 2 72 := ⟨by decide +kernel, rfl⟩
theorem d0_72 : Dc code 72 (.iload 11) 2 74 := ⟨by decide +kernel, rfl⟩
theorem d0_74 : Dc code 74 (.castore) 1 75 := ⟨by decide +kernel, rfl⟩
theorem d0_75 : Dc code 75 (.new 16) 3 78 := ⟨by decide +kernel, rfl⟩
theorem d0_78 : Dc code 78 (.dup) 1 79 := ⟨by decide +kernel, rfl⟩
theorem d0_79 : Dc code 79 (.aload 8) 2 81 := ⟨by decide +kernel, rfl⟩
theorem d0_81 : Dc code 81 (.invokespecial 18) 3 84 := ⟨by decide +kernel, rfl⟩
theorem d0_84 : Dc code 84 (.astore 11) 2 86 := ⟨by decide +kernel, rfl⟩
theorem d0_86 : Dc code 86 (.aload 11) 2 88 := ⟨by decide +kernel, rfl⟩
theorem d0_88 : Dc code 88 (.invokestatic 21) 3 91 := ⟨by decide +kernel, rfl⟩
theorem d0_91 : Dc code 91 (.astore 12) 2 93 := ⟨by decide +kernel, rfl⟩
theorem d0_93 : Dc code 93 (.iload 10) 2 95 := ⟨by decide +kernel, rfl⟩
theorem d0_95 : Dc code 95 (.ifCond .eq 13) 3 98 := ⟨by decide +kernel, rfl⟩
theorem d0_98 : Dc code 98 (.aload 6) 2 100 := ⟨by decide +kernel, rfl⟩
theorem d0_100 : Dc code 100 (.aload 12) 2 102 := ⟨by decide +kernel, rfl⟩
theorem d0_102 : Dc code 102 (.invokevirtual 27) 3 105 := ⟨by decide +kernel, rfl⟩
theorem d0_105 : Dc code 105 (.goto 10) 3 108 := ⟨by decide +kernel, rfl⟩
theorem d0_108 : Dc code 108 (.aload 11) 2 110 := ⟨by decide +kernel, rfl⟩
theorem d0_110 : Dc code 110 (.aload 12) 2 112 := ⟨by decide +kernel, rfl⟩
theorem d0_112 : Dc code 112 (.invokevirtual 27) 3 115 := ⟨by decide +kernel, rfl⟩
theorem d0_115 : Dc code 115 (.ireturn) 1 116 := ⟨by decide +kernel, rfl⟩
theorem d0_116 : Dc code 116 (.iload 7) 2 118 := ⟨by decide +kernel, rfl⟩
theorem d0_118 : Dc code 118 (.iconst 1) 1 119 := ⟨by decide +kernel, rfl⟩
theorem d0_119 : Dc code 119 (.if_icmp .ne 32) 3 122 := ⟨by decide +kernel, rfl⟩
theorem d0_122 : Dc code 122 (.new 16) 3 125 := ⟨by decide +kernel, rfl⟩
theorem d0_125 : Dc code 125 (.dup) 1 126 := ⟨by decide +kernel, rfl⟩
theorem d0_126 : Dc code 126 (.iload_n 2) 1 127 := ⟨by decide +kernel, rfl⟩
theorem d0_127 : Dc code 127 (.i2c) 1 128 := ⟨by decide +kernel, rfl⟩
theorem d0_128 : Dc code 128 (.invokestatic 31) 3 131 := ⟨by decide +kernel, rfl⟩
theorem d0_131 : Dc code 131 (.invokespecial 18) 3 134 := ⟨by decide +kernel, rfl⟩
theorem d0_134 : Dc code 134 (.astore 8) 2 136 := ⟨by decide +kernel, rfl⟩
theorem d0_136 : Dc code 136 (.aload 8) 2 138 := ⟨by decide +kernel, rfl⟩
theorem d0_138 : Dc code 138 (.invokestatic 21) 3 141 := ⟨by decide +kernel, rfl⟩
theorem d0_141 : Dc code 141 (.astore 9) 2 143 := ⟨by decide +kernel, rfl⟩
theorem d0_143 : Dc code 143 (.aload 8) 2 145 := ⟨by decide +kernel, rfl⟩
theorem d0_145 : Dc code 145 (.aload 9) 2 147 := ⟨by decide +kernel, rfl⟩
theorem d0_147 : Dc code 147 (.invokevirtual 27) 3 150 := ⟨by decide +kernel, rfl⟩
theorem d0_150 : Dc code 150 (.ireturn) 1 151 := ⟨by decide +kernel, rfl⟩
theorem d0_151 : Dc code 151 (.iload 7) 2 153 := ⟨by decide +kernel, rfl⟩
theorem d0_153 : Dc code 153 (.iconst 2) 1 154 := ⟨by decide +kernel, rfl⟩
theorem d0_154 : Dc code 154 (.if_icmp .ne 32) 3 157 := ⟨by decide +kernel, rfl⟩
theorem d0_157 : Dc code 157 (.new 16) 3 160 := ⟨by decide +kernel, rfl⟩
theorem d0_160 : Dc code 160 (.dup) 1 161 := ⟨by decide +kernel, rfl⟩
theorem d0_161 : Dc code 161 (.iload_n 2) 1 162 := ⟨by decide +kernel, rfl⟩
theorem d0_162 : Dc code 162 (.i2c) 1 163 := ⟨by decide +kernel, rfl⟩
theorem d0_163 : Dc code 163 (.invokestatic 35) 3 166 := ⟨by decide +kernel, rfl⟩
theorem d0_166 : Dc code 166 (.invokespecial 18) 3 169 := ⟨by decide +kernel, rfl⟩
theorem d0_169 : Dc code 169 (.astore 8) 2 171 := ⟨by decide +kernel, rfl⟩
theorem d0_171 : Dc code 171 (.aload 8) 2 173 := ⟨by decide +kernel, rfl⟩
theorem d0_173 : Dc code 173 (.invokestatic 21) 3 176 := ⟨by decide +kernel, rfl⟩
theorem d0_176 : Dc code 176 (.astore 9) 2 178 := ⟨by decide +kernel, rfl⟩
theorem d0_178 : Dc code 178 (.aload 8) 2 180 := ⟨by decide +kernel, rfl⟩
theorem d0_180 : Dc code 180 (.aload 9) 2 182 := ⟨by decide +kernel, rfl⟩
theorem d0_182 : Dc code 182 (.invokevirtual 27) 3 185 := ⟨by decide +kernel, rfl⟩
theorem d0_185 : Dc code 185 (.ireturn) 1 186 := ⟨by decide +kernel, rfl⟩
theorem d0_186 : Dc code 186 (.iload 7) 2 188 := ⟨by decide +kernel, rfl⟩
theorem d0_188 : Dc code 188 (.iconst 3) 1 189 := ⟨by decide +kernel, rfl⟩
theorem d0_189 : Dc code 189 (.if_icmp .ne 89) 3 192 := ⟨by decide +kernel, rfl⟩
theorem d0_192 : Dc code 192 (.iload_n 1) 1 193 := ⟨by decide +kernel, rfl⟩
theorem d0_193 : Dc code 193 (.iconst 3) 1 194 := ⟨by decide +kernel, rfl⟩
theorem d0_194 : Dc code 194 (.iand) 1 195 := ⟨by decide +kernel, rfl⟩
theorem d0_195 : Dc code 195 (.istore 8) 2 197 := ⟨by decide +kernel, rfl⟩
theorem d0_197 : Dc code 197 (.iload 8) 2 199 := ⟨by decide +kernel, rfl⟩
theorem d0_199 : Dc code 199 (.newarray .char) 2 201 := ⟨by decide +kernel, rfl⟩
theorem d0_201 : Dc code 201 (.astore 9) 2 203 := ⟨by decide +kernel, rfl⟩
theorem d0_203 : Dc code 203 (.iload 8) 2 205 := ⟨by decide +kernel, rfl⟩
theorem d0_205 : Dc code 205 (.ifCond .le 13) 3 208 := ⟨by decide +kernel, rfl⟩
theorem d0_208 : Dc code 208 (.aload 9) 2 210 := ⟨by decide +kernel, rfl⟩
theorem d0_210 : Dc code 210 (.iconst 0) 1 211 := ⟨by decide +kernel, rfl⟩
theorem d0_211 : Dc code 211 (.iload_n 3) 1 212 := ⟨by decide +kernel, rfl⟩
theorem d0_212 : Dc code 212 (.sipush 255) 3 215 := ⟨by decide +kernel, rfl⟩
theorem d0_215 : Dc code 215 (.iand) 1 216 := ⟨by decide +kernel, rfl⟩
theorem d0_216 : Dc code 216 (.i2c) 1 217 := ⟨by decide +kernel, rfl⟩
theorem d0_217 : Dc code 217 (.castore) 1 218 := ⟨by decide +kernel, rfl⟩
theorem d0_218 : Dc code 218 (.iload 8) 2 220 := ⟨by decide +kernel, rfl⟩
theorem d0_220 : Dc code 220 (.iconst 1) 1 221 := ⟨by decide +kernel, rfl⟩
theorem d0_221 : Dc code 221 (.if_icmp .le 14) 3 224 := ⟨by decide +kernel, rfl⟩
theorem d0_224 : Dc code 224 (.aload 9) 2 226 := ⟨by decide +kernel, rfl⟩
theorem d0_226 : Dc code 226 (.iconst 1) 1 227 := ⟨by decide +kernel, rfl⟩
theorem d0_227 : Dc code 227 (.iload 4) 2 229 := ⟨by decide +kernel, rfl⟩
theorem d0_229 : Dc code 229 (.sipush 255) 3 232 := ⟨by decide +kernel, rfl⟩
theorem d0_232 : Dc code 232 (.iand) 1 233 := ⟨by decide +kernel, rfl⟩
theorem d0_233 : Dc code 233 (.i2c) 1 234 := ⟨by decide +kernel, rfl⟩
theorem d0_234 : Dc code 234 (.castore) 1 235 := ⟨by decide +kernel, rfl⟩
theorem d0_235 : Dc code 235 (.iload 8) 2 237 := ⟨by decide +kernel, rfl⟩
theorem d0_237 : Dc code 237 (.iconst 2) 1 238 := ⟨by decide +kernel, rfl⟩
theorem d0_238 : Dc code 238 (.if_icmp .le 14) 3 241 := ⟨by decide +kernel, rfl⟩
theorem d0_241 : Dc code 241 (.aload 9) 2 243 := ⟨by decide +kernel, rfl⟩
theorem d0_243 : Dc code 243 (.iconst 2) 1 244 := ⟨by decide +kernel, rfl⟩
theorem d0_244 : Dc code 244 (.iload 5) 2 246 := ⟨by decide +kernel, rfl⟩
theorem d0_246 : Dc code 246 (.sipush 255) 3 249 := ⟨by decide +kernel, rfl⟩
theorem d0_249 : Dc code 249 (.iand) 1 250 := ⟨by decide +kernel, rfl⟩
theorem d0_250 : Dc code 250 (.i2c) 1 251 := ⟨by decide +kernel, rfl⟩
theorem d0_251 : Dc code 251 (.castore) 1 252 := ⟨by decide +kernel, rfl⟩
theorem d0_252 : Dc code 252 (.new 16) 3 255 := ⟨by decide +kernel, rfl⟩
theorem d0_255 : Dc code 255 (.dup) 1 256 := ⟨by decide +kernel, rfl⟩
theorem d0_256 : Dc code 256 (.aload 9) 2 258 := ⟨by decide +kernel, rfl⟩
theorem d0_258 : Dc code 258 (.invokespecial 18) 3 261 := ⟨by decide +kernel, rfl⟩
theorem d0_261 : Dc code 261 (.astore 10) 2 263 := ⟨by decide +kernel, rfl⟩
theorem d0_263 : Dc code 263 (.aload 10) 2 265 := ⟨by decide +kernel, rfl⟩
theorem d0_265 : Dc code 265 (.invokestatic 21) 3 268 := ⟨by decide +kernel, rfl⟩
theorem d0_268 : Dc code 268 (.astore 11) 2 270 := ⟨by decide +kernel, rfl⟩
theorem d0_270 : Dc code 270 (.aload 10) 2 272 := ⟨by decide +kernel, rfl⟩
theorem d0_272 : Dc code 272 (.aload 11) 2 274 := ⟨by decide +kernel, rfl⟩
theorem d0_274 : Dc code 274 (.invokevirtual 27) 3 277 := ⟨by decide +kernel, rfl⟩
theorem d0_277 : Dc code 277 (.ireturn) 1 278 := ⟨by decide +kernel, rfl⟩
theorem d0_278 : Dc code 278 (.ldc 38) 2 280 := ⟨by decide +kernel, rfl⟩
theorem d0_280 : Dc code 280 (.invokestatic 21) 3 283 := ⟨by decide +kernel, rfl⟩
theorem d0_283 : Dc code 283 (.astore 8) 2 285 := ⟨by decide +kernel, rfl⟩
theorem d0_285 : Dc code 285 (.aload 6) 2 287 := ⟨by decide +kernel, rfl⟩
theorem d0_287 : Dc code 287 (.invokestatic 21) 3 290 := ⟨by decide +kernel, rfl⟩
theorem d0_290 : Dc code 290 (.astore 9) 2 292 := ⟨by decide +kernel, rfl⟩
theorem d0_292 : Dc code 292 (.aload 6) 2 294 := ⟨by decide +kernel, rfl⟩
theorem d0_294 : Dc code 294 (.aload 8) 2 296 := ⟨by decide +kernel, rfl⟩
theorem d0_296 : Dc code 296 (.invokevirtual 27) 3 299 := ⟨by decide +kernel, rfl⟩
theorem d0_299 : Dc code 299 (.ifCond .eq 17) 3 302 := ⟨by decide +kernel, rfl⟩
theorem d0_302 : Dc code 302 (.aload 6) 2 304 := ⟨by decide +kernel, rfl⟩
theorem d0_304 : Dc code 304 (.aload 9) 2 306 := ⟨by decide +kernel, rfl⟩
theorem d0_306 : Dc code 306 (.invokevirtual 27) 3 309 := ⟨by decide +kernel, rfl⟩
theorem d0_309 : Dc code 309 (.ifCond .eq 7) 3 312 := ⟨by decide +kernel, rfl⟩
theorem d0_312 : Dc code 312 (.iconst 1) 1 313 := ⟨by decide +kernel, rfl⟩
theorem d0_313 : Dc code 313 (.goto 4) 3 316 := ⟨by decide +kernel, rfl⟩
theorem d0_316 : Dc code 316 (.iconst 0) 1 317 := ⟨by decide +kernel, rfl⟩
theorem d0_317 : Dc code 317 (.ireturn) 1 318 := ⟨by decide +kernel, rfl⟩
def w0 {Z : State} {a0 : Array Value} (hw : ∀ d ∈ tables_1, d.before a0 Z = true) := hw _ (List.mem_of_getElem? (i := 0) rfl)
def w1 {Z : State} {a0 : Array Value} (hw : ∀ d ∈ tables_1, d.before a0 Z = true) := hw _ (List.mem_of_getElem? (i := 1) rfl)
def w2 {Z : State} {a0 : Array Value} (hw : ∀ d ∈ tables_1, d.before a0 Z = true) := hw _ (List.mem_of_getElem? (i := 2) rfl)
def w3 {Z : State} {a0 : Array Value} (hw : ∀ d ∈ tables_1, d.before a0 Z = true) := hw _ (List.mem_of_getElem? (i := 3) rfl)
def w4 {Z : State} {a0 : Array Value} (hw : ∀ d ∈ tables_1, d.before a0 Z = true) := hw _ (List.mem_of_getElem? (i := 4) rfl)
def w5 {Z : State} {a0 : Array Value} (hw : ∀ d ∈ tables_1, d.before a0 Z = true) := hw _ (List.mem_of_getElem? (i := 5) rfl)
def w6 {Z : State} {a0 : Array Value} (hw : ∀ d ∈ tables_1, d.before a0 Z = true) := hw _ (List.mem_of_getElem? (i := 6) rfl)
def w7 {Z : State} {a0 : Array Value} (hw : ∀ d ∈ tables_1, d.before a0 Z = true) := hw _ (List.mem_of_getElem? (i := 7) rfl)
def w8 {Z : State} {a0 : Array Value} (hw : ∀ d ∈ tables_1, d.before a0 Z = true) := hw _ (List.mem_of_getElem? (i := 8) rfl)
def w9 {Z : State} {a0 : Array Value} (hw : ∀ d ∈ tables_1, d.before a0 Z = true) := hw _ (List.mem_of_getElem? (i := 9) rfl)
def w10 {Z : State} {a0 : Array Value} (hw : ∀ d ∈ tables_1, d.before a0 Z = true) := hw _ (List.mem_of_getElem? (i := 10) rfl)
def w11 {Z : State} {a0 : Array Value} (hw : ∀ d ∈ tables_1, d.before a0 Z = true) := hw _ (List.mem_of_getElem? (i := 11) rfl)
def w12 {Z : State} {a0 : Array Value} (hw : ∀ d ∈ tables_1, d.before a0 Z = true) := hw _ (List.mem_of_getElem? (i := 12) rfl)
def w13 {Z : State} {a0 : Array Value} (hw : ∀ d ∈ tables_1, d.before a0 Z = true) := hw _ (List.mem_of_getElem? (i := 13) rfl)
def w14 {Z : State} {a0 : Array Value} (hw : ∀ d ∈ tables_1, d.before a0 Z = true) := hw _ (List.mem_of_getElem? (i := 14) rfl)
def w15 {Z : State} {a0 : Array Value} (hw : ∀ d ∈ tables_1, d.before a0 Z = true) := hw _ (List.mem_of_getElem? (i := 15) rfl)
def w16 {Z : State} {a0 : Array Value} (hw : ∀ d ∈ tables_1, d.before a0 Z = true) := hw _ (List.mem_of_getElem? (i := 16) rfl)
def w17 {Z : State} {a0 : Array Value} (hw : ∀ d ∈ tables_1, d.before a0 Z = true) := hw _ (List.mem_of_getElem? (i := 17) rfl)
def w18 {Z : State} {a0 : Array Value} (hw : ∀ d ∈ tables_1, d.before a0 Z = true) := hw _ (List.mem_of_getElem? (i := 18) rfl)
def w19 {Z : State} {a0 : Array Value} (hw : ∀ d ∈ tables_1, d.before a0 Z = true) := hw _ (List.mem_of_getElem? (i := 19) rfl)
def w21 {Z : State} {a0 : Array Value} (hw : ∀ d ∈ tables_1, d.before a0 Z = true) := hw _ (List.mem_of_getElem? (i := 21) rfl)
def w22 {Z : State} {a0 : Array Value} (hw : ∀ d ∈ tables_1, d.before a0 Z = true) := hw _ (List.mem_of_getElem? (i := 22) rfl)
def w23 {Z : State} {a0 : Array Value} (hw : ∀ d ∈ tables_1, d.before a0 Z = true) := hw _ (List.mem_of_getElem? (i := 23) rfl)
def w24 {Z : State} {a0 : Array Value} (hw : ∀ d ∈ tables_1, d.before a0 Z = true) := hw _ (List.mem_of_getElem? (i := 24) rfl)
def w25 {Z : State} {a0 : Array Value} (hw : ∀ d ∈ tables_1, d.before a0 Z = true) := hw _ (List.mem_of_getElem? (i := 25) rfl)
def w26 {Z : State} {a0 : Array Value} (hw : ∀ d ∈ tables_1, d.before a0 Z = true) := hw _ (List.mem_of_getElem? (i := 26) rfl)
def w27 {Z : State} {a0 : Array Value} (hw : ∀ d ∈ tables_1, d.before a0 Z = true) := hw _ (List.mem_of_getElem? (i := 27) rfl)
def w28 {Z : State} {a0 : Array Value} (hw : ∀ d ∈ tables_1, d.before a0 Z = true) := hw _ (List.mem_of_getElem? (i := 28) rfl)
def w29 {Z : State} {a0 : Array Value} (hw : ∀ d ∈ tables_1, d.before a0 Z = true) := hw _ (List.mem_of_getElem? (i := 29) rfl)
def w30 {Z : State} {a0 : Array Value} (hw : ∀ d ∈ tables_1, d.before a0 Z = true) := hw _ (List.mem_of_getElem? (i := 30) rfl)
def w31 {Z : State} {a0 : Array Value} (hw : ∀ d ∈ tables_1, d.before a0 Z = true) := hw _ (List.mem_of_getElem? (i := 31) rfl)
def w32 {Z : State} {a0 : Array Value} (hw : ∀ d ∈ tables_1, d.before a0 Z = true) := hw _ (List.mem_of_getElem? (i := 32) rfl)
def w33 {Z : State} {a0 : Array Value} (hw : ∀ d ∈ tables_1, d.before a0 Z = true) := hw _ (List.mem_of_getElem? (i := 33) rfl)
def w34 {Z : State} {a0 : Array Value} (hw : ∀ d ∈ tables_1, d.before a0 Z = true) := hw _ (List.mem_of_getElem? (i := 34) rfl)
def w35 {Z : State} {a0 : Array Value} (hw : ∀ d ∈ tables_1, d.before a0 Z = true) := hw _ (List.mem_of_getElem? (i := 35) rfl)
def w36 {Z : State} {a0 : Array Value} (hw : ∀ d ∈ tables_1, d.before a0 Z = true) := hw _ (List.mem_of_getElem? (i := 36) rfl)
def w37 {Z : State} {a0 : Array Value} (hw : ∀ d ∈ tables_1, d.before a0 Z = true) := hw _ (List.mem_of_getElem? (i := 37) rfl)
def w38 {Z : State} {a0 : Array Value} (hw : ∀ d ∈ tables_1, d.before a0 Z = true) := hw _ (List.mem_of_getElem? (i := 38) rfl)
def w39 {Z : State} {a0 : Array Value} (hw : ∀ d ∈ tables_1, d.before a0 Z = true) := hw _ (List.mem_of_getElem? (i := 39) rfl)
def w40 {Z : State} {a0 : Array Value} (hw : ∀ d ∈ tables_1, d.before a0 Z = true) := hw _ (List.mem_of_getElem? (i := 40) rfl)
def w41 {Z : State} {a0 : Array Value} (hw : ∀ d ∈ tables_1, d.before a0 Z = true) := hw _ (List.mem_of_getElem? (i := 41) rfl)
def w42 {Z : State} {a0 : Array Value} (hw : ∀ d ∈ tables_1, d.before a0 Z = true) := hw _ (List.mem_of_getElem? (i := 42) rfl)
def w43 {Z : State} {a0 : Array Value} (hw : ∀ d ∈ tables_1, d.before a0 Z = true) := hw _ (List.mem_of_getElem? (i := 43) rfl)
def w44 {Z : State} {a0 : Array Value} (hw : ∀ d ∈ tables_1, d.before a0 Z = true) := hw _ (List.mem_of_getElem? (i := 44) rfl)
def w45 {Z : State} {a0 : Array Value} (hw : ∀ d ∈ tables_1, d.before a0 Z = true) := hw _ (List.mem_of_getElem? (i := 45) rfl)
def w46 {Z : State} {a0 : Array Value} (hw : ∀ d ∈ tables_1, d.before a0 Z = true) := hw _ (List.mem_of_getElem? (i := 46) rfl)
def w47 {Z : State} {a0 : Array Value} (hw : ∀ d ∈ tables_1, d.before a0 Z = true) := hw _ (List.mem_of_getElem? (i := 47) rfl)
def w48 {Z : State} {a0 : Array Value} (hw : ∀ d ∈ tables_1, d.before a0 Z = true) := hw _ (List.mem_of_getElem? (i := 48) rfl)
def w49 {Z : State} {a0 : Array Value} (hw : ∀ d ∈ tables_1, d.before a0 Z = true) := hw _ (List.mem_of_getElem? (i := 49) rfl)
def w50 {Z : State} {a0 : Array Value} (hw : ∀ d ∈ tables_1, d.before a0 Z = true) := hw _ (List.mem_of_getElem? (i := 50) rfl)
def w51 {Z : State} {a0 : Array Value} (hw : ∀ d ∈ tables_1, d.before a0 Z = true) := hw _ (List.mem_of_getElem? (i := 51) rfl)
def w52 {Z : State} {a0 : Array Value} (hw : ∀ d ∈ tables_1, d.before a0 Z = true) := hw _ (List.mem_of_getElem? (i := 52) rfl)
def w53 {Z : State} {a0 : Array Value} (hw : ∀ d ∈ tables_1, d.before a0 Z = true) := hw _ (List.mem_of_getElem? (i := 53) rfl)
def w54 {Z : State} {a0 : Array Value} (hw : ∀ d ∈ tables_1, d.before a0 Z = true) := hw _ (List.mem_of_getElem? (i := 54) rfl)
def w55 {Z : State} {a0 : Array Value} (hw : ∀ d ∈ tables_1, d.before a0 Z = true) := hw _ (List.mem_of_getElem? (i := 55) rfl)
def w56 {Z : State} {a0 : Array Value} (hw : ∀ d ∈ tables_1, d.before a0 Z = true) := hw _ (List.mem_of_getElem? (i := 56) rfl)
def w57 {Z : State} {a0 : Array Value} (hw : ∀ d ∈ tables_1, d.before a0 Z = true) := hw _ (List.mem_of_getElem? (i := 57) rfl)
def w58 {Z : State} {a0 : Array Value} (hw : ∀ d ∈ tables_1, d.before a0 Z = true) := hw _ (List.mem_of_getElem? (i := 58) rfl)
def w59 {Z : State} {a0 : Array Value} (hw : ∀ d ∈ tables_1, d.before a0 Z = true) := hw _ (List.mem_of_getElem? (i := 59) rfl)
def w60 {Z : State} {a0 : Array Value} (hw : ∀ d ∈ tables_1, d.before a0 Z = true) := hw _ (List.mem_of_getElem? (i := 60) rfl)
def w61 {Z : State} {a0 : Array Value} (hw : ∀ d ∈ tables_1, d.before a0 Z = true) := hw _ (List.mem_of_getElem? (i := 61) rfl)
def w62 {Z : State} {a0 : Array Value} (hw : ∀ d ∈ tables_1, d.before a0 Z = true) := hw _ (List.mem_of_getElem? (i := 62) rfl)
def w63 {Z : State} {a0 : Array Value} (hw : ∀ d ∈ tables_1, d.before a0 Z = true) := hw _ (List.mem_of_getElem? (i := 63) rfl)
def w64 {Z : State} {a0 : Array Value} (hw : ∀ d ∈ tables_1, d.before a0 Z = true) := hw _ (List.mem_of_getElem? (i := 64) rfl)
def w65 {Z : State} {a0 : Array Value} (hw : ∀ d ∈ tables_1, d.before a0 Z = true) := hw _ (List.mem_of_getElem? (i := 65) rfl)
def w66 {Z : State} {a0 : Array Value} (hw : ∀ d ∈ tables_1, d.before a0 Z = true) := hw _ (List.mem_of_getElem? (i := 66) rfl)
def w67 {Z : State} {a0 : Array Value} (hw : ∀ d ∈ tables_1, d.before a0 Z = true) := hw _ (List.mem_of_getElem? (i := 67) rfl)
def w68 {Z : State} {a0 : Array Value} (hw : ∀ d ∈ tables_1, d.before a0 Z = true) := hw _ (List.mem_of_getElem? (i := 68) rfl)
def w69 {Z : State} {a0 : Array Value} (hw : ∀ d ∈ tables_1, d.before a0 Z = true) := hw _ (List.mem_of_getElem? (i := 69) rfl)
def w70 {Z : State} {a0 : Array Value} (hw : ∀ d ∈ tables_1, d.before a0 Z = true) := hw _ (List.mem_of_getElem? (i := 70) rfl)
def w71 {Z : State} {a0 : Array Value} (hw : ∀ d ∈ tables_1, d.before a0 Z = true) := hw _ (List.mem_of_getElem? (i := 71) rfl)
def w72 {Z : State} {a0 : Array Value} (hw : ∀ d ∈ tables_1, d.before a0 Z = true) := hw _ (List.mem_of_getElem? (i := 72) rfl)
def w73 {Z : State} {a0 : Array Value} (hw : ∀ d ∈ tables_1, d.before a0 Z = true) := hw _ (List.mem_of_getElem? (i := 73) rfl)
def w74 {Z : State} {a0 : Array Value} (hw : ∀ d ∈ tables_1, d.before a0 Z = true) := hw _ (List.mem_of_getElem? (i := 74) rfl)
def w75 {Z : State} {a0 : Array Value} (hw : ∀ d ∈ tables_1, d.before a0 Z = true) := hw _ (List.mem_of_getElem? (i := 75) rfl)
def w76 {Z : State} {a0 : Array Value} (hw : ∀ d ∈ tables_1, d.before a0 Z = true) := hw _ (List.mem_of_getElem? (i := 76) rfl)
def w77 {Z : State} {a0 : Array Value} (hw : ∀ d ∈ tables_1, d.before a0 Z = true) := hw _ (List.mem_of_getElem? (i := 77) rfl)
def w78 {Z : State} {a0 : Array Value} (hw : ∀ d ∈ tables_1, d.before a0 Z = true) := hw _ (List.mem_of_getElem? (i := 78) rfl)
def w79 {Z : State} {a0 : Array Value} (hw : ∀ d ∈ tables_1, d.before a0 Z = true) := hw _ (List.mem_of_getElem? (i := 79) rfl)
def w80 {Z : State} {a0 : Array Value} (hw : ∀ d ∈ tables_1, d.before a0 Z = true) := hw _ (List.mem_of_getElem? (i := 80) rfl)
def w81 {Z : State} {a0 : Array Value} (hw : ∀ d ∈ tables_1, d.before a0 Z = true) := hw _ (List.mem_of_getElem? (i := 81) rfl)
set_option maxRecDepth 65536 in
set_option maxHeartbeats 4000000 in
theorem c_coderLen (l : Launch) (Z : State) (n0 : Nat) (a0 : Array Value) (hw : ∀ d ∈ tables_1, d.before a0 Z = true) (b : Nat) (z r : Int32) (vs : List Value) (h : Heap) (Ls : Lits) (hO : Old Z n0 h) (A : Av Z h b .byte vs) (hr : (XT.ushr (z - Int32.ofNat vs.length) 31).toInt8.toInt32 = r) (hn : narrow .byte (.int r) = .int r) :
    Con l Z n0 (⟨"java/lang/StringUTF16", "coderFromArrayLen", "([BI)B"⟩ : MethodName) jdk_52_method_15_code 2 (some .byte) ({ frames := 0, cells := 0, slots := 0, locals := 0 } : Room) [.ref b, .int z] h Ls [] (RV fun v h' Ls' => v = .int r ∧ h = h' ∧ Ls = Ls') := by
  refine Con.of_run (plainFor_of_name pn0) hO ?_
  intro p e s m below meth c F hs
  refine ⟨[.val (.ref b), .val (.int z)], by first | rfl | (simp [entryFrame, mkF, argsToLocals, Value.category]; done) | (rcases ref_cases hv with rfl | ⟨va, rfl⟩ <;> rfl), ?_⟩
  subst hr
  refine Run.iloadN F d7_0 rfl ?_
  refine Run.aloadN F d7_1 rfl rfl ?_
  refine Run.arrlen F A d7_2 ?_
  refine Run.isub F d7_3 ?_
  refine Run.bipush F d7_4 (z := 31) rfl ?_
  refine Run.iushr F d7_6 ?_
  refine Run.i2b F d7_7 ?_
  exact Run.ireturn F (by simp) hn (by decide) (by decide) d7_8 ⟨rfl, rfl, rfl⟩
set_option maxRecDepth 65536 in
set_option maxHeartbeats 4000000 in
theorem c_putChar (l : Launch) (Z : State) (n0 : Nat) (a0 : Array Value) (hw : ∀ d ∈ tables_1, d.before a0 Z = true) (u : Nat) (j : Nat) (ch : Int32) (vs : List Value) (UA : Sta Z Z.heap "java/lang/StringUTF16" "$assertionsDisabled" "Z" (.int 1)) (UH : Sta Z Z.heap "java/lang/StringUTF16" "HI_BYTE_SHIFT" "I" (.int 0)) (UL : Sta Z Z.heap "java/lang/StringUTF16" "LO_BYTE_SHIFT" "I" (.int 8)) (h : Heap) (Ls : Lits) (hO : Old Z n0 h) (A : Av Z h u .byte vs) (g : n0 ≤ u) (hj : 2 * j + 1 < vs.length) :
    Con l Z n0 (⟨"java/lang/StringUTF16", "putChar", "([BII)V"⟩ : MethodName) jdk_52_method_4_code 3 none ({ frames := 0, cells := 0, slots := 0, locals := 0 } : Room) [.ref u, .int (Int32.ofNat j), .int ch] h Ls [] (RN fun h' Ls' => Keep h h' [u] ∧ h'.size = h.size ∧ Av Z h' u .byte ((vs.set (2 * j) (hb0 ch)).set (2 * j + 1) (hb1 ch)) ∧ Ls = Ls') := by
  refine Con.of_run (plainFor_of_name pn0) hO ?_
  intro p e s m below meth c F hs
  refine ⟨[.val (.ref u), .val (.int (Int32.ofNat j)), .val (.int ch)], by first | rfl | (simp [entryFrame, mkF, argsToLocals, Value.category]; done) | (rcases ref_cases hv with rfl | ⟨va, rfl⟩ <;> rfl), ?_⟩
  have hlen := A.len
  refine Run.getstatic F (w70 hw) Via.refl UA d14_0 ?_
  refine Run.ifYes F d14_3 (t := 28) rfl rfl ?_
  refine Run.iloadN F d14_28 rfl ?_
  refine Run.iconst F d14_29 (z := 1) rfl ?_
  refine Run.ishl F d14_30 ?_
  rw [i32_dbl (by omega)]
  refine Run.istoreN F d14_31 rfl ?_
  dsimp only [List.set]
  refine Run.aloadN F d14_32 rfl rfl ?_
  refine Run.iloadN F d14_33 rfl ?_
  refine Run.iinc F d14_34 (z := 1) rfl rfl ?_
  dsimp only [List.set]
  refine Run.iloadN F d14_37 rfl ?_
  simp only [Jvm.Free.XT.succ32]
  refine Run.getstatic F (w71 hw) Via.refl UH d14_38 ?_
  refine Run.ishr F d14_41 ?_
  refine Run.i2b F d14_42 ?_
  refine Run.bastore F A g (i32_nn (by omega)) (i32_tn (by omega)) (by omega) (narB _) d14_43 ?_
  intro h1 W1 K1 s1 A1
  refine Run.aloadN F d14_44 rfl rfl ?_
  refine Run.iloadN F d14_45 rfl ?_
  refine Run.iloadN F d14_46 rfl ?_
  refine Run.getstatic F (w72 hw) Via.refl UL d14_47 ?_
  refine Run.ishr F d14_50 ?_
  refine Run.i2b F d14_51 ?_
  refine Run.bastore F A1 g (i32_nn (by omega)) (i32_tn (by omega)) (by simp; omega) (narB _) d14_52 ?_
  intro h2 W2 K2 s2 A2
  exact Run.return_ F (by decide) (by decide) d14_53 ⟨K1.trans K2 (allS (Or.inl (List.mem_singleton.mpr rfl)) all0), s2.trans s1, A2, rfl⟩
set_option maxRecDepth 65536 in
set_option maxHeartbeats 4000000 in
theorem c_getChar (l : Launch) (Z : State) (n0 : Nat) (a0 : Array Value) (hw : ∀ d ∈ tables_1, d.before a0 Z = true) (u : Nat) (j : Nat) (ch : Int32) (vs : List Value) (UA : Sta Z Z.heap "java/lang/StringUTF16" "$assertionsDisabled" "Z" (.int 1)) (UH : Sta Z Z.heap "java/lang/StringUTF16" "HI_BYTE_SHIFT" "I" (.int 0)) (UL : Sta Z Z.heap "java/lang/StringUTF16" "LO_BYTE_SHIFT" "I" (.int 8)) (h : Heap) (Ls : Lits) (hO : Old Z n0 h) (A : Av Z h u .byte vs) (h0 : vs[2 * j]? = some (hb0 ch)) (h1 : vs[2 * j + 1]? = some (hb1 ch)) (c0 : 0 ≤ ch.toInt) (c1 : ch.toInt < 65536) :
    Con l Z n0 (⟨"java/lang/StringUTF16", "getChar", "([BI)C"⟩ : MethodName) jdk_52_method_5_code 2 (some .char) ({ frames := 0, cells := 0, slots := 0, locals := 0 } : Room) [.ref u, .int (Int32.ofNat j)] h Ls [] (RV fun v h' Ls' => v = .int ch ∧ h = h' ∧ Ls = Ls') := by
  refine Con.of_run (plainFor_of_name pn0) hO ?_
  intro p e s m below meth c F hs
  refine ⟨[.val (.ref u), .val (.int (Int32.ofNat j))], by first | rfl | (simp [entryFrame, mkF, argsToLocals, Value.category]; done) | (rcases ref_cases hv with rfl | ⟨va, rfl⟩ <;> rfl), ?_⟩
  have hlen := A.len
  have hj := (List.getElem?_eq_some_iff.mp h1).1
  refine Run.getstatic F (w70 hw) Via.refl UA d15_0 ?_
  refine Run.ifYes F d15_3 (t := 28) rfl rfl ?_
  refine Run.iloadN F d15_28 rfl ?_
  refine Run.iconst F d15_29 (z := 1) rfl ?_
  refine Run.ishl F d15_30 ?_
  rw [i32_dbl (by omega)]
  refine Run.istoreN F d15_31 rfl ?_
  dsimp only [List.set]
  refine Run.aloadN F d15_32 rfl rfl ?_
  refine Run.iloadN F d15_33 rfl ?_
  refine Run.iinc F d15_34 (z := 1) rfl rfl ?_
  dsimp only [List.set]
  simp only [Jvm.Free.XT.succ32]
  refine Run.baload F A (i32_nn (by omega)) (i32_tn (by omega)) h0 d15_37 ?_
  refine Run.sipush F d15_38 (z := 255) rfl ?_
  refine Run.iand F d15_41 ?_
  refine Run.getstatic F (w71 hw) Via.refl UH d15_42 ?_
  refine Run.ishl F d15_45 ?_
  refine Run.aloadN F d15_46 rfl rfl ?_
  refine Run.iloadN F d15_47 rfl ?_
  refine Run.baload F A (i32_nn (by omega)) (i32_tn (by omega)) h1 d15_48 ?_
  refine Run.sipush F d15_49 (z := 255) rfl ?_
  refine Run.iand F d15_52 ?_
  refine Run.getstatic F (w72 hw) Via.refl UL d15_53 ?_
  refine Run.ishl F d15_56 ?_
  refine Run.ior F d15_57 ?_
  refine Run.i2c F d15_58 ?_
  rw [utf_rt c0 c1]
  exact Run.ireturn F (by simp) (narrow_char c0 c1) (by decide) (by decide) d15_59 ⟨rfl, rfl, rfl⟩
set_option maxRecDepth 65536 in
set_option maxHeartbeats 4000000 in
theorem c_nbLen (l : Launch) (Z : State) (n0 : Nat) (a0 : Array Value) (hw : ∀ d ∈ tables_1, d.before a0 Z = true) (n : Nat) (h : Heap) (Ls : Lits) (hO : Old Z n0 h) (hn : n ≤ 48) :
    Con l Z n0 (⟨"java/lang/StringUTF16", "newBytesLength", "(I)I"⟩ : MethodName) jdk_52_method_3_code 1 (some .int) ({ frames := 0, cells := 0, slots := 0, locals := 0 } : Room) [.int (Int32.ofNat n)] h Ls [] (RV fun v h' Ls' => v = .int (Int32.ofNat (2 * n)) ∧ h = h' ∧ Ls = Ls') := by
  refine Con.of_run (plainFor_of_name pn0) hO ?_
  intro p e s m below meth c F hs
  refine ⟨[.val (.int (Int32.ofNat n))], by first | rfl | (simp [entryFrame, mkF, argsToLocals, Value.category]; done) | (rcases ref_cases hv with rfl | ⟨va, rfl⟩ <;> rfl), ?_⟩
  have e : (Int32.ofNat n).toInt = n := i32_ti (by omega)
  refine Run.iloadN F d13_0 rfl ?_
  refine Run.if_ge F d13_1 (t := 12) rfl e (fun _ => ?_) (fun q => by omega)
  refine Run.iloadN F d13_12 rfl ?_
  refine Run.ldcInt F (w66 hw) d13_13 ?_
  refine Run.icmp_lt F d13_15 (t := 55) rfl e (yi := 1073741823) rfl (fun _ => ?_) (fun q => by omega)
  refine Run.iloadN F d13_55 rfl ?_
  refine Run.iconst F d13_56 (z := 1) rfl ?_
  refine Run.ishl F d13_57 ?_
  rw [i32_dbl (by omega)]
  exact Run.ireturn F (by simp) rfl (by decide) (by decide) d13_58 ⟨rfl, rfl, rfl⟩
set_option maxRecDepth 65536 in
set_option maxHeartbeats 4000000 in
theorem c_nbFor (l : Launch) (Z : State) (n0 : Nat) (a0 : Array Value) (hw : ∀ d ∈ tables_1, d.before a0 Z = true) (n : Nat) (h : Heap) (Ls : Lits) (hO : Old Z n0 h) (hn : n ≤ 48) :
    Con l Z n0 (⟨"java/lang/StringUTF16", "newBytesFor", "(I)[B"⟩ : MethodName) jdk_52_method_2_code 1 (some (.array .byte)) ({ frames := 1, cells := 1, slots := 96, locals := 12 } : Room) [.int (Int32.ofNat n)] h Ls [] (RV fun v h' Ls' => ∃ b : Nat, v = .ref b ∧ Keep h h' [] ∧ b = h.size ∧ Exa Z h' b "[B" ∧ Av Z h' b .byte (List.replicate (2 * n) (.int 0)) ∧ Ls = Ls') := by
  refine Con.of_run (plainFor_of_name pn0) hO ?_
  intro p e s m below meth c F hs
  refine ⟨[.val (.int (Int32.ofNat n))], by first | rfl | (simp [entryFrame, mkF, argsToLocals, Value.category]; done) | (rcases ref_cases hv with rfl | ⟨va, rfl⟩ <;> rfl), ?_⟩
  refine Run.iloadN F d12_0 rfl ?_
  refine Run.callStatic F (w63 hw) (w64 hw) (w28 hw) (w65 hw) (c_nbLen l Z n0 a0 hw n h Ls hO hn) rfl pd0 rfl rfl rfl rfl (by decide) (by decide) rfl d12_1 ?_
  rintro _ _ _ ⟨_, rfl, rfl, rfl, rfl⟩ _ _
  refine Run.newarrayE (aty := .byte) F (w3 hw) (ad := "[B") (by decide) (i32_nn (by omega)) (i32_tn (by omega)) 96 (by omega) rfl (by decide) (by decide) d12_4 ?_
  intro h1 b hb K1 lt1 A1 E1
  exact Run.areturn F rfl rfl (by decide) (by decide) d12_6 ⟨b, rfl, K1, hb, E1, A1, rfl⟩
set_option maxRecDepth 65536 in
set_option maxHeartbeats 4000000 in
theorem c_toBytes16 (l : Launch) (Z : State) (n0 : Nat) (a0 : Array Value) (hw : ∀ d ∈ tables_1, d.before a0 Z = true) (t : Nat) (cs : List Int32) (UA : Sta Z Z.heap "java/lang/StringUTF16" "$assertionsDisabled" "Z" (.int 1)) (UH : Sta Z Z.heap "java/lang/StringUTF16" "HI_BYTE_SHIFT" "I" (.int 0)) (UL : Sta Z Z.heap "java/lang/StringUTF16" "LO_BYTE_SHIFT" "I" (.int 8)) (h : Heap) (Ls : Lits) (hO : Old Z n0 h) (At : Av Z h t .char (cs.map Value.int)) (hcap : cs.length ≤ 48) :
    Con l Z n0 (⟨"java/lang/StringUTF16", "toBytes", "([CII)[B"⟩ : MethodName) jdk_52_method_14_code 5 (some (.array .byte)) ({ frames := 2, cells := 1, slots := 96, locals := 24 } : Room) [.ref t, .int 0, .int (Int32.ofNat cs.length)] h Ls [] (RV fun v h' Ls' => ∃ b : Nat, v = .ref b ∧ Keep h h' [] ∧ h.size ≤ b ∧ Av Z h' b .byte (u16 cs) ∧ Ls = Ls') := by
  refine Con.of_run (plainFor_of_name pn0) hO ?_
  intro p e s m below meth c F hs
  refine ⟨[.val (.ref t), .val (.int 0), .val (.int (Int32.ofNat cs.length)), .unset, .unset], by first | rfl | (simp [entryFrame, mkF, argsToLocals, Value.category]; done) | (rcases ref_cases hv with rfl | ⟨va, rfl⟩ <;> rfl), ?_⟩
  refine Run.iloadN F d11_0 rfl ?_
  refine Run.callStatic F (w60 hw) (w61 hw) (w28 hw) (w62 hw) (c_nbFor l Z n0 a0 hw cs.length h Ls hO hcap) rfl pd1 rfl rfl rfl rfl (by decide) (by decide) rfl d11_1 ?_
  rintro _ h1 _ ⟨_, rfl, b, rfl, K1, hb, -, A1, rfl⟩ hO1 _
  have hn : n0 ≤ b := by rw [hb, ← hO.1]; exact hO.2.1
  have htb : t ≠ b := by have := At.lt; omega
  refine Run.astoreN F d11_4 rfl rfl ?_
  dsimp only [List.set]
  refine Run.iconst F d11_5 (z := 0) rfl ?_
  refine Run.istore F d11_6 rfl ?_
  dsimp only [List.set]
  refine Run.rec (fun r h' k n Ls' L st => ∃ i, i + r = cs.length ∧ k = 1 ∧ n = 96 ∧ Ls = Ls' ∧ Keep h1 h' [b] ∧ Old Z n0 h' ∧ Av Z h' b .byte (u16 (cs.take i) ++ List.replicate (2 * r) (.int 0)) ∧ L = [.val (.ref t), .val (.int (Int32.ofNat i)), .val (.int (Int32.ofNat cs.length)), .val (.ref b), .val (.int (Int32.ofNat i))] ∧ st = []) ?_ cs.length _ _ _ _ _ _ ⟨0, by omega, rfl, rfl, rfl, Keep.refl _ _, hO1, by simpa [u16] using A1, rfl, rfl⟩
  rintro r h' k n Ls' L st ⟨i, hi, rfl, rfl, rfl, K, OO, A, rfl, rfl⟩ ih
  refine Run.iload F d11_8 rfl ?_
  refine Run.iloadN F d11_10 rfl ?_
  refine Run.icmp_ge F d11_11 (t := 32) rfl (i32_ti (by omega)) (i32_ti (by omega)) (fun q => ?_) (fun q => ?_)
  · have hr : r = 0 := by omega
    have hi' : i = cs.length := by omega
    subst hr hi'
    refine Run.aloadN F d11_32 rfl rfl ?_
    exact Run.areturn F rfl rfl (by decide) (by decide) d11_33 ⟨b, rfl, K1.trans K (allS (Or.inr (by omega)) all0), by omega, by simpa using A, rfl⟩
  · obtain ⟨r, rfl⟩ : ∃ r', r = r' + 1 := ⟨r - 1, by omega⟩
    obtain ⟨c1, hc1⟩ : ∃ c1, cs[i]? = some c1 := ⟨_, List.getElem?_eq_getElem (by omega)⟩
    refine Run.aloadN F d11_14 rfl rfl ?_
    refine Run.iload F d11_15 rfl ?_
    refine Run.aloadN F d11_17 rfl rfl ?_
    refine Run.iloadN F d11_18 rfl ?_
    refine Run.caload F ((At.keep K1 nin0).keep K (ninS htb nin0)) (i32_nn (by omega)) (i32_tn (by omega)) (mapInt_get hc1) d11_19 ?_
    refine Run.callStatic F (w67 hw) (w68 hw) (w28 hw) (w69 hw) (c_putChar l Z n0 a0 hw b i c1 _ UA UH UL h' Ls OO A hn (by rw [List.length_append, u16_len, List.length_replicate, List.length_take]; omega)) rfl pd2 rfl rfl rfl rfl (by decide) (by decide) rfl d11_20 ?_
    rintro _ h2 _ ⟨rfl, K2, s2, A2, rfl⟩ O2 _
    show Run _ _ _ _ _ _ _ _ _ _ _ _ _ _ _ _ _ _ _ _ []
    refine Run.iinc F d11_23 (z := 1) rfl rfl ?_
    dsimp only [List.set]
    refine Run.iinc F d11_26 (z := 1) rfl rfl ?_
    dsimp only [List.set]
    refine Run.goto F d11_29 (t := 8) rfl ?_
    refine ih r _ _ _ _ _ _ (by omega) ⟨i + 1, by omega, rfl, rfl, rfl, K.trans K2 (allS (Or.inl (List.mem_singleton.mpr rfl)) all0), O2, ?_, ?_, rfl⟩
    · rw [u16_set hi hc1] at A2; exact A2
    · simp only [Jvm.Free.XT.succ32]
set_option maxRecDepth 65536 in
set_option maxHeartbeats 4000000 in
theorem c_cmpG (l : Launch) (Z : State) (n0 : Nat) (a0 : Array Value) (hw : ∀ d ∈ tables_1, d.before a0 Z = true) (t b : Nat) (cs : List Int32) (h : Heap) (Ls : Lits) (hO : Old Z n0 h) (At : Av Z h t .char (cs.map Value.int)) (Ab : Av Z h b .byte (List.replicate cs.length (.int 0))) (g : n0 ≤ b) (htb : t ≠ b) (hcs : ∀ c ∈ cs, 0 ≤ c.toInt ∧ c.toInt < 65536) :
    Con l Z n0 (⟨"java/lang/StringUTF16", "compress", "([CI[BII)I"⟩ : MethodName) jdk_52_method_21_code 7 (some .int) ({ frames := 0, cells := 0, slots := 0, locals := 0 } : Room) [.ref t, .int 0, .ref b, .int 0, .int (Int32.ofNat cs.length)] h Ls [] (RV fun v h' Ls' => ∃ i, v = .int (Int32.ofNat i) ∧ i ≤ cs.length ∧ Keep h h' [b] ∧ h'.size = h.size ∧ (i = cs.length → lat cs = true ∧ Av Z h' b .byte (cs.map lb)) ∧ (i < cs.length → ∃ ch, cs[i]? = some ch ∧ 256 ≤ ch.toInt) ∧ Ls = Ls') := by
  refine Con.of_run (plainFor_of_name pn0) hO ?_
  intro p e s m below meth c F hs
  refine ⟨[.val (.ref t), .val (.int 0), .val (.ref b), .val (.int 0), .val (.int (Int32.ofNat cs.length)), .unset, .unset], by first | rfl | (simp [entryFrame, mkF, argsToLocals, Value.category]; done) | (rcases ref_cases hv with rfl | ⟨va, rfl⟩ <;> rfl), ?_⟩
  have hlen : cs.length < 2 ^ 31 := by simpa using At.len
  refine Run.iconst F d6_0 (z := 0) rfl ?_
  refine Run.istore F d6_1 rfl ?_
  dsimp only [List.set]
  refine Run.rec (fun r h' k n Ls' L st => ∃ i x6, i + r = cs.length ∧ okSlot x6 = true ∧ k = 0 ∧ n = 0 ∧ Ls = Ls' ∧ lat (cs.take i) = true ∧ Keep h h' [b] ∧ h'.size = h.size ∧ Av Z h' b .byte ((cs.take i).map lb ++ List.replicate r (.int 0)) ∧ L = [.val (.ref t), .val (.int (Int32.ofNat i)), .val (.ref b), .val (.int (Int32.ofNat i)), .val (.int (Int32.ofNat cs.length)), .val (.int (Int32.ofNat i)), x6] ∧ st = []) ?_ cs.length _ _ _ _ _ _ ⟨0, .unset, by omega, rfl, rfl, rfl, rfl, rfl, Keep.refl _ _, rfl, by simpa using Ab, rfl, rfl⟩
  rintro r h' k n Ls' L st ⟨i, x6, hi, hx, rfl, rfl, rfl, hla, K, hsz, A, rfl, rfl⟩ ih
  refine Run.iload F d6_3 rfl ?_
  refine Run.iload F d6_5 rfl ?_
  refine Run.icmp_ge F d6_7 (t := 44) rfl (i32_ti (by omega)) (i32_ti hlen) (fun q => ?_) (fun q => ?_)
  · refine Run.iload F d6_44 rfl ?_
    have hr : r = 0 := by omega
    have hi' : i = cs.length := by omega
    subst hr hi'
    exact Run.ireturn F (by simp) rfl (by decide) (by decide) d6_46 ⟨cs.length, rfl, Nat.le_refl _, K, hsz, fun _ => ⟨by simpa using hla, by simpa using A⟩, fun q => absurd q (Nat.lt_irrefl _), rfl⟩
  · obtain ⟨r, rfl⟩ : ∃ r', r = r' + 1 := ⟨r - 1, by omega⟩
    have hlt : i < cs.length := by omega
    obtain ⟨c1, hc1⟩ : ∃ c1, cs[i]? = some c1 := ⟨_, List.getElem?_eq_getElem hlt⟩
    have hc2 := hcs c1 (List.mem_of_getElem? hc1)
    refine Run.aloadN F d6_10 rfl rfl ?_
    refine Run.iloadN F d6_11 rfl ?_
    refine Run.caload F (At.keep K (ninS htb nin0)) (i32_nn (by omega)) (i32_tn (by omega)) (mapInt_get hc1) d6_12 ?_
    refine Run.istore F d6_13 (by simp [hx]) ?_
    dsimp only [List.set]
    refine Run.iload F d6_15 rfl ?_
    refine Run.sipush F d6_17 (z := 255) rfl ?_
    refine Run.icmp_le F d6_20 (t := 26) rfl rfl (yi := 255) rfl (fun q1 => ?_) (fun q1 => ?_)
    · refine Run.aloadN F d6_26 rfl rfl ?_
      refine Run.iloadN F d6_27 rfl ?_
      refine Run.iload F d6_28 rfl ?_
      refine Run.i2b F d6_30 ?_
      refine Run.bastore F A g (i32_nn (by omega)) (i32_tn (by omega)) (by simp; omega) (narB c1) d6_31 ?_
      intro h2 W2 K2 hs2 A2
      refine Run.iinc F d6_32 (z := 1) rfl rfl ?_
      dsimp only [List.set]
      refine Run.iinc F d6_35 (z := 1) rfl rfl ?_
      dsimp only [List.set]
      refine Run.iinc F d6_38 (z := 1) rfl rfl ?_
      dsimp only [List.set]
      refine Run.goto F d6_41 (t := 3) rfl ?_
      refine ih r _ _ _ _ _ _ (by omega) ⟨i + 1, .val (.int c1), by omega, rfl, rfl, rfl, rfl, ?_, K.trans K2 (allS (Or.inl (List.mem_singleton.mpr rfl)) all0), hs2.trans hsz, ?_, by simp only [Jvm.Free.XT.succ32], rfl⟩
      · rw [List.take_succ, hc1]; simp only [lat, List.all_append, Bool.and_eq_true] at hla ⊢; exact ⟨hla, by simp; omega⟩
      · rw [← take_set hi hc1]; exact A2
    · refine Run.iload F d6_23 rfl ?_
      exact Run.ireturn F (by simp) rfl (by decide) (by decide) d6_25 ⟨i, rfl, by omega, K, hsz, fun q => by omega, fun _ => ⟨c1, hc1, by omega⟩, rfl⟩
set_option maxRecDepth 65536 in
set_option maxHeartbeats 4000000 in
theorem c_cmpArrG (l : Launch) (Z : State) (n0 : Nat) (a0 : Array Value) (hw : ∀ d ∈ tables_1, d.before a0 Z = true) (t : Nat) (cs : List Int32) (UA : Sta Z Z.heap "java/lang/StringUTF16" "$assertionsDisabled" "Z" (.int 1)) (UH : Sta Z Z.heap "java/lang/StringUTF16" "HI_BYTE_SHIFT" "I" (.int 0)) (UL : Sta Z Z.heap "java/lang/StringUTF16" "LO_BYTE_SHIFT" "I" (.int 8)) (h : Heap) (Ls : Lits) (hO : Old Z n0 h) (At : Av Z h t .char (cs.map Value.int)) (hcap : cs.length ≤ 48) (hcs : ∀ c ∈ cs, 0 ≤ c.toInt ∧ c.toInt < 65536) :
    Con l Z n0 (⟨"java/lang/StringUTF16", "compress", "([CII)[B"⟩ : MethodName) jdk_52_method_16_code 6 (some (.array .byte)) ({ frames := 3, cells := 2, slots := 144, locals := 40 } : Room) [.ref t, .int 0, .int (Int32.ofNat cs.length)] h Ls [] (RV fun v h' Ls' => ∃ b : Nat, v = .ref b ∧ Keep h h' [] ∧ h.size ≤ b ∧ Av Z h' b .byte (byOf cs) ∧ Ls = Ls') := by
  refine Con.of_run (plainFor_of_name pn0) hO ?_
  intro p e s m below meth c F hs
  refine ⟨[.val (.ref t), .val (.int 0), .val (.int (Int32.ofNat cs.length)), .unset, .unset, .unset], by first | rfl | (simp [entryFrame, mkF, argsToLocals, Value.category]; done) | (rcases ref_cases hv with rfl | ⟨va, rfl⟩ <;> rfl), ?_⟩
  have hlen : cs.length < 2 ^ 31 := by simpa using At.len
  refine Run.iloadN F d5_0 rfl ?_
  refine Run.newarray (aty := .byte) F (w3 hw) (i32_nn hlen) (i32_tn hlen) 48 hcap rfl (by decide) (by decide) d5_1 ?_
  intro h1 b hb K1 lt1 A1
  have hn : n0 ≤ b := by rw [hb, ← hO.1]; exact hO.2.1
  have htb : t ≠ b := by have := At.lt; omega
  have hO1 : Old Z n0 h1 := hO.keep K1 all0
  refine Run.astoreN F d5_3 rfl rfl ?_
  dsimp only [List.set]
  refine Run.aloadN F d5_4 rfl rfl ?_
  refine Run.iloadN F d5_5 rfl ?_
  refine Run.aloadN F d5_6 rfl rfl ?_
  refine Run.iconst F d5_7 (z := 0) rfl ?_
  refine Run.iloadN F d5_8 rfl ?_
  refine Run.callStatic F (w30 hw) (w31 hw) (w28 hw) (w32 hw) (c_cmpG l Z n0 a0 hw t b cs h1 Ls hO1 (At.keep K1 nin0) A1 hn htb hcs) rfl pd3 rfl rfl rfl rfl (by decide) (by decide) rfl d5_9 ?_
  rintro _ h2 _ ⟨_, rfl, i, rfl, hi, K2, hs2, q1, q2, rfl⟩ hO2 _
  refine Run.istore F d5_12 rfl ?_
  dsimp only [List.set]
  refine Run.iload F d5_14 rfl ?_
  refine Run.iloadN F d5_16 rfl ?_
  refine Run.icmp_eq F d5_17 (t := 57) rfl (i32_ti (by omega)) (i32_ti hlen) (fun q => ?_) (fun q => ?_)
  · obtain ⟨hla, A2⟩ := q1 (by omega)
    refine Run.aloadN F d5_57 rfl rfl ?_
    exact Run.areturn F rfl rfl (by decide) (by decide) d5_58 ⟨b, rfl, K1.trans K2 (allS (Or.inr (by omega)) all0), by omega, by rw [byOf, hla]; exact A2, rfl⟩
  · obtain ⟨ch, hch, hbig⟩ := q2 (by omega)
    have hc2 := hcs ch (List.mem_of_getElem? hch)
    refine Run.aloadN F d5_20 rfl rfl ?_
    refine Run.iloadN F d5_21 rfl ?_
    refine Run.iloadN F d5_22 rfl ?_
    refine Run.callStatic F (w57 hw) (w58 hw) (w28 hw) (w59 hw) (c_toBytes16 l Z n0 a0 hw t cs UA UH UL h2 Ls hO2 ((At.keep K1 nin0).keep K2 (ninS htb nin0)) hcap) rfl pd4 rfl rfl rfl rfl (by decide) (by decide) rfl d5_23 ?_
    rintro _ h3 _ ⟨_, rfl, u, rfl, K3, hu, A3, rfl⟩ hO3 _
    refine Run.astore F d5_26 rfl rfl ?_
    dsimp only [List.set]
    refine Run.aload F d5_28 rfl rfl ?_
    refine Run.iload F d5_30 rfl ?_
    refine Run.callStatic F (w73 hw) (w74 hw) (w28 hw) (w75 hw) (c_getChar l Z n0 a0 hw u i ch (u16 cs) UA UH UL h3 Ls hO3 A3 (u16_get hch).1 (u16_get hch).2 hc2.1 hc2.2) rfl pd5 rfl rfl rfl rfl (by decide) (by decide) rfl d5_32 ?_
    rintro _ _ _ ⟨_, rfl, rfl, rfl, rfl⟩ _ _
    refine Run.sipush F d5_35 (z := 255) rfl ?_
    refine Run.icmp_gt F d5_38 (t := 54) rfl rfl (yi := 255) rfl (fun _ => ?_) (fun q => by omega)
    have hla : lat cs = false := by
      rw [lat, List.all_eq_false]; exact ⟨ch, List.mem_of_getElem? hch, by simp; omega⟩
    refine Run.aload F d5_54 rfl rfl ?_
    exact Run.areturn F rfl rfl (by decide) (by decide) d5_56 ⟨u, rfl, (K1.trans K2 (allS (Or.inr (by omega)) all0)).trans K3 all0, by omega, by rw [byOf, hla]; exact A3, rfl⟩
set_option maxRecDepth 65536 in
set_option maxHeartbeats 4000000 in
theorem c_initG (l : Launch) (Z : State) (n0 : Nat) (a0 : Array Value) (hw : ∀ d ∈ tables_1, d.before a0 Z = true) (x t : Nat) (cs : List Int32) {cz : Int32} (SC : Sta Z Z.heap "java/lang/String" "COMPACT_STRINGS" "Z" (.int cz)) (hcz : cz.toInt ≠ 0) (UA : Sta Z Z.heap "java/lang/StringUTF16" "$assertionsDisabled" "Z" (.int 1)) (UH : Sta Z Z.heap "java/lang/StringUTF16" "HI_BYTE_SHIFT" "I" (.int 0)) (UL : Sta Z Z.heap "java/lang/StringUTF16" "LO_BYTE_SHIFT" "I" (.int 8)) (h : Heap) (Ls : Lits) (hO : Old Z n0 h) (E : Exa Z h x "java/lang/String") (Fv : Fld Z h x "java/lang/String" "value" "[B" .null) (Fc : Fld Z h x "java/lang/String" "coder" "B" (.int 0)) (g : n0 ≤ x) (At : Av Z h t .char (cs.map Value.int)) (hpos : 0 < cs.length) (hcap : cs.length ≤ 48) (hcs : ∀ c ∈ cs, 0 ≤ c.toInt ∧ c.toInt < 65536) :
    Con l Z n0 (⟨"java/lang/String", "<init>", "([CIILjava/lang/Void;)V"⟩ : MethodName) jdk_42_method_149_code 6 none ({ frames := 4, cells := 2, slots := 144, locals := 57 } : Room) [.ref x, .ref t, .int 0, .int (Int32.ofNat cs.length), .null] h Ls [] (RN fun h' Ls' => ∃ b : Nat, Keep h h' [x] ∧ h.size ≤ b ∧ Str Z h' x b (coOf cs) (byOf cs) ∧ Ls = Ls') := by
  refine Con.of_run (plainFor_of_name pn1) hO ?_
  intro p e s m below meth c F hs
  refine ⟨[.val (.ref x), .val (.ref t), .val (.int 0), .val (.int (Int32.ofNat cs.length)), .val .null, .unset], by first | rfl | (simp [entryFrame, mkF, argsToLocals, Value.category]; done) | (rcases ref_cases hv with rfl | ⟨va, rfl⟩ <;> rfl), ?_⟩
  have hlen : cs.length < 2 ^ 31 := by simpa using At.len
  have hco : (XT.ushr (Int32.ofNat cs.length - Int32.ofNat (byOf cs).length) 31).toInt8.toInt32 = coOf cs := by
    cases hl : lat cs
    · rw [byOf, coOf, hl, if_neg (by simp), if_neg (by simp), u16_len]; exact coder1 hpos (by omega)
    · rw [byOf, coOf, hl, if_pos rfl, if_pos rfl, List.length_map]; exact coder0 _
  have hn8 : narrow .byte (.int (coOf cs)) = .int (coOf cs) := by rw [coOf]; split <;> rfl
  have hf8 : fits .byte (.int (coOf cs)) = true := by rw [coOf]; split <;> rfl
  have hne : Jvm.RoadKit.slotOf Z "java/lang/String" "coder" "B" ≠ Jvm.RoadKit.slotOf Z "java/lang/String" "value" "[B" := slot_ne (a0 := a0) (C := "java/lang/String") (Or.inr (w5 hw)) (Or.inr (w4 hw)) (by decide) (t := .byte) (t' := .array .byte) (by decide) (by decide)
  refine Run.aloadN F d3_0 rfl rfl ?_
  refine Run.objInit F (w22 hw) (w23 hw) (w24 hw) rfl rfl rfl d3_1 ?_
  refine Run.iloadN F d3_4 rfl ?_
  refine Run.if_ne F d3_5 (t := 27) rfl (i32_ti hlen) (fun _ => ?_) (fun q => by omega)
  refine Run.getstatic F (w25 hw) Via.refl SC d3_27 ?_
  refine Run.if_eq F d3_30 (t := 58) rfl rfl (fun q => absurd q hcz) (fun _ => ?_)
  refine Run.aloadN F d3_33 rfl rfl ?_
  refine Run.iloadN F d3_34 rfl ?_
  refine Run.iloadN F d3_35 rfl ?_
  refine Run.callStatic F (w26 hw) (w27 hw) (w28 hw) (w29 hw) (c_cmpArrG l Z n0 a0 hw t cs UA UH UL h Ls hO At hcap hcs) rfl pd4 rfl rfl rfl rfl (by decide) (by decide) rfl d3_36 ?_
  rintro _ h1 _ ⟨_, rfl, b, rfl, K1, hb, A1, rfl⟩ hO1 _
  refine Run.astore F d3_39 rfl rfl ?_
  dsimp only [List.set]
  refine Run.aloadN F d3_41 rfl rfl ?_
  refine Run.aload F d3_42 rfl rfl ?_
  refine Run.iloadN F d3_44 rfl ?_
  refine Run.callStatic F (w33 hw) (w34 hw) (w28 hw) (w35 hw) (c_coderLen l Z n0 a0 hw b (Int32.ofNat cs.length) (coOf cs) (byOf cs) h1 Ls hO1 A1 hco hn8) rfl pd6 rfl rfl rfl rfl (by decide) (by decide) rfl d3_45 ?_
  rintro _ _ _ ⟨_, rfl, rfl, rfl, rfl⟩ _ _
  refine Run.putfield F (w36 hw) Via.refl (Fc.keep K1 nin0) (E.keep K1) g (Or.inr ⟨(w5 hw), rfl, rfl⟩) (w2 hw) (ty := .byte) (by decide) (v' := .int (coOf cs)) hn8 hf8 d3_48 ?_
  intro h2 W2 K2 hs2 F2
  refine Run.aloadN F d3_51 rfl rfl ?_
  refine Run.aload F d3_52 rfl rfl ?_
  have hxb : b ≠ x := by have := (ltE E); omega
  have Fv2 : Fld Z h2 x "java/lang/String" "value" "[B" .null := (Fv.keep K1 nin0).other W2 (Or.inr (Ne.symm hne))
  have E2 : Exa Z h2 x "java/lang/String" := (E.keep K1).keep K2
  refine Run.putfield F (w37 hw) Via.refl Fv2 E2 g (Or.inr ⟨(w4 hw), rfl, rfl⟩) (w2 hw) (ty := (.array .byte)) (by decide) (v' := .ref b) rfl rfl d3_54 ?_
  intro h3 W3 K3 hs3 F3
  have K13 : Keep h h3 [x] := ((K1.mono (ws' := [x]) (by simp)).trans K2 (allS (Or.inl (List.mem_singleton.mpr rfl)) all0)).trans K3 (allS (Or.inl (List.mem_singleton.mpr rfl)) all0)
  exact Run.return_ F (by decide) (by decide) d3_57 ⟨b, K13, hb, ⟨E2.keep K3, F2.other W3 (Or.inr hne), F3, (A1.keep K2 (ninS hxb nin0)).keep K3 (ninS hxb nin0)⟩, rfl⟩
set_option maxRecDepth 65536 in
set_option maxHeartbeats 4000000 in
theorem c_initE (l : Launch) (Z : State) (n0 : Nat) (a0 : Array Value) (hw : ∀ d ∈ tables_1, d.before a0 Z = true) (x t : Nat) (lt : List (String × Addr)) (wS : ∀ a ∈ Bundle.stringAtoms, a.before a0 Z = true) (hh : Jvm.Lit.constHeld Z "java/lang/String" 7) (hcw : Jvm.Lit.compactW.before a0 Z = true) (h : Heap) (Ls : Lits) (hO : Old Z n0 h) (E : Exa Z h x "java/lang/String") (Fv : Fld Z h x "java/lang/String" "value" "[B" .null) (Fc : Fld Z h x "java/lang/String" "coder" "B" (.int 0)) (g : n0 ≤ x) (hLs : Ls = some lt) (hlt : ∀ t ∈ lt, t.1 = "" → ∃ b : Nat, Str Z h t.2 b 0 [] ∧ t.2 ≠ x ∧ b ≠ x) :
    Con l Z n0 (⟨"java/lang/String", "<init>", "([CIILjava/lang/Void;)V"⟩ : MethodName) jdk_42_method_149_code 6 none ({ frames := 1, cells := 4, slots := 8, locals := 12 } : Room) [.ref x, .ref t, .int 0, .int 0, .null] h Ls [] (RN fun h' Ls' => ∃ b a1 b1 a2 b2 : Nat, Keep h h' [x] ∧ Str Z h' x b 0 [] ∧ Ls' = some (("", a2) :: ("", a1) :: lt) ∧ Str Z h' a1 b1 0 [] ∧ Str Z h' a2 b2 0 [] ∧ (b ≠ x ∧ a1 ≠ x ∧ b1 ≠ x ∧ a2 ≠ x ∧ b2 ≠ x)) := by
  refine Con.of_run (plainFor_of_name pn1) hO ?_
  intro p e s m below meth c F hs
  refine ⟨[.val (.ref x), .val (.ref t), .val (.int 0), .val (.int 0), .val .null, .unset], by first | rfl | (simp [entryFrame, mkF, argsToLocals, Value.category]; done) | (rcases ref_cases hv with rfl | ⟨va, rfl⟩ <;> rfl), ?_⟩
  subst hLs
  have e0 : litB "" = [] := by simp [litB]
  have hne : Jvm.RoadKit.slotOf Z "java/lang/String" "coder" "B" ≠ Jvm.RoadKit.slotOf Z "java/lang/String" "value" "[B" := slot_ne (a0 := a0) (C := "java/lang/String") (Or.inr (w5 hw)) (Or.inr (w4 hw)) (by decide) (t := .byte) (t' := .array .byte) (by decide) (by decide)
  refine Run.aloadN F d3_0 rfl rfl ?_
  refine Run.objInit F (w22 hw) (w23 hw) (w24 hw) rfl rfl rfl d3_1 ?_
  refine Run.iloadN F d3_4 rfl ?_
  refine Run.if_ne F d3_5 (t := 27) rfl rfl (fun q => absurd rfl q) (fun _ => ?_)
  refine Run.aloadN F d3_8 rfl rfl ?_
  refine Run.ldcS (P := fun a b => a ≠ x ∧ b ≠ x) F (w56 hw) wS hh hcw (by simp) (by rw [e0]; exact hlt) 0 (by simp) rfl (by decide) (by decide) d3_9 ?_
  intro h1 a1 b1 K1 S1 p1
  rw [e0] at S1
  have lx := (ltE E)
  have p1' : a1 ≠ x ∧ b1 ≠ x := by rcases p1 with ⟨u, v⟩ | ⟨u, v⟩ | ⟨u, v⟩ <;> first | exact ⟨u, v⟩ | (constructor <;> omega)
  refine Run.getfield F (host := "") (Or.inl (w37 hw)) Via.refl S1.2.2.1 d3_11 ?_
  refine Run.putfield F (w37 hw) Via.refl (Fv.keep K1 nin0) (E.keep K1) g (Or.inr ⟨(w4 hw), rfl, rfl⟩) (w2 hw) (ty := (.array .byte)) (by decide) (v' := .ref b1) rfl rfl d3_14 ?_
  intro h2 W2 K2 hs2 F2
  have S1' : Str Z h2 a1 b1 0 [] := S1.keep K2 (ninS p1'.1 nin0) (ninS p1'.2 nin0)
  have E2 : Exa Z h2 x "java/lang/String" := (E.keep K1).keep K2
  refine Run.aloadN F d3_17 rfl rfl ?_
  refine Run.ldcS (P := fun a b => a ≠ x ∧ b ≠ x) F (w56 hw) wS hh hcw (by simp) (by
    rw [e0]; intro t ht he
    rcases List.mem_cons.mp ht with rfl | ht
    · exact ⟨b1, S1', p1'⟩
    · obtain ⟨b, q1, q2, q3⟩ := hlt t ht he
      exact ⟨b, (q1.keep K1 nin0 nin0).keep K2 (ninS q2 nin0) (ninS q3 nin0), q2, q3⟩) 0 (by simp) (by decide) (by decide) (by decide) d3_18 ?_
  intro h3 a2 b2 K3 S2 p2
  rw [e0] at S2
  have l2 := (ltE E2)
  have p2' : a2 ≠ x ∧ b2 ≠ x := by rcases p2 with ⟨u, v⟩ | ⟨u, v⟩ | ⟨u, v⟩ <;> first | exact ⟨u, v⟩ | (constructor <;> omega)
  refine Run.getfield F (host := "") (Or.inl (w36 hw)) Via.refl S2.2.1 d3_20 ?_
  refine Run.putfield F (w36 hw) Via.refl (((Fc.keep K1 nin0).other W2 (Or.inr hne)).keep K3 nin0) (E2.keep K3) g (Or.inr ⟨(w5 hw), rfl, rfl⟩) (w2 hw) (ty := .byte) (by decide) (v' := .int 0) rfl rfl d3_23 ?_
  intro h4 W4 K4 hs4 F4
  have K04 : Keep h h4 [x] := ((((K1.mono (ws' := [x]) (by simp)).trans K2 (allS (Or.inl (List.mem_singleton.mpr rfl)) all0)).trans K3 all0).trans K4 (allS (Or.inl (List.mem_singleton.mpr rfl)) all0))
  have Fx4 : Fld Z h4 x "java/lang/String" "value" "[B" (.ref b1) := (F2.keep K3 nin0).other W4 (Or.inr (Ne.symm hne))
  exact Run.return_ F (by decide) (by decide) d3_26 ⟨b1, a1, b1, a2, b2, K04, ⟨(E2.keep K3).keep K4, F4, Fx4, (S1'.2.2.2.keep K3 nin0).keep K4 (ninS p1'.2 nin0)⟩, rfl, (S1'.keep K3 nin0 nin0).keep K4 (ninS p1'.1 nin0) (ninS p1'.2 nin0), S2.keep K4 (ninS p2'.1 nin0) (ninS p2'.2 nin0), p1'.2, p1'.1, p1'.2, p2'.1, p2'.2⟩
set_option maxRecDepth 65536 in
set_option maxHeartbeats 4000000 in
theorem c_newG (l : Launch) (Z : State) (n0 : Nat) (a0 : Array Value) (hw : ∀ d ∈ tables_1, d.before a0 Z = true) (x t : Nat) (cs : List Int32) {cz : Int32} (SC : Sta Z Z.heap "java/lang/String" "COMPACT_STRINGS" "Z" (.int cz)) (hcz : cz.toInt ≠ 0) (UA : Sta Z Z.heap "java/lang/StringUTF16" "$assertionsDisabled" "Z" (.int 1)) (UH : Sta Z Z.heap "java/lang/StringUTF16" "HI_BYTE_SHIFT" "I" (.int 0)) (UL : Sta Z Z.heap "java/lang/StringUTF16" "LO_BYTE_SHIFT" "I" (.int 8)) (h : Heap) (Ls : Lits) (hO : Old Z n0 h) (E : Exa Z h x "java/lang/String") (Fv : Fld Z h x "java/lang/String" "value" "[B" .null) (Fc : Fld Z h x "java/lang/String" "coder" "B" (.int 0)) (g : n0 ≤ x) (At : Av Z h t .char (cs.map Value.int)) (hpos : 0 < cs.length) (hcap : cs.length ≤ 48) (hcs : ∀ c ∈ cs, 0 ≤ c.toInt ∧ c.toInt < 65536) :
    Con l Z n0 (⟨"java/lang/String", "<init>", "([C)V"⟩ : MethodName) jdk_42_method_3_code 2 none ({ frames := 5, cells := 2, slots := 144, locals := 74 } : Room) [.ref x, .ref t] h Ls [] (RN fun h' Ls' => ∃ b : Nat, Keep h h' [x] ∧ h.size ≤ b ∧ Str Z h' x b (coOf cs) (byOf cs) ∧ Ls = Ls') := by
  refine Con.of_run (plainFor_of_name pn1) hO ?_
  intro p e s m below meth c F hs
  refine ⟨[.val (.ref x), .val (.ref t)], by first | rfl | (simp [entryFrame, mkF, argsToLocals, Value.category]; done) | (rcases ref_cases hv with rfl | ⟨va, rfl⟩ <;> rfl), ?_⟩
  refine Run.aloadN F d2_0 rfl rfl ?_
  refine Run.aloadN F d2_1 rfl rfl ?_
  refine Run.iconst F d2_2 (z := 0) rfl ?_
  refine Run.aloadN F d2_3 rfl rfl ?_
  refine Run.arrlen F At d2_4 ?_
  rw [List.length_map]
  refine Run.aconstNull F d2_5 ?_
  refine Run.callInit F (w18 hw) (w19 hw) (w1 hw) (w21 hw) (c_initG l Z n0 a0 hw x t cs SC hcz UA UH UL h Ls hO E Fv Fc g At hpos hcap hcs) rfl rfl pd7 rfl rfl rfl rfl (by decide) (by decide) rfl d2_6 ?_
  rintro _ h1 _ ⟨rfl, b, K1, hb, S1, rfl⟩ _ _
  exact Run.return_ F (by decide) (by decide) d2_9 ⟨b, K1, hb, S1, rfl⟩
set_option maxRecDepth 65536 in
set_option maxHeartbeats 4000000 in
theorem c_newE (l : Launch) (Z : State) (n0 : Nat) (a0 : Array Value) (hw : ∀ d ∈ tables_1, d.before a0 Z = true) (x t : Nat) (lt : List (String × Addr)) (wS : ∀ a ∈ Bundle.stringAtoms, a.before a0 Z = true) (hh : Jvm.Lit.constHeld Z "java/lang/String" 7) (hcw : Jvm.Lit.compactW.before a0 Z = true) (h : Heap) (Ls : Lits) (hO : Old Z n0 h) (E : Exa Z h x "java/lang/String") (Fv : Fld Z h x "java/lang/String" "value" "[B" .null) (Fc : Fld Z h x "java/lang/String" "coder" "B" (.int 0)) (g : n0 ≤ x) (At : Av Z h t .char []) (hLs : Ls = some lt) (hlt : ∀ t ∈ lt, t.1 = "" → ∃ b : Nat, Str Z h t.2 b 0 [] ∧ t.2 ≠ x ∧ b ≠ x) :
    Con l Z n0 (⟨"java/lang/String", "<init>", "([C)V"⟩ : MethodName) jdk_42_method_3_code 2 none ({ frames := 2, cells := 4, slots := 8, locals := 29 } : Room) [.ref x, .ref t] h Ls [] (RN fun h' Ls' => ∃ b a1 b1 a2 b2 : Nat, Keep h h' [x] ∧ Str Z h' x b 0 [] ∧ Ls' = some (("", a2) :: ("", a1) :: lt) ∧ Str Z h' a1 b1 0 [] ∧ Str Z h' a2 b2 0 [] ∧ (b ≠ x ∧ a1 ≠ x ∧ b1 ≠ x ∧ a2 ≠ x ∧ b2 ≠ x)) := by
  refine Con.of_run (plainFor_of_name pn1) hO ?_
  intro p e s m below meth c F hs
  refine ⟨[.val (.ref x), .val (.ref t)], by first | rfl | (simp [entryFrame, mkF, argsToLocals, Value.category]; done) | (rcases ref_cases hv with rfl | ⟨va, rfl⟩ <;> rfl), ?_⟩
  refine Run.aloadN F d2_0 rfl rfl ?_
  refine Run.aloadN F d2_1 rfl rfl ?_
  refine Run.iconst F d2_2 (z := 0) rfl ?_
  refine Run.aloadN F d2_3 rfl rfl ?_
  refine Run.arrlen F At d2_4 ?_
  refine Run.aconstNull F d2_5 ?_
  refine Run.callInit F (w18 hw) (w19 hw) (w1 hw) (w21 hw) (c_initE l Z n0 a0 hw x t lt wS hh hcw h Ls hO E Fv Fc g hLs hlt) rfl rfl pd7 rfl rfl rfl rfl (by decide) (by decide) rfl d2_6 ?_
  rintro _ h1 _ ⟨rfl, hq⟩ _ _
  exact Run.return_ F (by decide) (by decide) d2_9 hq
set_option maxRecDepth 65536 in
set_option maxHeartbeats 4000000 in
theorem c_l1equals (l : Launch) (Z : State) (n0 : Nat) (a0 : Array Value) (hw : ∀ d ∈ tables_1, d.before a0 Z = true) (b d : Nat) (vs ws : List Value) (h : Heap) (Ls : Lits) (hO : Old Z n0 h) (A : Av Z h b .byte vs) (B : Av Z h d .byte ws) :
    Con l Z n0 (⟨"java/lang/StringLatin1", "equals", "([B[B)Z"⟩ : MethodName) jdk_43_method_13_code 3 (some .boolean) ({ frames := 0, cells := 0, slots := 0, locals := 0 } : Room) [.ref b, .ref d] h Ls [] (RV fun v h' Ls' => v = .int (b2i (decide (vs = ws))) ∧ h = h' ∧ Ls = Ls') := by
  refine Con.of_run (plainFor_of_name pn2) hO ?_
  intro p e s m below meth c F hs
  refine ⟨[.val (.ref b), .val (.ref d), .unset], by first | rfl | (simp [entryFrame, mkF, argsToLocals, Value.category]; done) | (rcases ref_cases hv with rfl | ⟨va, rfl⟩ <;> rfl), ?_⟩
  have la := A.len
  have lb' := B.len
  refine Run.aloadN F d10_0 rfl rfl ?_
  refine Run.arrlen F A d10_1 ?_
  refine Run.aloadN F d10_2 rfl rfl ?_
  refine Run.arrlen F B d10_3 ?_
  refine Run.icmp_ne F d10_4 (t := 34) rfl (i32_ti la) (i32_ti lb') (fun q => ?_) (fun q => ?_)
  · refine Run.iconst F d10_34 (z := 0) rfl ?_
    have e : decide (vs = ws) = false := decide_eq_false fun e => by subst e; exact q rfl
    exact Run.ireturn F (by simp) rfl (by decide) (by decide) d10_35 ⟨by rw [e]; rfl, rfl, rfl⟩
  · refine Run.iconst F d10_7 (z := 0) rfl ?_
    refine Run.istoreN F d10_8 rfl ?_
    dsimp only [List.set]
    refine Run.rec (fun r h' k n Ls' L st => ∃ i, i + r = vs.length ∧ k = 0 ∧ n = 0 ∧ Ls = Ls' ∧ h = h' ∧ (∀ j, j < i → vs[j]? = ws[j]?) ∧ L = [.val (.ref b), .val (.ref d), .val (.int (Int32.ofNat i))] ∧ st = []) ?_ vs.length _ _ _ _ _ _ ⟨0, by omega, rfl, rfl, rfl, rfl, fun j hj => absurd hj (Nat.not_lt_zero _), rfl, rfl⟩
    rintro r h' k n Ls' L st ⟨i, hi, rfl, rfl, rfl, rfl, hp, rfl, rfl⟩ ih
    refine Run.iloadN F d10_9 rfl ?_
    refine Run.aloadN F d10_10 rfl rfl ?_
    refine Run.arrlen F A d10_11 ?_
    refine Run.icmp_ge F d10_12 (t := 32) rfl (i32_ti (by omega)) (i32_ti la) (fun q1 => ?_) (fun q1 => ?_)
    · refine Run.iconst F d10_32 (z := 1) rfl ?_
      have e : decide (vs = ws) = true := decide_eq_true (List.ext_getElem? fun j => by
        by_cases hj : j < i
        · exact hp j hj
        · rw [List.getElem?_eq_none (by omega), List.getElem?_eq_none (by omega)])
      exact Run.ireturn F (by simp) rfl (by decide) (by decide) d10_33 ⟨by rw [e]; rfl, rfl, rfl⟩
    · have h1 : i < vs.length := by omega
      have h2 : i < ws.length := by omega
      obtain ⟨p1, e1⟩ := fit_I (A.fit _ (List.getElem_mem h1)) (by simp)
      obtain ⟨p2, e2⟩ := fit_I (B.fit _ (List.getElem_mem h2)) (by simp)
      have g1 : vs[i]? = some (.int p1) := by rw [List.getElem?_eq_getElem h1, e1]
      have g2 : ws[i]? = some (.int p2) := by rw [List.getElem?_eq_getElem h2, e2]
      refine Run.aloadN F d10_15 rfl rfl ?_
      refine Run.iloadN F d10_16 rfl ?_
      refine Run.baload F A (i32_nn (by omega)) (i32_tn (by omega)) g1 d10_17 ?_
      refine Run.aloadN F d10_18 rfl rfl ?_
      refine Run.iloadN F d10_19 rfl ?_
      refine Run.baload F B (i32_nn (by omega)) (i32_tn (by omega)) g2 d10_20 ?_
      refine Run.icmp_eq F d10_21 (t := 26) rfl rfl rfl (fun q2 => ?_) (fun q2 => ?_)
      · refine Run.iinc F d10_26 (z := 1) rfl rfl ?_
        dsimp only [List.set]
        refine Run.goto F d10_29 (t := 9) rfl ?_
        refine ih (r - 1) _ _ _ _ _ _ (by omega) ⟨i + 1, by omega, rfl, rfl, rfl, rfl, fun j hj => ?_, by simp only [Jvm.Free.XT.succ32], rfl⟩
        rcases Nat.lt_succ_iff_lt_or_eq.mp hj with hj | rfl
        · exact hp j hj
        · rw [g1, g2, Int32.toInt_inj.mp q2]
      · refine Run.iconst F d10_24 (z := 0) rfl ?_
        have e : decide (vs = ws) = false := decide_eq_false fun e => by
          subst e
          have := g1.symm.trans g2
          simp only [Option.some.injEq, Value.int.injEq] at this
          exact q2 (by rw [this])
        exact Run.ireturn F (by simp) rfl (by decide) (by decide) d10_25 ⟨by rw [e]; rfl, rfl, rfl⟩
set_option maxRecDepth 65536 in
set_option maxHeartbeats 4000000 in
theorem c_equals (l : Launch) (Z : State) (n0 : Nat) (a0 : Array Value) (hw : ∀ d ∈ tables_1, d.before a0 Z = true) (x y b d : Nat) (co co2 : Int32) (vs ws : List Value) {cz : Int32} (SC : Sta Z Z.heap "java/lang/String" "COMPACT_STRINGS" "Z" (.int cz)) (hcz : cz.toInt ≠ 0) (h : Heap) (Ls : Lits) (hO : Old Z n0 h) (S : Str Z h x b co vs) (T : Str Z h y d co2 ws) :
    Con l Z n0 (⟨"java/lang/String", "equals", "(Ljava/lang/Object;)Z"⟩ : MethodName) jdk_42_method_66_code 3 (some .boolean) ({ frames := 1, cells := 0, slots := 0, locals := 14 } : Room) [.ref x, .ref y] h Ls [] (RV fun v h' Ls' => v = .int (b2i (decide (x = y) || (decide (co.toInt = co2.toInt) && decide (vs = ws)))) ∧ h = h' ∧ Ls = Ls') := by
  refine Con.of_run (plainFor_of_name pn1) hO ?_
  intro p e s m below meth c F hs
  refine ⟨[.val (.ref x), .val (.ref y), .unset], by first | rfl | (simp [entryFrame, mkF, argsToLocals, Value.category]; done) | (rcases ref_cases hv with rfl | ⟨va, rfl⟩ <;> rfl), ?_⟩
  refine Run.aloadN F d9_0 rfl rfl ?_
  refine Run.aloadN F d9_1 rfl rfl ?_
  by_cases hxy : x = y
  · subst hxy
    refine Run.acmpNo F d9_2 (t := 7) rfl rfl rfl (b := true) (decide_eq_true rfl) rfl ?_
    refine Run.iconst F d9_5 (z := 1) rfl ?_
    exact Run.ireturn F (by simp) rfl (by decide) (by decide) d9_6 ⟨by simp [b2i], rfl, rfl⟩
  · refine Run.acmpYes F d9_2 (t := 7) rfl rfl rfl (b := false) (decide_eq_false fun q => hxy (Value.ref.inj q)) rfl ?_
    have exy : decide (x = y) = false := decide_eq_false hxy
    refine Run.aloadN F d9_7 rfl rfl ?_
    refine Run.instYes F (w48 hw) (Ins.self T.1) d9_8 ?_
    refine Run.ifNo F d9_11 rfl ?_
    refine Run.aloadN F d9_14 rfl rfl ?_
    refine Run.checkcast F (w48 hw) (Ins.self T.1) d9_15 ?_
    refine Run.astoreN F d9_18 rfl rfl ?_
    dsimp only [List.set]
    refine Run.getstatic F (w25 hw) Via.refl SC d9_19 ?_
    refine Run.if_eq F d9_22 (t := 36) rfl rfl (fun q => absurd q hcz) (fun _ => ?_)
    refine Run.aloadN F d9_25 rfl rfl ?_
    refine Run.getfield F (host := "") (Or.inl (w36 hw)) Via.refl S.2.1 d9_26 ?_
    refine Run.aloadN F d9_29 rfl rfl ?_
    refine Run.getfield F (host := "") (Or.inl (w36 hw)) Via.refl T.2.1 d9_30 ?_
    refine Run.icmp_ne F d9_33 (t := 54) rfl rfl rfl (fun q => ?_) (fun q => ?_)
    · refine Run.iconst F d9_54 (z := 0) rfl ?_
      exact Run.ireturn F (by simp) rfl (by decide) (by decide) d9_55 ⟨by simp [exy, q, b2i], rfl, rfl⟩
    · refine Run.aloadN F d9_36 rfl rfl ?_
      refine Run.getfield F (host := "") (Or.inl (w37 hw)) Via.refl S.2.2.1 d9_37 ?_
      refine Run.aloadN F d9_40 rfl rfl ?_
      refine Run.getfield F (host := "") (Or.inl (w37 hw)) Via.refl T.2.2.1 d9_41 ?_
      refine Run.callStatic F (w49 hw) (w50 hw) (w51 hw) (w52 hw) (c_l1equals l Z n0 a0 hw b d vs ws h Ls hO S.2.2.2 T.2.2.2) rfl pd8 rfl rfl rfl rfl (by decide) (by decide) rfl d9_44 ?_
      rintro _ _ _ ⟨_, rfl, rfl, rfl, rfl⟩ _ _
      refine Run.ifB_eq F d9_47 (t := 54) rfl (fun q1 => ?_) (fun q1 => ?_)
      · refine Run.iconst F d9_54 (z := 0) rfl ?_
        exact Run.ireturn F (by simp) rfl (by decide) (by decide) d9_55 ⟨by rw [exy, q1]; simp [b2i], rfl, rfl⟩
      · refine Run.iconst F d9_50 (z := 1) rfl ?_
        refine Run.goto F d9_51 (t := 55) rfl ?_
        exact Run.ireturn F (by simp) rfl (by decide) (by decide) d9_55 ⟨by rw [exy, q1]; simp [q, b2i], rfl, rfl⟩
def drS : String := "http://www.xmpp.org/extensions/xep-0227.html#ns"
def pieS : String := "urn:xmpp:pie:0"
def dr : List Int32 := [104, 116, 116, 112, 58, 47, 47, 119, 119, 119, 46, 120, 109, 112, 112, 46, 111, 114, 103, 47, 101, 120, 116, 101, 110, 115, 105, 111, 110, 115, 47, 120, 101, 112, 45, 48, 50, 50, 55, 46, 104, 116, 109, 108, 35, 110, 115]
theorem ne_pd : pieS ≠ drS := by decide +kernel
theorem ne_dp : drS ≠ pieS := by decide +kernel
theorem ne_pE : pieS ≠ "" := by decide +kernel
theorem ne_dE : drS ≠ "" := by decide +kernel
theorem ne_Ed : "" ≠ drS := by decide +kernel
theorem ne_Ep : "" ≠ pieS := by decide +kernel
theorem drB : litB drS = dr.map lb := by decide +kernel
theorem dr_lat : lat dr = true := by decide +kernel
theorem dr_rng : ∀ c ∈ dr, 0 ≤ c.toInt ∧ c.toInt < 256 := by decide +kernel
theorem dr_rng16 : ∀ c ∈ dr, 0 ≤ c.toInt ∧ c.toInt < 65536 := by decide +kernel
theorem drS_lat : ∀ c ∈ drS.toList, c.toNat < 256 := by decide +kernel
theorem pieS_lat : ∀ c ∈ pieS.toList, c.toNat < 256 := by decide +kernel
theorem drS_len : 4 * drS.toList.length ≤ 188 := by decide +kernel
theorem pieS_len : 4 * pieS.toList.length ≤ 56 := by decide +kernel
theorem dr_ne {cs : List Int32} (h : ∀ c ∈ cs, 0 ≤ c.toInt ∧ c.toInt < 65536) (hne : cs ≠ dr) : ¬ ((coOf cs).toInt = 0 ∧ byOf cs = litB drS) := by
  rintro ⟨h1, h2⟩
  cases hl : lat cs
  · rw [coOf, hl] at h1; exact absurd h1 (by decide)
  · rw [byOf, hl, if_pos rfl, drB] at h2
    refine hne (map_lb_inj (fun c hc => ⟨(h c hc).1, ?_⟩) dr_rng h2)
    rw [lat, List.all_eq_true] at hl
    exact of_decide_eq_true (hl c hc)
theorem dr_eq : (coOf dr).toInt = 0 ∧ byOf dr = litB drS := by
  rw [coOf, byOf, dr_lat, drB]; exact ⟨rfl, rfl⟩

set_option maxRecDepth 65536 in
set_option maxHeartbeats 4000000 in
theorem c_draft (l : Launch) (Z : State) (n0 : Nat) (a0 : Array Value) (hw : ∀ d ∈ tables_1, d.before a0 Z = true)  (h : Heap) (Ls : Lits) (hO : Old Z n0 h)  :
    Con l Z n0 (⟨"com/example/stanzavault/stanzavault/FormatFinalNamespacePinLaw", "draft", "()[C"⟩ : MethodName) method_2_code 0 (some (.array .char)) ({ frames := 0, cells := 1, slots := 47, locals := 0 } : Room) [] h Ls [] (RV fun v h' Ls' => ∃ t : Nat, v = .ref t ∧ Keep h h' [] ∧ h.size ≤ t ∧ Av Z h' t .char (dr.map Value.int) ∧ Ls = Ls') := by
  refine Con.of_run (plainFor_of_name pn3) hO ?_
  intro p e s m below meth c F hs
  refine ⟨[], by first | rfl | (simp [entryFrame, mkF, argsToLocals, Value.category]; done) | (rcases ref_cases hv with rfl | ⟨va, rfl⟩ <;> rfl), ?_⟩
  refine Run.bipush F d1_0 (z := 47) rfl ?_
  refine Run.newarray (aty := .char) F (w13 hw) (by decide) (len := 47) rfl 47 (by decide) rfl (by decide) (by decide) d1_2 ?_
  intro hA ta hta KA ltA A0
  have gA : n0 ≤ ta := by rw [hta, ← hO.1]; exact hO.2.1
  refine Run.dup F d1_4 rfl ?_
  refine Run.iconst F d1_5 (z := 0) rfl ?_
  refine Run.bipush F d1_6 (z := 104) rfl ?_
  refine Run.castore F A0 gA (by decide) (i := 0) rfl (by simp) (y := 104) rfl d1_8 ?_
  intro h0 W0 K0 s0 A1
  replace K0 := KA.trans K0 (allS (Or.inr (Nat.le_of_eq hta.symm)) all0)
  clear A0 KA W0 s0
  refine Run.dup F d1_9 rfl ?_
  refine Run.iconst F d1_10 (z := 1) rfl ?_
  refine Run.bipush F d1_11 (z := 116) rfl ?_
  refine Run.castore F A1 gA (by decide) (i := 1) rfl (by simp) (y := 116) rfl d1_13 ?_
  intro h1 W1 K1 s1 A2
  replace K1 := K0.trans K1 (allS (Or.inr (Nat.le_of_eq hta.symm)) all0)
  clear A1 K0 W1 s1
  refine Run.dup F d1_14 rfl ?_
  refine Run.iconst F d1_15 (z := 2) rfl ?_
  refine Run.bipush F d1_16 (z := 116) rfl ?_
  refine Run.castore F A2 gA (by decide) (i := 2) rfl (by simp) (y := 116) rfl d1_18 ?_
  intro h2 W2 K2 s2 A3
  replace K2 := K1.trans K2 (allS (Or.inr (Nat.le_of_eq hta.symm)) all0)
  clear A2 K1 W2 s2
  refine Run.dup F d1_19 rfl ?_
  refine Run.iconst F d1_20 (z := 3) rfl ?_
  refine Run.bipush F d1_21 (z := 112) rfl ?_
  refine Run.castore F A3 gA (by decide) (i := 3) rfl (by simp) (y := 112) rfl d1_23 ?_
  intro h3 W3 K3 s3 A4
  replace K3 := K2.trans K3 (allS (Or.inr (Nat.le_of_eq hta.symm)) all0)
  clear A3 K2 W3 s3
  refine Run.dup F d1_24 rfl ?_
  refine Run.iconst F d1_25 (z := 4) rfl ?_
  refine Run.bipush F d1_26 (z := 58) rfl ?_
  refine Run.castore F A4 gA (by decide) (i := 4) rfl (by simp) (y := 58) rfl d1_28 ?_
  intro h4 W4 K4 s4 A5
  replace K4 := K3.trans K4 (allS (Or.inr (Nat.le_of_eq hta.symm)) all0)
  clear A4 K3 W4 s4
  refine Run.dup F d1_29 rfl ?_
  refine Run.iconst F d1_30 (z := 5) rfl ?_
  refine Run.bipush F d1_31 (z := 47) rfl ?_
  refine Run.castore F A5 gA (by decide) (i := 5) rfl (by simp) (y := 47) rfl d1_33 ?_
  intro h5 W5 K5 s5 A6
  replace K5 := K4.trans K5 (allS (Or.inr (Nat.le_of_eq hta.symm)) all0)
  clear A5 K4 W5 s5
  refine Run.dup F d1_34 rfl ?_
  refine Run.bipush F d1_35 (z := 6) rfl ?_
  refine Run.bipush F d1_37 (z := 47) rfl ?_
  refine Run.castore F A6 gA (by decide) (i := 6) rfl (by simp) (y := 47) rfl d1_39 ?_
  intro h6 W6 K6 s6 A7
  replace K6 := K5.trans K6 (allS (Or.inr (Nat.le_of_eq hta.symm)) all0)
  clear A6 K5 W6 s6
  refine Run.dup F d1_40 rfl ?_
  refine Run.bipush F d1_41 (z := 7) rfl ?_
  refine Run.bipush F d1_43 (z := 119) rfl ?_
  refine Run.castore F A7 gA (by decide) (i := 7) rfl (by simp) (y := 119) rfl d1_45 ?_
  intro h7 W7 K7 s7 A8
  replace K7 := K6.trans K7 (allS (Or.inr (Nat.le_of_eq hta.symm)) all0)
  clear A7 K6 W7 s7
  refine Run.dup F d1_46 rfl ?_
  refine Run.bipush F d1_47 (z := 8) rfl ?_
  refine Run.bipush F d1_49 (z := 119) rfl ?_
  refine Run.castore F A8 gA (by decide) (i := 8) rfl (by simp) (y := 119) rfl d1_51 ?_
  intro h8 W8 K8 s8 A9
  replace K8 := K7.trans K8 (allS (Or.inr (Nat.le_of_eq hta.symm)) all0)
  clear A8 K7 W8 s8
  refine Run.dup F d1_52 rfl ?_
  refine Run.bipush F d1_53 (z := 9) rfl ?_
  refine Run.bipush F d1_55 (z := 119) rfl ?_
  refine Run.castore F A9 gA (by decide) (i := 9) rfl (by simp) (y := 119) rfl d1_57 ?_
  intro h9 W9 K9 s9 A10
  replace K9 := K8.trans K9 (allS (Or.inr (Nat.le_of_eq hta.symm)) all0)
  clear A9 K8 W9 s9
  refine Run.dup F d1_58 rfl ?_
  refine Run.bipush F d1_59 (z := 10) rfl ?_
  refine Run.bipush F d1_61 (z := 46) rfl ?_
  refine Run.castore F A10 gA (by decide) (i := 10) rfl (by simp) (y := 46) rfl d1_63 ?_
  intro h10 W10 K10 s10 A11
  replace K10 := K9.trans K10 (allS (Or.inr (Nat.le_of_eq hta.symm)) all0)
  clear A10 K9 W10 s10
  refine Run.dup F d1_64 rfl ?_
  refine Run.bipush F d1_65 (z := 11) rfl ?_
  refine Run.bipush F d1_67 (z := 120) rfl ?_
  refine Run.castore F A11 gA (by decide) (i := 11) rfl (by simp) (y := 120) rfl d1_69 ?_
  intro h11 W11 K11 s11 A12
  replace K11 := K10.trans K11 (allS (Or.inr (Nat.le_of_eq hta.symm)) all0)
  clear A11 K10 W11 s11
  refine Run.dup F d1_70 rfl ?_
  refine Run.bipush F d1_71 (z := 12) rfl ?_
  refine Run.bipush F d1_73 (z := 109) rfl ?_
  refine Run.castore F A12 gA (by decide) (i := 12) rfl (by simp) (y := 109) rfl d1_75 ?_
  intro h12 W12 K12 s12 A13
  replace K12 := K11.trans K12 (allS (Or.inr (Nat.le_of_eq hta.symm)) all0)
  clear A12 K11 W12 s12
  refine Run.dup F d1_76 rfl ?_
  refine Run.bipush F d1_77 (z := 13) rfl ?_
  refine Run.bipush F d1_79 (z := 112) rfl ?_
  refine Run.castore F A13 gA (by decide) (i := 13) rfl (by simp) (y := 112) rfl d1_81 ?_
  intro h13 W13 K13 s13 A14
  replace K13 := K12.trans K13 (allS (Or.inr (Nat.le_of_eq hta.symm)) all0)
  clear A13 K12 W13 s13
  refine Run.dup F d1_82 rfl ?_
  refine Run.bipush F d1_83 (z := 14) rfl ?_
  refine Run.bipush F d1_85 (z := 112) rfl ?_
  refine Run.castore F A14 gA (by decide) (i := 14) rfl (by simp) (y := 112) rfl d1_87 ?_
  intro h14 W14 K14 s14 A15
  replace K14 := K13.trans K14 (allS (Or.inr (Nat.le_of_eq hta.symm)) all0)
  clear A14 K13 W14 s14
  refine Run.dup F d1_88 rfl ?_
  refine Run.bipush F d1_89 (z := 15) rfl ?_
  refine Run.bipush F d1_91 (z := 46) rfl ?_
  refine Run.castore F A15 gA (by decide) (i := 15) rfl (by simp) (y := 46) rfl d1_93 ?_
  intro h15 W15 K15 s15 A16
  replace K15 := K14.trans K15 (allS (Or.inr (Nat.le_of_eq hta.symm)) all0)
  clear A15 K14 W15 s15
  refine Run.dup F d1_94 rfl ?_
  refine Run.bipush F d1_95 (z := 16) rfl ?_
  refine Run.bipush F d1_97 (z := 111) rfl ?_
  refine Run.castore F A16 gA (by decide) (i := 16) rfl (by simp) (y := 111) rfl d1_99 ?_
  intro h16 W16 K16 s16 A17
  replace K16 := K15.trans K16 (allS (Or.inr (Nat.le_of_eq hta.symm)) all0)
  clear A16 K15 W16 s16
  refine Run.dup F d1_100 rfl ?_
  refine Run.bipush F d1_101 (z := 17) rfl ?_
  refine Run.bipush F d1_103 (z := 114) rfl ?_
  refine Run.castore F A17 gA (by decide) (i := 17) rfl (by simp) (y := 114) rfl d1_105 ?_
  intro h17 W17 K17 s17 A18
  replace K17 := K16.trans K17 (allS (Or.inr (Nat.le_of_eq hta.symm)) all0)
  clear A17 K16 W17 s17
  refine Run.dup F d1_106 rfl ?_
  refine Run.bipush F d1_107 (z := 18) rfl ?_
  refine Run.bipush F d1_109 (z := 103) rfl ?_
  refine Run.castore F A18 gA (by decide) (i := 18) rfl (by simp) (y := 103) rfl d1_111 ?_
  intro h18 W18 K18 s18 A19
  replace K18 := K17.trans K18 (allS (Or.inr (Nat.le_of_eq hta.symm)) all0)
  clear A18 K17 W18 s18
  refine Run.dup F d1_112 rfl ?_
  refine Run.bipush F d1_113 (z := 19) rfl ?_
  refine Run.bipush F d1_115 (z := 47) rfl ?_
  refine Run.castore F A19 gA (by decide) (i := 19) rfl (by simp) (y := 47) rfl d1_117 ?_
  intro h19 W19 K19 s19 A20
  replace K19 := K18.trans K19 (allS (Or.inr (Nat.le_of_eq hta.symm)) all0)
  clear A19 K18 W19 s19
  refine Run.dup F d1_118 rfl ?_
  refine Run.bipush F d1_119 (z := 20) rfl ?_
  refine Run.bipush F d1_121 (z := 101) rfl ?_
  refine Run.castore F A20 gA (by decide) (i := 20) rfl (by simp) (y := 101) rfl d1_123 ?_
  intro h20 W20 K20 s20 A21
  replace K20 := K19.trans K20 (allS (Or.inr (Nat.le_of_eq hta.symm)) all0)
  clear A20 K19 W20 s20
  refine Run.dup F d1_124 rfl ?_
  refine Run.bipush F d1_125 (z := 21) rfl ?_
  refine Run.bipush F d1_127 (z := 120) rfl ?_
  refine Run.castore F A21 gA (by decide) (i := 21) rfl (by simp) (y := 120) rfl d1_129 ?_
  intro h21 W21 K21 s21 A22
  replace K21 := K20.trans K21 (allS (Or.inr (Nat.le_of_eq hta.symm)) all0)
  clear A21 K20 W21 s21
  refine Run.dup F d1_130 rfl ?_
  refine Run.bipush F d1_131 (z := 22) rfl ?_
  refine Run.bipush F d1_133 (z := 116) rfl ?_
  refine Run.castore F A22 gA (by decide) (i := 22) rfl (by simp) (y := 116) rfl d1_135 ?_
  intro h22 W22 K22 s22 A23
  replace K22 := K21.trans K22 (allS (Or.inr (Nat.le_of_eq hta.symm)) all0)
  clear A22 K21 W22 s22
  refine Run.dup F d1_136 rfl ?_
  refine Run.bipush F d1_137 (z := 23) rfl ?_
  refine Run.bipush F d1_139 (z := 101) rfl ?_
  refine Run.castore F A23 gA (by decide) (i := 23) rfl (by simp) (y := 101) rfl d1_141 ?_
  intro h23 W23 K23 s23 A24
  replace K23 := K22.trans K23 (allS (Or.inr (Nat.le_of_eq hta.symm)) all0)
  clear A23 K22 W23 s23
  refine Run.dup F d1_142 rfl ?_
  refine Run.bipush F d1_143 (z := 24) rfl ?_
  refine Run.bipush F d1_145 (z := 110) rfl ?_
  refine Run.castore F A24 gA (by decide) (i := 24) rfl (by simp) (y := 110) rfl d1_147 ?_
  intro h24 W24 K24 s24 A25
  replace K24 := K23.trans K24 (allS (Or.inr (Nat.le_of_eq hta.symm)) all0)
  clear A24 K23 W24 s24
  refine Run.dup F d1_148 rfl ?_
  refine Run.bipush F d1_149 (z := 25) rfl ?_
  refine Run.bipush F d1_151 (z := 115) rfl ?_
  refine Run.castore F A25 gA (by decide) (i := 25) rfl (by simp) (y := 115) rfl d1_153 ?_
  intro h25 W25 K25 s25 A26
  replace K25 := K24.trans K25 (allS (Or.inr (Nat.le_of_eq hta.symm)) all0)
  clear A25 K24 W25 s25
  refine Run.dup F d1_154 rfl ?_
  refine Run.bipush F d1_155 (z := 26) rfl ?_
  refine Run.bipush F d1_157 (z := 105) rfl ?_
  refine Run.castore F A26 gA (by decide) (i := 26) rfl (by simp) (y := 105) rfl d1_159 ?_
  intro h26 W26 K26 s26 A27
  replace K26 := K25.trans K26 (allS (Or.inr (Nat.le_of_eq hta.symm)) all0)
  clear A26 K25 W26 s26
  refine Run.dup F d1_160 rfl ?_
  refine Run.bipush F d1_161 (z := 27) rfl ?_
  refine Run.bipush F d1_163 (z := 111) rfl ?_
  refine Run.castore F A27 gA (by decide) (i := 27) rfl (by simp) (y := 111) rfl d1_165 ?_
  intro h27 W27 K27 s27 A28
  replace K27 := K26.trans K27 (allS (Or.inr (Nat.le_of_eq hta.symm)) all0)
  clear A27 K26 W27 s27
  refine Run.dup F d1_166 rfl ?_
  refine Run.bipush F d1_167 (z := 28) rfl ?_
  refine Run.bipush F d1_169 (z := 110) rfl ?_
  refine Run.castore F A28 gA (by decide) (i := 28) rfl (by simp) (y := 110) rfl d1_171 ?_
  intro h28 W28 K28 s28 A29
  replace K28 := K27.trans K28 (allS (Or.inr (Nat.le_of_eq hta.symm)) all0)
  clear A28 K27 W28 s28
  refine Run.dup F d1_172 rfl ?_
  refine Run.bipush F d1_173 (z := 29) rfl ?_
  refine Run.bipush F d1_175 (z := 115) rfl ?_
  refine Run.castore F A29 gA (by decide) (i := 29) rfl (by simp) (y := 115) rfl d1_177 ?_
  intro h29 W29 K29 s29 A30
  replace K29 := K28.trans K29 (allS (Or.inr (Nat.le_of_eq hta.symm)) all0)
  clear A29 K28 W29 s29
  refine Run.dup F d1_178 rfl ?_
  refine Run.bipush F d1_179 (z := 30) rfl ?_
  refine Run.bipush F d1_181 (z := 47) rfl ?_
  refine Run.castore F A30 gA (by decide) (i := 30) rfl (by simp) (y := 47) rfl d1_183 ?_
  intro h30 W30 K30 s30 A31
  replace K30 := K29.trans K30 (allS (Or.inr (Nat.le_of_eq hta.symm)) all0)
  clear A30 K29 W30 s30
  refine Run.dup F d1_184 rfl ?_
  refine Run.bipush F d1_185 (z := 31) rfl ?_
  refine Run.bipush F d1_187 (z := 120) rfl ?_
  refine Run.castore F A31 gA (by decide) (i := 31) rfl (by simp) (y := 120) rfl d1_189 ?_
  intro h31 W31 K31 s31 A32
  replace K31 := K30.trans K31 (allS (Or.inr (Nat.le_of_eq hta.symm)) all0)
  clear A31 K30 W31 s31
  refine Run.dup F d1_190 rfl ?_
  refine Run.bipush F d1_191 (z := 32) rfl ?_
  refine Run.bipush F d1_193 (z := 101) rfl ?_
  refine Run.castore F A32 gA (by decide) (i := 32) rfl (by simp) (y := 101) rfl d1_195 ?_
  intro h32 W32 K32 s32 A33
  replace K32 := K31.trans K32 (allS (Or.inr (Nat.le_of_eq hta.symm)) all0)
  clear A32 K31 W32 s32
  refine Run.dup F d1_196 rfl ?_
  refine Run.bipush F d1_197 (z := 33) rfl ?_
  refine Run.bipush F d1_199 (z := 112) rfl ?_
  refine Run.castore F A33 gA (by decide) (i := 33) rfl (by simp) (y := 112) rfl d1_201 ?_
  intro h33 W33 K33 s33 A34
  replace K33 := K32.trans K33 (allS (Or.inr (Nat.le_of_eq hta.symm)) all0)
  clear A33 K32 W33 s33
  refine Run.dup F d1_202 rfl ?_
  refine Run.bipush F d1_203 (z := 34) rfl ?_
  refine Run.bipush F d1_205 (z := 45) rfl ?_
  refine Run.castore F A34 gA (by decide) (i := 34) rfl (by simp) (y := 45) rfl d1_207 ?_
  intro h34 W34 K34 s34 A35
  replace K34 := K33.trans K34 (allS (Or.inr (Nat.le_of_eq hta.symm)) all0)
  clear A34 K33 W34 s34
  refine Run.dup F d1_208 rfl ?_
  refine Run.bipush F d1_209 (z := 35) rfl ?_
  refine Run.bipush F d1_211 (z := 48) rfl ?_
  refine Run.castore F A35 gA (by decide) (i := 35) rfl (by simp) (y := 48) rfl d1_213 ?_
  intro h35 W35 K35 s35 A36
  replace K35 := K34.trans K35 (allS (Or.inr (Nat.le_of_eq hta.symm)) all0)
  clear A35 K34 W35 s35
  refine Run.dup F d1_214 rfl ?_
  refine Run.bipush F d1_215 (z := 36) rfl ?_
  refine Run.bipush F d1_217 (z := 50) rfl ?_
  refine Run.castore F A36 gA (by decide) (i := 36) rfl (by simp) (y := 50) rfl d1_219 ?_
  intro h36 W36 K36 s36 A37
  replace K36 := K35.trans K36 (allS (Or.inr (Nat.le_of_eq hta.symm)) all0)
  clear A36 K35 W36 s36
  refine Run.dup F d1_220 rfl ?_
  refine Run.bipush F d1_221 (z := 37) rfl ?_
  refine Run.bipush F d1_223 (z := 50) rfl ?_
  refine Run.castore F A37 gA (by decide) (i := 37) rfl (by simp) (y := 50) rfl d1_225 ?_
  intro h37 W37 K37 s37 A38
  replace K37 := K36.trans K37 (allS (Or.inr (Nat.le_of_eq hta.symm)) all0)
  clear A37 K36 W37 s37
  refine Run.dup F d1_226 rfl ?_
  refine Run.bipush F d1_227 (z := 38) rfl ?_
  refine Run.bipush F d1_229 (z := 55) rfl ?_
  refine Run.castore F A38 gA (by decide) (i := 38) rfl (by simp) (y := 55) rfl d1_231 ?_
  intro h38 W38 K38 s38 A39
  replace K38 := K37.trans K38 (allS (Or.inr (Nat.le_of_eq hta.symm)) all0)
  clear A38 K37 W38 s38
  refine Run.dup F d1_232 rfl ?_
  refine Run.bipush F d1_233 (z := 39) rfl ?_
  refine Run.bipush F d1_235 (z := 46) rfl ?_
  refine Run.castore F A39 gA (by decide) (i := 39) rfl (by simp) (y := 46) rfl d1_237 ?_
  intro h39 W39 K39 s39 A40
  replace K39 := K38.trans K39 (allS (Or.inr (Nat.le_of_eq hta.symm)) all0)
  clear A39 K38 W39 s39
  refine Run.dup F d1_238 rfl ?_
  refine Run.bipush F d1_239 (z := 40) rfl ?_
  refine Run.bipush F d1_241 (z := 104) rfl ?_
  refine Run.castore F A40 gA (by decide) (i := 40) rfl (by simp) (y := 104) rfl d1_243 ?_
  intro h40 W40 K40 s40 A41
  replace K40 := K39.trans K40 (allS (Or.inr (Nat.le_of_eq hta.symm)) all0)
  clear A40 K39 W40 s40
  refine Run.dup F d1_244 rfl ?_
  refine Run.bipush F d1_245 (z := 41) rfl ?_
  refine Run.bipush F d1_247 (z := 116) rfl ?_
  refine Run.castore F A41 gA (by decide) (i := 41) rfl (by simp) (y := 116) rfl d1_249 ?_
  intro h41 W41 K41 s41 A42
  replace K41 := K40.trans K41 (allS (Or.inr (Nat.le_of_eq hta.symm)) all0)
  clear A41 K40 W41 s41
  refine Run.dup F d1_250 rfl ?_
  refine Run.bipush F d1_251 (z := 42) rfl ?_
  refine Run.bipush F d1_253 (z := 109) rfl ?_
  refine Run.castore F A42 gA (by decide) (i := 42) rfl (by simp) (y := 109) rfl d1_255 ?_
  intro h42 W42 K42 s42 A43
  replace K42 := K41.trans K42 (allS (Or.inr (Nat.le_of_eq hta.symm)) all0)
  clear A42 K41 W42 s42
  refine Run.dup F d1_256 rfl ?_
  refine Run.bipush F d1_257 (z := 43) rfl ?_
  refine Run.bipush F d1_259 (z := 108) rfl ?_
  refine Run.castore F A43 gA (by decide) (i := 43) rfl (by simp) (y := 108) rfl d1_261 ?_
  intro h43 W43 K43 s43 A44
  replace K43 := K42.trans K43 (allS (Or.inr (Nat.le_of_eq hta.symm)) all0)
  clear A43 K42 W43 s43
  refine Run.dup F d1_262 rfl ?_
  refine Run.bipush F d1_263 (z := 44) rfl ?_
  refine Run.bipush F d1_265 (z := 35) rfl ?_
  refine Run.castore F A44 gA (by decide) (i := 44) rfl (by simp) (y := 35) rfl d1_267 ?_
  intro h44 W44 K44 s44 A45
  replace K44 := K43.trans K44 (allS (Or.inr (Nat.le_of_eq hta.symm)) all0)
  clear A44 K43 W44 s44
  refine Run.dup F d1_268 rfl ?_
  refine Run.bipush F d1_269 (z := 45) rfl ?_
  refine Run.bipush F d1_271 (z := 110) rfl ?_
  refine Run.castore F A45 gA (by decide) (i := 45) rfl (by simp) (y := 110) rfl d1_273 ?_
  intro h45 W45 K45 s45 A46
  replace K45 := K44.trans K45 (allS (Or.inr (Nat.le_of_eq hta.symm)) all0)
  clear A45 K44 W45 s45
  refine Run.dup F d1_274 rfl ?_
  refine Run.bipush F d1_275 (z := 46) rfl ?_
  refine Run.bipush F d1_277 (z := 115) rfl ?_
  refine Run.castore F A46 gA (by decide) (i := 46) rfl (by simp) (y := 115) rfl d1_279 ?_
  intro h46 W46 K46 s46 A47
  replace K46 := K45.trans K46 (allS (Or.inr (Nat.le_of_eq hta.symm)) all0)
  clear A46 K45 W46 s46
  exact Run.areturn F rfl rfl (by decide) (by decide) d1_280 ⟨ta, rfl, K46, Nat.le_of_eq hta.symm, A47, rfl⟩
set_option maxRecDepth 65536 in
set_option maxHeartbeats 4000000 in
theorem c_dOne (l : Launch) (Z : State) (n0 : Nat) (a0 : Array Value) (hw : ∀ d ∈ tables_1, d.before a0 Z = true) (ch : Int32) (h : Heap) (Ls : Lits) (hO : Old Z n0 h) (hch : 0 ≤ ch.toInt ∧ ch.toInt < 65536) :
    Con l Z n0 (⟨"com/example/stanzavault/stanzavault/FormatFinalNamespacePinLaw", "draftThenOne", "(C)[C"⟩ : MethodName) method_3_code 1 (some (.array .char)) ({ frames := 0, cells := 1, slots := 48, locals := 0 } : Room) [.int ch] h Ls [] (RV fun v h' Ls' => ∃ t : Nat, v = .ref t ∧ Keep h h' [] ∧ h.size ≤ t ∧ Av Z h' t .char ((dr ++ [ch]).map Value.int) ∧ Ls = Ls') := by
  refine Con.of_run (plainFor_of_name pn3) hO ?_
  intro p e s m below meth c F hs
  refine ⟨[.val (.int ch)], by first | rfl | (simp [entryFrame, mkF, argsToLocals, Value.category]; done) | (rcases ref_cases hv with rfl | ⟨va, rfl⟩ <;> rfl), ?_⟩
  refine Run.bipush F d17_0 (z := 48) rfl ?_
  refine Run.newarray (aty := .char) F (w13 hw) (by decide) (len := 48) rfl 48 (by decide) rfl (by decide) (by decide) d17_2 ?_
  intro hA ta hta KA ltA A0
  have gA : n0 ≤ ta := by rw [hta, ← hO.1]; exact hO.2.1
  refine Run.dup F d17_4 rfl ?_
  refine Run.iconst F d17_5 (z := 0) rfl ?_
  refine Run.bipush F d17_6 (z := 104) rfl ?_
  refine Run.castore F A0 gA (by decide) (i := 0) rfl (by simp) (y := 104) rfl d17_8 ?_
  intro h0 W0 K0 s0 A1
  replace K0 := KA.trans K0 (allS (Or.inr (Nat.le_of_eq hta.symm)) all0)
  clear A0 KA W0 s0
  refine Run.dup F d17_9 rfl ?_
  refine Run.iconst F d17_10 (z := 1) rfl ?_
  refine Run.bipush F d17_11 (z := 116) rfl ?_
  refine Run.castore F A1 gA (by decide) (i := 1) rfl (by simp) (y := 116) rfl d17_13 ?_
  intro h1 W1 K1 s1 A2
  replace K1 := K0.trans K1 (allS (Or.inr (Nat.le_of_eq hta.symm)) all0)
  clear A1 K0 W1 s1
  refine Run.dup F d17_14 rfl ?_
  refine Run.iconst F d17_15 (z := 2) rfl ?_
  refine Run.bipush F d17_16 (z := 116) rfl ?_
  refine Run.castore F A2 gA (by decide) (i := 2) rfl (by simp) (y := 116) rfl d17_18 ?_
  intro h2 W2 K2 s2 A3
  replace K2 := K1.trans K2 (allS (Or.inr (Nat.le_of_eq hta.symm)) all0)
  clear A2 K1 W2 s2
  refine Run.dup F d17_19 rfl ?_
  refine Run.iconst F d17_20 (z := 3) rfl ?_
  refine Run.bipush F d17_21 (z := 112) rfl ?_
  refine Run.castore F A3 gA (by decide) (i := 3) rfl (by simp) (y := 112) rfl d17_23 ?_
  intro h3 W3 K3 s3 A4
  replace K3 := K2.trans K3 (allS (Or.inr (Nat.le_of_eq hta.symm)) all0)
  clear A3 K2 W3 s3
  refine Run.dup F d17_24 rfl ?_
  refine Run.iconst F d17_25 (z := 4) rfl ?_
  refine Run.bipush F d17_26 (z := 58) rfl ?_
  refine Run.castore F A4 gA (by decide) (i := 4) rfl (by simp) (y := 58) rfl d17_28 ?_
  intro h4 W4 K4 s4 A5
  replace K4 := K3.trans K4 (allS (Or.inr (Nat.le_of_eq hta.symm)) all0)
  clear A4 K3 W4 s4
  refine Run.dup F d17_29 rfl ?_
  refine Run.iconst F d17_30 (z := 5) rfl ?_
  refine Run.bipush F d17_31 (z := 47) rfl ?_
  refine Run.castore F A5 gA (by decide) (i := 5) rfl (by simp) (y := 47) rfl d17_33 ?_
  intro h5 W5 K5 s5 A6
  replace K5 := K4.trans K5 (allS (Or.inr (Nat.le_of_eq hta.symm)) all0)
  clear A5 K4 W5 s5
  refine Run.dup F d17_34 rfl ?_
  refine Run.bipush F d17_35 (z := 6) rfl ?_
  refine Run.bipush F d17_37 (z := 47) rfl ?_
  refine Run.castore F A6 gA (by decide) (i := 6) rfl (by simp) (y := 47) rfl d17_39 ?_
  intro h6 W6 K6 s6 A7
  replace K6 := K5.trans K6 (allS (Or.inr (Nat.le_of_eq hta.symm)) all0)
  clear A6 K5 W6 s6
  refine Run.dup F d17_40 rfl ?_
  refine Run.bipush F d17_41 (z := 7) rfl ?_
  refine Run.bipush F d17_43 (z := 119) rfl ?_
  refine Run.castore F A7 gA (by decide) (i := 7) rfl (by simp) (y := 119) rfl d17_45 ?_
  intro h7 W7 K7 s7 A8
  replace K7 := K6.trans K7 (allS (Or.inr (Nat.le_of_eq hta.symm)) all0)
  clear A7 K6 W7 s7
  refine Run.dup F d17_46 rfl ?_
  refine Run.bipush F d17_47 (z := 8) rfl ?_
  refine Run.bipush F d17_49 (z := 119) rfl ?_
  refine Run.castore F A8 gA (by decide) (i := 8) rfl (by simp) (y := 119) rfl d17_51 ?_
  intro h8 W8 K8 s8 A9
  replace K8 := K7.trans K8 (allS (Or.inr (Nat.le_of_eq hta.symm)) all0)
  clear A8 K7 W8 s8
  refine Run.dup F d17_52 rfl ?_
  refine Run.bipush F d17_53 (z := 9) rfl ?_
  refine Run.bipush F d17_55 (z := 119) rfl ?_
  refine Run.castore F A9 gA (by decide) (i := 9) rfl (by simp) (y := 119) rfl d17_57 ?_
  intro h9 W9 K9 s9 A10
  replace K9 := K8.trans K9 (allS (Or.inr (Nat.le_of_eq hta.symm)) all0)
  clear A9 K8 W9 s9
  refine Run.dup F d17_58 rfl ?_
  refine Run.bipush F d17_59 (z := 10) rfl ?_
  refine Run.bipush F d17_61 (z := 46) rfl ?_
  refine Run.castore F A10 gA (by decide) (i := 10) rfl (by simp) (y := 46) rfl d17_63 ?_
  intro h10 W10 K10 s10 A11
  replace K10 := K9.trans K10 (allS (Or.inr (Nat.le_of_eq hta.symm)) all0)
  clear A10 K9 W10 s10
  refine Run.dup F d17_64 rfl ?_
  refine Run.bipush F d17_65 (z := 11) rfl ?_
  refine Run.bipush F d17_67 (z := 120) rfl ?_
  refine Run.castore F A11 gA (by decide) (i := 11) rfl (by simp) (y := 120) rfl d17_69 ?_
  intro h11 W11 K11 s11 A12
  replace K11 := K10.trans K11 (allS (Or.inr (Nat.le_of_eq hta.symm)) all0)
  clear A11 K10 W11 s11
  refine Run.dup F d17_70 rfl ?_
  refine Run.bipush F d17_71 (z := 12) rfl ?_
  refine Run.bipush F d17_73 (z := 109) rfl ?_
  refine Run.castore F A12 gA (by decide) (i := 12) rfl (by simp) (y := 109) rfl d17_75 ?_
  intro h12 W12 K12 s12 A13
  replace K12 := K11.trans K12 (allS (Or.inr (Nat.le_of_eq hta.symm)) all0)
  clear A12 K11 W12 s12
  refine Run.dup F d17_76 rfl ?_
  refine Run.bipush F d17_77 (z := 13) rfl ?_
  refine Run.bipush F d17_79 (z := 112) rfl ?_
  refine Run.castore F A13 gA (by decide) (i := 13) rfl (by simp) (y := 112) rfl d17_81 ?_
  intro h13 W13 K13 s13 A14
  replace K13 := K12.trans K13 (allS (Or.inr (Nat.le_of_eq hta.symm)) all0)
  clear A13 K12 W13 s13
  refine Run.dup F d17_82 rfl ?_
  refine Run.bipush F d17_83 (z := 14) rfl ?_
  refine Run.bipush F d17_85 (z := 112) rfl ?_
  refine Run.castore F A14 gA (by decide) (i := 14) rfl (by simp) (y := 112) rfl d17_87 ?_
  intro h14 W14 K14 s14 A15
  replace K14 := K13.trans K14 (allS (Or.inr (Nat.le_of_eq hta.symm)) all0)
  clear A14 K13 W14 s14
  refine Run.dup F d17_88 rfl ?_
  refine Run.bipush F d17_89 (z := 15) rfl ?_
  refine Run.bipush F d17_91 (z := 46) rfl ?_
  refine Run.castore F A15 gA (by decide) (i := 15) rfl (by simp) (y := 46) rfl d17_93 ?_
  intro h15 W15 K15 s15 A16
  replace K15 := K14.trans K15 (allS (Or.inr (Nat.le_of_eq hta.symm)) all0)
  clear A15 K14 W15 s15
  refine Run.dup F d17_94 rfl ?_
  refine Run.bipush F d17_95 (z := 16) rfl ?_
  refine Run.bipush F d17_97 (z := 111) rfl ?_
  refine Run.castore F A16 gA (by decide) (i := 16) rfl (by simp) (y := 111) rfl d17_99 ?_
  intro h16 W16 K16 s16 A17
  replace K16 := K15.trans K16 (allS (Or.inr (Nat.le_of_eq hta.symm)) all0)
  clear A16 K15 W16 s16
  refine Run.dup F d17_100 rfl ?_
  refine Run.bipush F d17_101 (z := 17) rfl ?_
  refine Run.bipush F d17_103 (z := 114) rfl ?_
  refine Run.castore F A17 gA (by decide) (i := 17) rfl (by simp) (y := 114) rfl d17_105 ?_
  intro h17 W17 K17 s17 A18
  replace K17 := K16.trans K17 (allS (Or.inr (Nat.le_of_eq hta.symm)) all0)
  clear A17 K16 W17 s17
  refine Run.dup F d17_106 rfl ?_
  refine Run.bipush F d17_107 (z := 18) rfl ?_
  refine Run.bipush F d17_109 (z := 103) rfl ?_
  refine Run.castore F A18 gA (by decide) (i := 18) rfl (by simp) (y := 103) rfl d17_111 ?_
  intro h18 W18 K18 s18 A19
  replace K18 := K17.trans K18 (allS (Or.inr (Nat.le_of_eq hta.symm)) all0)
  clear A18 K17 W18 s18
  refine Run.dup F d17_112 rfl ?_
  refine Run.bipush F d17_113 (z := 19) rfl ?_
  refine Run.bipush F d17_115 (z := 47) rfl ?_
  refine Run.castore F A19 gA (by decide) (i := 19) rfl (by simp) (y := 47) rfl d17_117 ?_
  intro h19 W19 K19 s19 A20
  replace K19 := K18.trans K19 (allS (Or.inr (Nat.le_of_eq hta.symm)) all0)
  clear A19 K18 W19 s19
  refine Run.dup F d17_118 rfl ?_
  refine Run.bipush F d17_119 (z := 20) rfl ?_
  refine Run.bipush F d17_121 (z := 101) rfl ?_
  refine Run.castore F A20 gA (by decide) (i := 20) rfl (by simp) (y := 101) rfl d17_123 ?_
  intro h20 W20 K20 s20 A21
  replace K20 := K19.trans K20 (allS (Or.inr (Nat.le_of_eq hta.symm)) all0)
  clear A20 K19 W20 s20
  refine Run.dup F d17_124 rfl ?_
  refine Run.bipush F d17_125 (z := 21) rfl ?_
  refine Run.bipush F d17_127 (z := 120) rfl ?_
  refine Run.castore F A21 gA (by decide) (i := 21) rfl (by simp) (y := 120) rfl d17_129 ?_
  intro h21 W21 K21 s21 A22
  replace K21 := K20.trans K21 (allS (Or.inr (Nat.le_of_eq hta.symm)) all0)
  clear A21 K20 W21 s21
  refine Run.dup F d17_130 rfl ?_
  refine Run.bipush F d17_131 (z := 22) rfl ?_
  refine Run.bipush F d17_133 (z := 116) rfl ?_
  refine Run.castore F A22 gA (by decide) (i := 22) rfl (by simp) (y := 116) rfl d17_135 ?_
  intro h22 W22 K22 s22 A23
  replace K22 := K21.trans K22 (allS (Or.inr (Nat.le_of_eq hta.symm)) all0)
  clear A22 K21 W22 s22
  refine Run.dup F d17_136 rfl ?_
  refine Run.bipush F d17_137 (z := 23) rfl ?_
  refine Run.bipush F d17_139 (z := 101) rfl ?_
  refine Run.castore F A23 gA (by decide) (i := 23) rfl (by simp) (y := 101) rfl d17_141 ?_
  intro h23 W23 K23 s23 A24
  replace K23 := K22.trans K23 (allS (Or.inr (Nat.le_of_eq hta.symm)) all0)
  clear A23 K22 W23 s23
  refine Run.dup F d17_142 rfl ?_
  refine Run.bipush F d17_143 (z := 24) rfl ?_
  refine Run.bipush F d17_145 (z := 110) rfl ?_
  refine Run.castore F A24 gA (by decide) (i := 24) rfl (by simp) (y := 110) rfl d17_147 ?_
  intro h24 W24 K24 s24 A25
  replace K24 := K23.trans K24 (allS (Or.inr (Nat.le_of_eq hta.symm)) all0)
  clear A24 K23 W24 s24
  refine Run.dup F d17_148 rfl ?_
  refine Run.bipush F d17_149 (z := 25) rfl ?_
  refine Run.bipush F d17_151 (z := 115) rfl ?_
  refine Run.castore F A25 gA (by decide) (i := 25) rfl (by simp) (y := 115) rfl d17_153 ?_
  intro h25 W25 K25 s25 A26
  replace K25 := K24.trans K25 (allS (Or.inr (Nat.le_of_eq hta.symm)) all0)
  clear A25 K24 W25 s25
  refine Run.dup F d17_154 rfl ?_
  refine Run.bipush F d17_155 (z := 26) rfl ?_
  refine Run.bipush F d17_157 (z := 105) rfl ?_
  refine Run.castore F A26 gA (by decide) (i := 26) rfl (by simp) (y := 105) rfl d17_159 ?_
  intro h26 W26 K26 s26 A27
  replace K26 := K25.trans K26 (allS (Or.inr (Nat.le_of_eq hta.symm)) all0)
  clear A26 K25 W26 s26
  refine Run.dup F d17_160 rfl ?_
  refine Run.bipush F d17_161 (z := 27) rfl ?_
  refine Run.bipush F d17_163 (z := 111) rfl ?_
  refine Run.castore F A27 gA (by decide) (i := 27) rfl (by simp) (y := 111) rfl d17_165 ?_
  intro h27 W27 K27 s27 A28
  replace K27 := K26.trans K27 (allS (Or.inr (Nat.le_of_eq hta.symm)) all0)
  clear A27 K26 W27 s27
  refine Run.dup F d17_166 rfl ?_
  refine Run.bipush F d17_167 (z := 28) rfl ?_
  refine Run.bipush F d17_169 (z := 110) rfl ?_
  refine Run.castore F A28 gA (by decide) (i := 28) rfl (by simp) (y := 110) rfl d17_171 ?_
  intro h28 W28 K28 s28 A29
  replace K28 := K27.trans K28 (allS (Or.inr (Nat.le_of_eq hta.symm)) all0)
  clear A28 K27 W28 s28
  refine Run.dup F d17_172 rfl ?_
  refine Run.bipush F d17_173 (z := 29) rfl ?_
  refine Run.bipush F d17_175 (z := 115) rfl ?_
  refine Run.castore F A29 gA (by decide) (i := 29) rfl (by simp) (y := 115) rfl d17_177 ?_
  intro h29 W29 K29 s29 A30
  replace K29 := K28.trans K29 (allS (Or.inr (Nat.le_of_eq hta.symm)) all0)
  clear A29 K28 W29 s29
  refine Run.dup F d17_178 rfl ?_
  refine Run.bipush F d17_179 (z := 30) rfl ?_
  refine Run.bipush F d17_181 (z := 47) rfl ?_
  refine Run.castore F A30 gA (by decide) (i := 30) rfl (by simp) (y := 47) rfl d17_183 ?_
  intro h30 W30 K30 s30 A31
  replace K30 := K29.trans K30 (allS (Or.inr (Nat.le_of_eq hta.symm)) all0)
  clear A30 K29 W30 s30
  refine Run.dup F d17_184 rfl ?_
  refine Run.bipush F d17_185 (z := 31) rfl ?_
  refine Run.bipush F d17_187 (z := 120) rfl ?_
  refine Run.castore F A31 gA (by decide) (i := 31) rfl (by simp) (y := 120) rfl d17_189 ?_
  intro h31 W31 K31 s31 A32
  replace K31 := K30.trans K31 (allS (Or.inr (Nat.le_of_eq hta.symm)) all0)
  clear A31 K30 W31 s31
  refine Run.dup F d17_190 rfl ?_
  refine Run.bipush F d17_191 (z := 32) rfl ?_
  refine Run.bipush F d17_193 (z := 101) rfl ?_
  refine Run.castore F A32 gA (by decide) (i := 32) rfl (by simp) (y := 101) rfl d17_195 ?_
  intro h32 W32 K32 s32 A33
  replace K32 := K31.trans K32 (allS (Or.inr (Nat.le_of_eq hta.symm)) all0)
  clear A32 K31 W32 s32
  refine Run.dup F d17_196 rfl ?_
  refine Run.bipush F d17_197 (z := 33) rfl ?_
  refine Run.bipush F d17_199 (z := 112) rfl ?_
  refine Run.castore F A33 gA (by decide) (i := 33) rfl (by simp) (y := 112) rfl d17_201 ?_
  intro h33 W33 K33 s33 A34
  replace K33 := K32.trans K33 (allS (Or.inr (Nat.le_of_eq hta.symm)) all0)
  clear A33 K32 W33 s33
  refine Run.dup F d17_202 rfl ?_
  refine Run.bipush F d17_203 (z := 34) rfl ?_
  refine Run.bipush F d17_205 (z := 45) rfl ?_
  refine Run.castore F A34 gA (by decide) (i := 34) rfl (by simp) (y := 45) rfl d17_207 ?_
  intro h34 W34 K34 s34 A35
  replace K34 := K33.trans K34 (allS (Or.inr (Nat.le_of_eq hta.symm)) all0)
  clear A34 K33 W34 s34
  refine Run.dup F d17_208 rfl ?_
  refine Run.bipush F d17_209 (z := 35) rfl ?_
  refine Run.bipush F d17_211 (z := 48) rfl ?_
  refine Run.castore F A35 gA (by decide) (i := 35) rfl (by simp) (y := 48) rfl d17_213 ?_
  intro h35 W35 K35 s35 A36
  replace K35 := K34.trans K35 (allS (Or.inr (Nat.le_of_eq hta.symm)) all0)
  clear A35 K34 W35 s35
  refine Run.dup F d17_214 rfl ?_
  refine Run.bipush F d17_215 (z := 36) rfl ?_
  refine Run.bipush F d17_217 (z := 50) rfl ?_
  refine Run.castore F A36 gA (by decide) (i := 36) rfl (by simp) (y := 50) rfl d17_219 ?_
  intro h36 W36 K36 s36 A37
  replace K36 := K35.trans K36 (allS (Or.inr (Nat.le_of_eq hta.symm)) all0)
  clear A36 K35 W36 s36
  refine Run.dup F d17_220 rfl ?_
  refine Run.bipush F d17_221 (z := 37) rfl ?_
  refine Run.bipush F d17_223 (z := 50) rfl ?_
  refine Run.castore F A37 gA (by decide) (i := 37) rfl (by simp) (y := 50) rfl d17_225 ?_
  intro h37 W37 K37 s37 A38
  replace K37 := K36.trans K37 (allS (Or.inr (Nat.le_of_eq hta.symm)) all0)
  clear A37 K36 W37 s37
  refine Run.dup F d17_226 rfl ?_
  refine Run.bipush F d17_227 (z := 38) rfl ?_
  refine Run.bipush F d17_229 (z := 55) rfl ?_
  refine Run.castore F A38 gA (by decide) (i := 38) rfl (by simp) (y := 55) rfl d17_231 ?_
  intro h38 W38 K38 s38 A39
  replace K38 := K37.trans K38 (allS (Or.inr (Nat.le_of_eq hta.symm)) all0)
  clear A38 K37 W38 s38
  refine Run.dup F d17_232 rfl ?_
  refine Run.bipush F d17_233 (z := 39) rfl ?_
  refine Run.bipush F d17_235 (z := 46) rfl ?_
  refine Run.castore F A39 gA (by decide) (i := 39) rfl (by simp) (y := 46) rfl d17_237 ?_
  intro h39 W39 K39 s39 A40
  replace K39 := K38.trans K39 (allS (Or.inr (Nat.le_of_eq hta.symm)) all0)
  clear A39 K38 W39 s39
  refine Run.dup F d17_238 rfl ?_
  refine Run.bipush F d17_239 (z := 40) rfl ?_
  refine Run.bipush F d17_241 (z := 104) rfl ?_
  refine Run.castore F A40 gA (by decide) (i := 40) rfl (by simp) (y := 104) rfl d17_243 ?_
  intro h40 W40 K40 s40 A41
  replace K40 := K39.trans K40 (allS (Or.inr (Nat.le_of_eq hta.symm)) all0)
  clear A40 K39 W40 s40
  refine Run.dup F d17_244 rfl ?_
  refine Run.bipush F d17_245 (z := 41) rfl ?_
  refine Run.bipush F d17_247 (z := 116) rfl ?_
  refine Run.castore F A41 gA (by decide) (i := 41) rfl (by simp) (y := 116) rfl d17_249 ?_
  intro h41 W41 K41 s41 A42
  replace K41 := K40.trans K41 (allS (Or.inr (Nat.le_of_eq hta.symm)) all0)
  clear A41 K40 W41 s41
  refine Run.dup F d17_250 rfl ?_
  refine Run.bipush F d17_251 (z := 42) rfl ?_
  refine Run.bipush F d17_253 (z := 109) rfl ?_
  refine Run.castore F A42 gA (by decide) (i := 42) rfl (by simp) (y := 109) rfl d17_255 ?_
  intro h42 W42 K42 s42 A43
  replace K42 := K41.trans K42 (allS (Or.inr (Nat.le_of_eq hta.symm)) all0)
  clear A42 K41 W42 s42
  refine Run.dup F d17_256 rfl ?_
  refine Run.bipush F d17_257 (z := 43) rfl ?_
  refine Run.bipush F d17_259 (z := 108) rfl ?_
  refine Run.castore F A43 gA (by decide) (i := 43) rfl (by simp) (y := 108) rfl d17_261 ?_
  intro h43 W43 K43 s43 A44
  replace K43 := K42.trans K43 (allS (Or.inr (Nat.le_of_eq hta.symm)) all0)
  clear A43 K42 W43 s43
  refine Run.dup F d17_262 rfl ?_
  refine Run.bipush F d17_263 (z := 44) rfl ?_
  refine Run.bipush F d17_265 (z := 35) rfl ?_
  refine Run.castore F A44 gA (by decide) (i := 44) rfl (by simp) (y := 35) rfl d17_267 ?_
  intro h44 W44 K44 s44 A45
  replace K44 := K43.trans K44 (allS (Or.inr (Nat.le_of_eq hta.symm)) all0)
  clear A44 K43 W44 s44
  refine Run.dup F d17_268 rfl ?_
  refine Run.bipush F d17_269 (z := 45) rfl ?_
  refine Run.bipush F d17_271 (z := 110) rfl ?_
  refine Run.castore F A45 gA (by decide) (i := 45) rfl (by simp) (y := 110) rfl d17_273 ?_
  intro h45 W45 K45 s45 A46
  replace K45 := K44.trans K45 (allS (Or.inr (Nat.le_of_eq hta.symm)) all0)
  clear A45 K44 W45 s45
  refine Run.dup F d17_274 rfl ?_
  refine Run.bipush F d17_275 (z := 46) rfl ?_
  refine Run.bipush F d17_277 (z := 115) rfl ?_
  refine Run.castore F A46 gA (by decide) (i := 46) rfl (by simp) (y := 115) rfl d17_279 ?_
  intro h46 W46 K46 s46 A47
  replace K46 := K45.trans K46 (allS (Or.inr (Nat.le_of_eq hta.symm)) all0)
  clear A46 K45 W46 s46
  refine Run.dup F d17_280 rfl ?_
  refine Run.bipush F d17_281 (z := 47) rfl ?_
  refine Run.iloadN F d17_283 rfl ?_
  refine Run.castore F A47 gA (by decide) (i := 47) rfl (by simp) (chr_id hch.1 hch.2) d17_284 ?_
  intro h47 W47 K47 s47 A48
  replace K47 := K46.trans K47 (allS (Or.inr (Nat.le_of_eq hta.symm)) all0)
  clear A47 K46 W47 s47
  exact Run.areturn F rfl rfl (by decide) (by decide) d17_285 ⟨ta, rfl, K47, Nat.le_of_eq hta.symm, A48, rfl⟩
set_option maxRecDepth 65536 in
set_option maxHeartbeats 4000000 in
theorem c_oneD (l : Launch) (Z : State) (n0 : Nat) (a0 : Array Value) (hw : ∀ d ∈ tables_1, d.before a0 Z = true) (ch : Int32) (h : Heap) (Ls : Lits) (hO : Old Z n0 h) (hch : 0 ≤ ch.toInt ∧ ch.toInt < 65536) :
    Con l Z n0 (⟨"com/example/stanzavault/stanzavault/FormatFinalNamespacePinLaw", "oneThenDraft", "(C)[C"⟩ : MethodName) method_4_code 1 (some (.array .char)) ({ frames := 0, cells := 1, slots := 48, locals := 0 } : Room) [.int ch] h Ls [] (RV fun v h' Ls' => ∃ t : Nat, v = .ref t ∧ Keep h h' [] ∧ h.size ≤ t ∧ Av Z h' t .char ((ch :: dr).map Value.int) ∧ Ls = Ls') := by
  refine Con.of_run (plainFor_of_name pn3) hO ?_
  intro p e s m below meth c F hs
  refine ⟨[.val (.int ch)], by first | rfl | (simp [entryFrame, mkF, argsToLocals, Value.category]; done) | (rcases ref_cases hv with rfl | ⟨va, rfl⟩ <;> rfl), ?_⟩
  refine Run.bipush F d16_0 (z := 48) rfl ?_
  refine Run.newarray (aty := .char) F (w13 hw) (by decide) (len := 48) rfl 48 (by decide) rfl (by decide) (by decide) d16_2 ?_
  intro hA ta hta KA ltA A0
  have gA : n0 ≤ ta := by rw [hta, ← hO.1]; exact hO.2.1
  refine Run.dup F d16_4 rfl ?_
  refine Run.iconst F d16_5 (z := 0) rfl ?_
  refine Run.iloadN F d16_6 rfl ?_
  refine Run.castore F A0 gA (by decide) (i := 0) rfl (by simp) (chr_id hch.1 hch.2) d16_7 ?_
  intro h0 W0 K0 s0 A1
  replace K0 := KA.trans K0 (allS (Or.inr (Nat.le_of_eq hta.symm)) all0)
  clear A0 KA W0 s0
  refine Run.dup F d16_8 rfl ?_
  refine Run.iconst F d16_9 (z := 1) rfl ?_
  refine Run.bipush F d16_10 (z := 104) rfl ?_
  refine Run.castore F A1 gA (by decide) (i := 1) rfl (by simp) (y := 104) rfl d16_12 ?_
  intro h1 W1 K1 s1 A2
  replace K1 := K0.trans K1 (allS (Or.inr (Nat.le_of_eq hta.symm)) all0)
  clear A1 K0 W1 s1
  refine Run.dup F d16_13 rfl ?_
  refine Run.iconst F d16_14 (z := 2) rfl ?_
  refine Run.bipush F d16_15 (z := 116) rfl ?_
  refine Run.castore F A2 gA (by decide) (i := 2) rfl (by simp) (y := 116) rfl d16_17 ?_
  intro h2 W2 K2 s2 A3
  replace K2 := K1.trans K2 (allS (Or.inr (Nat.le_of_eq hta.symm)) all0)
  clear A2 K1 W2 s2
  refine Run.dup F d16_18 rfl ?_
  refine Run.iconst F d16_19 (z := 3) rfl ?_
  refine Run.bipush F d16_20 (z := 116) rfl ?_
  refine Run.castore F A3 gA (by decide) (i := 3) rfl (by simp) (y := 116) rfl d16_22 ?_
  intro h3 W3 K3 s3 A4
  replace K3 := K2.trans K3 (allS (Or.inr (Nat.le_of_eq hta.symm)) all0)
  clear A3 K2 W3 s3
  refine Run.dup F d16_23 rfl ?_
  refine Run.iconst F d16_24 (z := 4) rfl ?_
  refine Run.bipush F d16_25 (z := 112) rfl ?_
  refine Run.castore F A4 gA (by decide) (i := 4) rfl (by simp) (y := 112) rfl d16_27 ?_
  intro h4 W4 K4 s4 A5
  replace K4 := K3.trans K4 (allS (Or.inr (Nat.le_of_eq hta.symm)) all0)
  clear A4 K3 W4 s4
  refine Run.dup F d16_28 rfl ?_
  refine Run.iconst F d16_29 (z := 5) rfl ?_
  refine Run.bipush F d16_30 (z := 58) rfl ?_
  refine Run.castore F A5 gA (by decide) (i := 5) rfl (by simp) (y := 58) rfl d16_32 ?_
  intro h5 W5 K5 s5 A6
  replace K5 := K4.trans K5 (allS (Or.inr (Nat.le_of_eq hta.symm)) all0)
  clear A5 K4 W5 s5
  refine Run.dup F d16_33 rfl ?_
  refine Run.bipush F d16_34 (z := 6) rfl ?_
  refine Run.bipush F d16_36 (z := 47) rfl ?_
  refine Run.castore F A6 gA (by decide) (i := 6) rfl (by simp) (y := 47) rfl d16_38 ?_
  intro h6 W6 K6 s6 A7
  replace K6 := K5.trans K6 (allS (Or.inr (Nat.le_of_eq hta.symm)) all0)
  clear A6 K5 W6 s6
  refine Run.dup F d16_39 rfl ?_
  refine Run.bipush F d16_40 (z := 7) rfl ?_
  refine Run.bipush F d16_42 (z := 47) rfl ?_
  refine Run.castore F A7 gA (by decide) (i := 7) rfl (by simp) (y := 47) rfl d16_44 ?_
  intro h7 W7 K7 s7 A8
  replace K7 := K6.trans K7 (allS (Or.inr (Nat.le_of_eq hta.symm)) all0)
  clear A7 K6 W7 s7
  refine Run.dup F d16_45 rfl ?_
  refine Run.bipush F d16_46 (z := 8) rfl ?_
  refine Run.bipush F d16_48 (z := 119) rfl ?_
  refine Run.castore F A8 gA (by decide) (i := 8) rfl (by simp) (y := 119) rfl d16_50 ?_
  intro h8 W8 K8 s8 A9
  replace K8 := K7.trans K8 (allS (Or.inr (Nat.le_of_eq hta.symm)) all0)
  clear A8 K7 W8 s8
  refine Run.dup F d16_51 rfl ?_
  refine Run.bipush F d16_52 (z := 9) rfl ?_
  refine Run.bipush F d16_54 (z := 119) rfl ?_
  refine Run.castore F A9 gA (by decide) (i := 9) rfl (by simp) (y := 119) rfl d16_56 ?_
  intro h9 W9 K9 s9 A10
  replace K9 := K8.trans K9 (allS (Or.inr (Nat.le_of_eq hta.symm)) all0)
  clear A9 K8 W9 s9
  refine Run.dup F d16_57 rfl ?_
  refine Run.bipush F d16_58 (z := 10) rfl ?_
  refine Run.bipush F d16_60 (z := 119) rfl ?_
  refine Run.castore F A10 gA (by decide) (i := 10) rfl (by simp) (y := 119) rfl d16_62 ?_
  intro h10 W10 K10 s10 A11
  replace K10 := K9.trans K10 (allS (Or.inr (Nat.le_of_eq hta.symm)) all0)
  clear A10 K9 W10 s10
  refine Run.dup F d16_63 rfl ?_
  refine Run.bipush F d16_64 (z := 11) rfl ?_
  refine Run.bipush F d16_66 (z := 46) rfl ?_
  refine Run.castore F A11 gA (by decide) (i := 11) rfl (by simp) (y := 46) rfl d16_68 ?_
  intro h11 W11 K11 s11 A12
  replace K11 := K10.trans K11 (allS (Or.inr (Nat.le_of_eq hta.symm)) all0)
  clear A11 K10 W11 s11
  refine Run.dup F d16_69 rfl ?_
  refine Run.bipush F d16_70 (z := 12) rfl ?_
  refine Run.bipush F d16_72 (z := 120) rfl ?_
  refine Run.castore F A12 gA (by decide) (i := 12) rfl (by simp) (y := 120) rfl d16_74 ?_
  intro h12 W12 K12 s12 A13
  replace K12 := K11.trans K12 (allS (Or.inr (Nat.le_of_eq hta.symm)) all0)
  clear A12 K11 W12 s12
  refine Run.dup F d16_75 rfl ?_
  refine Run.bipush F d16_76 (z := 13) rfl ?_
  refine Run.bipush F d16_78 (z := 109) rfl ?_
  refine Run.castore F A13 gA (by decide) (i := 13) rfl (by simp) (y := 109) rfl d16_80 ?_
  intro h13 W13 K13 s13 A14
  replace K13 := K12.trans K13 (allS (Or.inr (Nat.le_of_eq hta.symm)) all0)
  clear A13 K12 W13 s13
  refine Run.dup F d16_81 rfl ?_
  refine Run.bipush F d16_82 (z := 14) rfl ?_
  refine Run.bipush F d16_84 (z := 112) rfl ?_
  refine Run.castore F A14 gA (by decide) (i := 14) rfl (by simp) (y := 112) rfl d16_86 ?_
  intro h14 W14 K14 s14 A15
  replace K14 := K13.trans K14 (allS (Or.inr (Nat.le_of_eq hta.symm)) all0)
  clear A14 K13 W14 s14
  refine Run.dup F d16_87 rfl ?_
  refine Run.bipush F d16_88 (z := 15) rfl ?_
  refine Run.bipush F d16_90 (z := 112) rfl ?_
  refine Run.castore F A15 gA (by decide) (i := 15) rfl (by simp) (y := 112) rfl d16_92 ?_
  intro h15 W15 K15 s15 A16
  replace K15 := K14.trans K15 (allS (Or.inr (Nat.le_of_eq hta.symm)) all0)
  clear A15 K14 W15 s15
  refine Run.dup F d16_93 rfl ?_
  refine Run.bipush F d16_94 (z := 16) rfl ?_
  refine Run.bipush F d16_96 (z := 46) rfl ?_
  refine Run.castore F A16 gA (by decide) (i := 16) rfl (by simp) (y := 46) rfl d16_98 ?_
  intro h16 W16 K16 s16 A17
  replace K16 := K15.trans K16 (allS (Or.inr (Nat.le_of_eq hta.symm)) all0)
  clear A16 K15 W16 s16
  refine Run.dup F d16_99 rfl ?_
  refine Run.bipush F d16_100 (z := 17) rfl ?_
  refine Run.bipush F d16_102 (z := 111) rfl ?_
  refine Run.castore F A17 gA (by decide) (i := 17) rfl (by simp) (y := 111) rfl d16_104 ?_
  intro h17 W17 K17 s17 A18
  replace K17 := K16.trans K17 (allS (Or.inr (Nat.le_of_eq hta.symm)) all0)
  clear A17 K16 W17 s17
  refine Run.dup F d16_105 rfl ?_
  refine Run.bipush F d16_106 (z := 18) rfl ?_
  refine Run.bipush F d16_108 (z := 114) rfl ?_
  refine Run.castore F A18 gA (by decide) (i := 18) rfl (by simp) (y := 114) rfl d16_110 ?_
  intro h18 W18 K18 s18 A19
  replace K18 := K17.trans K18 (allS (Or.inr (Nat.le_of_eq hta.symm)) all0)
  clear A18 K17 W18 s18
  refine Run.dup F d16_111 rfl ?_
  refine Run.bipush F d16_112 (z := 19) rfl ?_
  refine Run.bipush F d16_114 (z := 103) rfl ?_
  refine Run.castore F A19 gA (by decide) (i := 19) rfl (by simp) (y := 103) rfl d16_116 ?_
  intro h19 W19 K19 s19 A20
  replace K19 := K18.trans K19 (allS (Or.inr (Nat.le_of_eq hta.symm)) all0)
  clear A19 K18 W19 s19
  refine Run.dup F d16_117 rfl ?_
  refine Run.bipush F d16_118 (z := 20) rfl ?_
  refine Run.bipush F d16_120 (z := 47) rfl ?_
  refine Run.castore F A20 gA (by decide) (i := 20) rfl (by simp) (y := 47) rfl d16_122 ?_
  intro h20 W20 K20 s20 A21
  replace K20 := K19.trans K20 (allS (Or.inr (Nat.le_of_eq hta.symm)) all0)
  clear A20 K19 W20 s20
  refine Run.dup F d16_123 rfl ?_
  refine Run.bipush F d16_124 (z := 21) rfl ?_
  refine Run.bipush F d16_126 (z := 101) rfl ?_
  refine Run.castore F A21 gA (by decide) (i := 21) rfl (by simp) (y := 101) rfl d16_128 ?_
  intro h21 W21 K21 s21 A22
  replace K21 := K20.trans K21 (allS (Or.inr (Nat.le_of_eq hta.symm)) all0)
  clear A21 K20 W21 s21
  refine Run.dup F d16_129 rfl ?_
  refine Run.bipush F d16_130 (z := 22) rfl ?_
  refine Run.bipush F d16_132 (z := 120) rfl ?_
  refine Run.castore F A22 gA (by decide) (i := 22) rfl (by simp) (y := 120) rfl d16_134 ?_
  intro h22 W22 K22 s22 A23
  replace K22 := K21.trans K22 (allS (Or.inr (Nat.le_of_eq hta.symm)) all0)
  clear A22 K21 W22 s22
  refine Run.dup F d16_135 rfl ?_
  refine Run.bipush F d16_136 (z := 23) rfl ?_
  refine Run.bipush F d16_138 (z := 116) rfl ?_
  refine Run.castore F A23 gA (by decide) (i := 23) rfl (by simp) (y := 116) rfl d16_140 ?_
  intro h23 W23 K23 s23 A24
  replace K23 := K22.trans K23 (allS (Or.inr (Nat.le_of_eq hta.symm)) all0)
  clear A23 K22 W23 s23
  refine Run.dup F d16_141 rfl ?_
  refine Run.bipush F d16_142 (z := 24) rfl ?_
  refine Run.bipush F d16_144 (z := 101) rfl ?_
  refine Run.castore F A24 gA (by decide) (i := 24) rfl (by simp) (y := 101) rfl d16_146 ?_
  intro h24 W24 K24 s24 A25
  replace K24 := K23.trans K24 (allS (Or.inr (Nat.le_of_eq hta.symm)) all0)
  clear A24 K23 W24 s24
  refine Run.dup F d16_147 rfl ?_
  refine Run.bipush F d16_148 (z := 25) rfl ?_
  refine Run.bipush F d16_150 (z := 110) rfl ?_
  refine Run.castore F A25 gA (by decide) (i := 25) rfl (by simp) (y := 110) rfl d16_152 ?_
  intro h25 W25 K25 s25 A26
  replace K25 := K24.trans K25 (allS (Or.inr (Nat.le_of_eq hta.symm)) all0)
  clear A25 K24 W25 s25
  refine Run.dup F d16_153 rfl ?_
  refine Run.bipush F d16_154 (z := 26) rfl ?_
  refine Run.bipush F d16_156 (z := 115) rfl ?_
  refine Run.castore F A26 gA (by decide) (i := 26) rfl (by simp) (y := 115) rfl d16_158 ?_
  intro h26 W26 K26 s26 A27
  replace K26 := K25.trans K26 (allS (Or.inr (Nat.le_of_eq hta.symm)) all0)
  clear A26 K25 W26 s26
  refine Run.dup F d16_159 rfl ?_
  refine Run.bipush F d16_160 (z := 27) rfl ?_
  refine Run.bipush F d16_162 (z := 105) rfl ?_
  refine Run.castore F A27 gA (by decide) (i := 27) rfl (by simp) (y := 105) rfl d16_164 ?_
  intro h27 W27 K27 s27 A28
  replace K27 := K26.trans K27 (allS (Or.inr (Nat.le_of_eq hta.symm)) all0)
  clear A27 K26 W27 s27
  refine Run.dup F d16_165 rfl ?_
  refine Run.bipush F d16_166 (z := 28) rfl ?_
  refine Run.bipush F d16_168 (z := 111) rfl ?_
  refine Run.castore F A28 gA (by decide) (i := 28) rfl (by simp) (y := 111) rfl d16_170 ?_
  intro h28 W28 K28 s28 A29
  replace K28 := K27.trans K28 (allS (Or.inr (Nat.le_of_eq hta.symm)) all0)
  clear A28 K27 W28 s28
  refine Run.dup F d16_171 rfl ?_
  refine Run.bipush F d16_172 (z := 29) rfl ?_
  refine Run.bipush F d16_174 (z := 110) rfl ?_
  refine Run.castore F A29 gA (by decide) (i := 29) rfl (by simp) (y := 110) rfl d16_176 ?_
  intro h29 W29 K29 s29 A30
  replace K29 := K28.trans K29 (allS (Or.inr (Nat.le_of_eq hta.symm)) all0)
  clear A29 K28 W29 s29
  refine Run.dup F d16_177 rfl ?_
  refine Run.bipush F d16_178 (z := 30) rfl ?_
  refine Run.bipush F d16_180 (z := 115) rfl ?_
  refine Run.castore F A30 gA (by decide) (i := 30) rfl (by simp) (y := 115) rfl d16_182 ?_
  intro h30 W30 K30 s30 A31
  replace K30 := K29.trans K30 (allS (Or.inr (Nat.le_of_eq hta.symm)) all0)
  clear A30 K29 W30 s30
  refine Run.dup F d16_183 rfl ?_
  refine Run.bipush F d16_184 (z := 31) rfl ?_
  refine Run.bipush F d16_186 (z := 47) rfl ?_
  refine Run.castore F A31 gA (by decide) (i := 31) rfl (by simp) (y := 47) rfl d16_188 ?_
  intro h31 W31 K31 s31 A32
  replace K31 := K30.trans K31 (allS (Or.inr (Nat.le_of_eq hta.symm)) all0)
  clear A31 K30 W31 s31
  refine Run.dup F d16_189 rfl ?_
  refine Run.bipush F d16_190 (z := 32) rfl ?_
  refine Run.bipush F d16_192 (z := 120) rfl ?_
  refine Run.castore F A32 gA (by decide) (i := 32) rfl (by simp) (y := 120) rfl d16_194 ?_
  intro h32 W32 K32 s32 A33
  replace K32 := K31.trans K32 (allS (Or.inr (Nat.le_of_eq hta.symm)) all0)
  clear A32 K31 W32 s32
  refine Run.dup F d16_195 rfl ?_
  refine Run.bipush F d16_196 (z := 33) rfl ?_
  refine Run.bipush F d16_198 (z := 101) rfl ?_
  refine Run.castore F A33 gA (by decide) (i := 33) rfl (by simp) (y := 101) rfl d16_200 ?_
  intro h33 W33 K33 s33 A34
  replace K33 := K32.trans K33 (allS (Or.inr (Nat.le_of_eq hta.symm)) all0)
  clear A33 K32 W33 s33
  refine Run.dup F d16_201 rfl ?_
  refine Run.bipush F d16_202 (z := 34) rfl ?_
  refine Run.bipush F d16_204 (z := 112) rfl ?_
  refine Run.castore F A34 gA (by decide) (i := 34) rfl (by simp) (y := 112) rfl d16_206 ?_
  intro h34 W34 K34 s34 A35
  replace K34 := K33.trans K34 (allS (Or.inr (Nat.le_of_eq hta.symm)) all0)
  clear A34 K33 W34 s34
  refine Run.dup F d16_207 rfl ?_
  refine Run.bipush F d16_208 (z := 35) rfl ?_
  refine Run.bipush F d16_210 (z := 45) rfl ?_
  refine Run.castore F A35 gA (by decide) (i := 35) rfl (by simp) (y := 45) rfl d16_212 ?_
  intro h35 W35 K35 s35 A36
  replace K35 := K34.trans K35 (allS (Or.inr (Nat.le_of_eq hta.symm)) all0)
  clear A35 K34 W35 s35
  refine Run.dup F d16_213 rfl ?_
  refine Run.bipush F d16_214 (z := 36) rfl ?_
  refine Run.bipush F d16_216 (z := 48) rfl ?_
  refine Run.castore F A36 gA (by decide) (i := 36) rfl (by simp) (y := 48) rfl d16_218 ?_
  intro h36 W36 K36 s36 A37
  replace K36 := K35.trans K36 (allS (Or.inr (Nat.le_of_eq hta.symm)) all0)
  clear A36 K35 W36 s36
  refine Run.dup F d16_219 rfl ?_
  refine Run.bipush F d16_220 (z := 37) rfl ?_
  refine Run.bipush F d16_222 (z := 50) rfl ?_
  refine Run.castore F A37 gA (by decide) (i := 37) rfl (by simp) (y := 50) rfl d16_224 ?_
  intro h37 W37 K37 s37 A38
  replace K37 := K36.trans K37 (allS (Or.inr (Nat.le_of_eq hta.symm)) all0)
  clear A37 K36 W37 s37
  refine Run.dup F d16_225 rfl ?_
  refine Run.bipush F d16_226 (z := 38) rfl ?_
  refine Run.bipush F d16_228 (z := 50) rfl ?_
  refine Run.castore F A38 gA (by decide) (i := 38) rfl (by simp) (y := 50) rfl d16_230 ?_
  intro h38 W38 K38 s38 A39
  replace K38 := K37.trans K38 (allS (Or.inr (Nat.le_of_eq hta.symm)) all0)
  clear A38 K37 W38 s38
  refine Run.dup F d16_231 rfl ?_
  refine Run.bipush F d16_232 (z := 39) rfl ?_
  refine Run.bipush F d16_234 (z := 55) rfl ?_
  refine Run.castore F A39 gA (by decide) (i := 39) rfl (by simp) (y := 55) rfl d16_236 ?_
  intro h39 W39 K39 s39 A40
  replace K39 := K38.trans K39 (allS (Or.inr (Nat.le_of_eq hta.symm)) all0)
  clear A39 K38 W39 s39
  refine Run.dup F d16_237 rfl ?_
  refine Run.bipush F d16_238 (z := 40) rfl ?_
  refine Run.bipush F d16_240 (z := 46) rfl ?_
  refine Run.castore F A40 gA (by decide) (i := 40) rfl (by simp) (y := 46) rfl d16_242 ?_
  intro h40 W40 K40 s40 A41
  replace K40 := K39.trans K40 (allS (Or.inr (Nat.le_of_eq hta.symm)) all0)
  clear A40 K39 W40 s40
  refine Run.dup F d16_243 rfl ?_
  refine Run.bipush F d16_244 (z := 41) rfl ?_
  refine Run.bipush F d16_246 (z := 104) rfl ?_
  refine Run.castore F A41 gA (by decide) (i := 41) rfl (by simp) (y := 104) rfl d16_248 ?_
  intro h41 W41 K41 s41 A42
  replace K41 := K40.trans K41 (allS (Or.inr (Nat.le_of_eq hta.symm)) all0)
  clear A41 K40 W41 s41
  refine Run.dup F d16_249 rfl ?_
  refine Run.bipush F d16_250 (z := 42) rfl ?_
  refine Run.bipush F d16_252 (z := 116) rfl ?_
  refine Run.castore F A42 gA (by decide) (i := 42) rfl (by simp) (y := 116) rfl d16_254 ?_
  intro h42 W42 K42 s42 A43
  replace K42 := K41.trans K42 (allS (Or.inr (Nat.le_of_eq hta.symm)) all0)
  clear A42 K41 W42 s42
  refine Run.dup F d16_255 rfl ?_
  refine Run.bipush F d16_256 (z := 43) rfl ?_
  refine Run.bipush F d16_258 (z := 109) rfl ?_
  refine Run.castore F A43 gA (by decide) (i := 43) rfl (by simp) (y := 109) rfl d16_260 ?_
  intro h43 W43 K43 s43 A44
  replace K43 := K42.trans K43 (allS (Or.inr (Nat.le_of_eq hta.symm)) all0)
  clear A43 K42 W43 s43
  refine Run.dup F d16_261 rfl ?_
  refine Run.bipush F d16_262 (z := 44) rfl ?_
  refine Run.bipush F d16_264 (z := 108) rfl ?_
  refine Run.castore F A44 gA (by decide) (i := 44) rfl (by simp) (y := 108) rfl d16_266 ?_
  intro h44 W44 K44 s44 A45
  replace K44 := K43.trans K44 (allS (Or.inr (Nat.le_of_eq hta.symm)) all0)
  clear A44 K43 W44 s44
  refine Run.dup F d16_267 rfl ?_
  refine Run.bipush F d16_268 (z := 45) rfl ?_
  refine Run.bipush F d16_270 (z := 35) rfl ?_
  refine Run.castore F A45 gA (by decide) (i := 45) rfl (by simp) (y := 35) rfl d16_272 ?_
  intro h45 W45 K45 s45 A46
  replace K45 := K44.trans K45 (allS (Or.inr (Nat.le_of_eq hta.symm)) all0)
  clear A45 K44 W45 s45
  refine Run.dup F d16_273 rfl ?_
  refine Run.bipush F d16_274 (z := 46) rfl ?_
  refine Run.bipush F d16_276 (z := 110) rfl ?_
  refine Run.castore F A46 gA (by decide) (i := 46) rfl (by simp) (y := 110) rfl d16_278 ?_
  intro h46 W46 K46 s46 A47
  replace K46 := K45.trans K46 (allS (Or.inr (Nat.le_of_eq hta.symm)) all0)
  clear A46 K45 W46 s46
  refine Run.dup F d16_279 rfl ?_
  refine Run.bipush F d16_280 (z := 47) rfl ?_
  refine Run.bipush F d16_282 (z := 115) rfl ?_
  refine Run.castore F A47 gA (by decide) (i := 47) rfl (by simp) (y := 115) rfl d16_284 ?_
  intro h47 W47 K47 s47 A48
  replace K47 := K46.trans K47 (allS (Or.inr (Nat.le_of_eq hta.symm)) all0)
  clear A47 K46 W47 s47
  exact Run.areturn F rfl rfl (by decide) (by decide) d16_285 ⟨ta, rfl, K47, Nat.le_of_eq hta.symm, (by simpa [dr, newarray.typeOf, List.replicate, defaultValue] using A48), rfl⟩
set_option maxRecDepth 65536 in
set_option maxHeartbeats 4000000 in
theorem c_final (l : Launch) (Z : State) (n0 : Nat) (a0 : Array Value) (hw : ∀ d ∈ tables_1, d.before a0 Z = true) (x b : Nat) (co : Int32) (vs : List Value) (lt : List (String × Addr)) {cz : Int32} (SC : Sta Z Z.heap "java/lang/String" "COMPACT_STRINGS" "Z" (.int cz)) (hcz : cz.toInt ≠ 0) (wS : ∀ a ∈ Bundle.stringAtoms, a.before a0 Z = true) (hcw : Jvm.Lit.compactW.before a0 Z = true) (hh0 : Jvm.Lit.constHeld Z "com/example/stanzavault/stanzavault/Format" 9) (hh1 : Jvm.Lit.constHeld Z "com/example/stanzavault/stanzavault/Format" 17) (h : Heap) (Ls : Lits) (hO : Old Z n0 h) (S : Str Z h x b co vs) (hLs : Ls = some lt) (hlt : (∀ t ∈ lt, t.1 = drS → ∃ b : Nat, Str Z h t.2 b 0 (litB drS) ∧ True) ∧ (∀ t ∈ lt, t.1 = pieS → ∃ b : Nat, Str Z h t.2 b 0 (litB pieS) ∧ True)) :
    Con l Z n0 (⟨"com/example/stanzavault/stanzavault/Format", "finalNamespace", "(Ljava/lang/String;)Ljava/lang/String;"⟩ : MethodName) prog_11_method_2_code 1 (some (.object "java/lang/String")) ({ frames := 2, cells := 4, slots := 252, locals := 28 } : Room) [.ref x] h Ls [] (RV fun v h' Ls' => ∃ (r : Nat) (lt' : List (String × Addr)), v = .ref r ∧ Keep h h' [] ∧ Ls' = some lt' ∧ ((co.toInt = 0 ∧ vs = litB drS) → ∃ d, Str Z h' r d 0 (litB pieS)) ∧ (¬ (co.toInt = 0 ∧ vs = litB drS) → r = x) ∧ (∀ t ∈ lt', t.1 = drS → ∃ b : Nat, Str Z h' t.2 b 0 (litB drS) ∧ True) ∧ (∀ t ∈ lt', t.1 = pieS → ∃ b : Nat, Str Z h' t.2 b 0 (litB pieS) ∧ True)) := by
  refine Con.of_run (plainFor_of_name pn4) hO ?_
  intro p e s m below meth c F hs
  refine ⟨[.val (.ref x)], by first | rfl | (simp [entryFrame, mkF, argsToLocals, Value.category]; done) | (rcases ref_cases hv with rfl | ⟨va, rfl⟩ <;> rfl), ?_⟩
  subst hLs
  refine Run.ldcS (text := drS) (P := fun _ _ => True) F (w42 hw) wS hh0 hcw drS_lat hlt.1 188 drS_len rfl (by decide) (by decide) d8_0 ?_
  intro h1 a1 b1 K1 S1 _
  have Sx : Str Z h1 x b co vs := S.keep K1 nin0 nin0
  have hO1 : Old Z n0 h1 := hO.keep K1 all0
  have hlt1 : (∀ t ∈ ((drS, a1) :: lt), t.1 = drS → ∃ b : Nat, Str Z h1 t.2 b 0 (litB drS) ∧ True) ∧ (∀ t ∈ ((drS, a1) :: lt), t.1 = pieS → ∃ b : Nat, Str Z h1 t.2 b 0 (litB pieS) ∧ True) := by
    refine ⟨fun t ht he => ?_, fun t ht he => ?_⟩
    · rcases List.mem_cons.mp ht with rfl | ht
      · exact ⟨b1, S1, trivial⟩
      · obtain ⟨q, q1, -⟩ := hlt.1 t ht he; exact ⟨q, q1.keep K1 nin0 nin0, trivial⟩
    · rcases List.mem_cons.mp ht with rfl | ht
      · exact absurd he (by first | exact ne_pd | exact ne_dp | exact ne_pE | exact ne_dE | exact ne_Ed | exact ne_Ep)
      · obtain ⟨q, q1, -⟩ := hlt.2 t ht he; exact ⟨q, q1.keep K1 nin0 nin0, trivial⟩
  refine Run.aloadN F d8_2 rfl rfl ?_
  refine Run.callVirtual F (w43 hw) (w44 hw) (fun U hU => notFace_of_selects (args := #[]) (mvT hU (w46 hw))) (w46 hw) (w45 hw) (w1 hw) (w47 hw) S1.1 (c_equals l Z n0 a0 hw a1 x b1 b 0 co (litB drS) vs SC hcz h1 _ hO1 S1 Sx) rfl pd9 rfl rfl rfl rfl (by decide) (by decide) rfl d8_3 ?_
  rintro _ _ _ ⟨_, rfl, rfl, rfl, rfl⟩ _ _
  have hun : a1 = x → co.toInt = 0 ∧ vs = litB drS := fun e => by
    subst e; obtain ⟨e1, -, e3⟩ := Str.uniq S1 Sx; exact ⟨by rw [← e1]; rfl, e3.symm⟩
  have hz : (0 : Int32).toInt = 0 := rfl
  refine Run.ifB_eq F d8_6 (t := 14) rfl (fun q => ?_) (fun q => ?_)
  · refine Run.aloadN F d8_14 rfl rfl ?_
    simp only [Bool.or_eq_false_iff, Bool.and_eq_false_iff, decide_eq_false_iff_not] at q
    refine Run.areturn F rfl rfl (by decide) (by decide) d8_15 ⟨x, _, rfl, K1, rfl, fun qq => ?_, fun _ => rfl, hlt1⟩
    rcases q.2 with q2 | q2
    · exact absurd (by rw [hz]; exact qq.1.symm) q2
    · exact absurd qq.2.symm q2
  · have hyes : co.toInt = 0 ∧ vs = litB drS := by
      simp only [Bool.or_eq_true, Bool.and_eq_true, decide_eq_true_eq] at q
      rcases q with q | q
      · exact hun q
      · exact ⟨by rw [← q.1]; rfl, q.2.symm⟩
    refine Run.ldcS (text := pieS) (P := fun _ _ => True) F (w55 hw) wS hh1 hcw pieS_lat hlt1.2 56 pieS_len rfl (by decide) (by decide) d8_9 ?_
    intro h2 a2 b2 K2 S2 _
    refine Run.goto F d8_11 (t := 15) rfl ?_
    refine Run.areturn F rfl rfl (by decide) (by decide) d8_15 ⟨a2, _, rfl, K1.trans K2 all0, rfl, fun _ => ⟨b2, S2⟩, fun qq => absurd hyes qq, ?_⟩
    refine ⟨fun t ht he => ?_, fun t ht he => ?_⟩
    · rcases List.mem_cons.mp ht with rfl | ht
      · exact absurd he (by first | exact ne_pd | exact ne_dp | exact ne_pE | exact ne_dE | exact ne_Ed | exact ne_Ep)
      · obtain ⟨q, q1, -⟩ := hlt1.1 t ht he; exact ⟨q, q1.keep K2 nin0 nin0, trivial⟩
    · rcases List.mem_cons.mp ht with rfl | ht
      · exact ⟨b2, S2, trivial⟩
      · obtain ⟨q, q1, -⟩ := hlt1.2 t ht he; exact ⟨q, q1.keep K2 nin0 nin0, trivial⟩
set_option maxRecDepth 65536 in
set_option maxHeartbeats 40000000 in
theorem c_law (l : Launch) (Z : State) (n0 : Nat) (a0 : Array Value) (hw : ∀ d ∈ tables_1, d.before a0 Z = true) (i0 i1 i2 i3 i4 i5 : Int32) {cz : Int32} (SC : Sta Z Z.heap "java/lang/String" "COMPACT_STRINGS" "Z" (.int cz)) (hcz : cz.toInt ≠ 0) (UA : Sta Z Z.heap "java/lang/StringUTF16" "$assertionsDisabled" "Z" (.int 1)) (UH : Sta Z Z.heap "java/lang/StringUTF16" "HI_BYTE_SHIFT" "I" (.int 0)) (UL : Sta Z Z.heap "java/lang/StringUTF16" "LO_BYTE_SHIFT" "I" (.int 8)) (wS : ∀ a ∈ Bundle.stringAtoms, a.before a0 Z = true) (hcw : Jvm.Lit.compactW.before a0 Z = true) (hh0 : Jvm.Lit.constHeld Z "com/example/stanzavault/stanzavault/Format" 9) (hh1 : Jvm.Lit.constHeld Z "com/example/stanzavault/stanzavault/Format" 17) (hh2 : Jvm.Lit.constHeld Z "com/example/stanzavault/stanzavault/FormatFinalNamespacePinLaw" 7) (hh3 : Jvm.Lit.constHeld Z "com/example/stanzavault/stanzavault/FormatFinalNamespacePinLaw" 38) (hhE : Jvm.Lit.constHeld Z "java/lang/String" 7) (h : Heap) (Ls : Lits) (hO : Old Z n0 h) (hLs : Ls = some []) :
    Con l Z n0 x code maxLocals ret room_1 [.int i0, .int i1, .int i2, .int i3, .int i4, .int i5] h Ls tables_1 (RV fun v h' Ls' => v = .int 1) := by
  refine Con.of_run (plainFor_of_name pn3) hO ?_
  intro p e s m below meth c F hs
  refine ⟨[.val (.int i0), .val (.int i1), .val (.int i2), .val (.int i3), .val (.int i4), .val (.int i5), .unset, .unset, .unset, .unset, .unset, .unset, .unset], by first | rfl | (simp [entryFrame, mkF, argsToLocals, Value.category, maxLocals]; done), ?_⟩
  subst hLs
  refine Run.ldcS (text := pieS) (P := fun _ _ => True) F (w0 hw) wS hh2 hcw pieS_lat (fun t ht => nomatch ht) 56 pieS_len rfl (by decide) (by decide) d0_0 ?_
  intro h1 a6 b6 K1 S6 _
  have O1 : Old Z n0 h1 := hO.keep K1 all0
  have hlt1 : (∀ t ∈ [(pieS, a6)], t.1 = drS → ∃ b : Nat, Str Z h1 t.2 b 0 (litB drS) ∧ True) ∧ (∀ t ∈ [(pieS, a6)], t.1 = pieS → ∃ b : Nat, Str Z h1 t.2 b 0 (litB pieS) ∧ True) := by
    refine ⟨fun t ht he => ?_, fun t ht he => ?_⟩
    · rcases List.mem_cons.mp ht with rfl | ht
      · exact absurd he (by first | exact ne_pd | exact ne_dp | exact ne_pE | exact ne_dE | exact ne_Ed | exact ne_Ep)
      · exact nomatch ht
    · rcases List.mem_cons.mp ht with rfl | ht
      · exact ⟨b6, S6, trivial⟩
      · exact nomatch ht
  have hlE : ∀ t ∈ [(pieS, a6)], t.1 ≠ "" := fun t ht => by
    rcases List.mem_cons.mp ht with rfl | ht
    · exact ne_pE
    · exact nomatch ht
  refine Run.astore F d0_2 rfl rfl ?_
  dsimp only [List.set]
  refine Run.iloadN F d0_4 rfl ?_
  refine Run.ldcInt F (w8 hw) d0_5 ?_
  refine Run.iand F d0_7 ?_
  refine Run.iconst F d0_8 (z := 5) rfl ?_
  refine Run.irem F d0_9 (by decide) ?_
  refine Run.istore F d0_10 rfl ?_
  dsimp only [List.set]
  have q31 : 0 ≤ (i0 &&& 2147483647).toInt := by rw [mask31]; omega
  have hn : ∃ j : Nat, j < 5 ∧ (i0 &&& 2147483647) % 5 = Int32.ofNat j := by
    have e := i32_mod (y := 5) q31 (by decide)
    have e5 : (5 : Int32).toInt = 5 := rfl
    rw [e5] at e
    exact ⟨((i0 &&& 2147483647).toInt % 5).toNat, by omega, i32_eq (by rw [e]; omega)⟩
  generalize (i0 &&& 2147483647) % 5 = nn at hn ⊢
  obtain ⟨j, hj, rfl⟩ := hn
  have hch : 0 ≤ (chr i2).toInt ∧ (chr i2).toInt < 65536 := by rw [chr_toInt]; omega
  rcases (show j = 0 ∨ j = 1 ∨ j = 2 ∨ j = 3 ∨ j = 4 by omega) with rfl | rfl | rfl | rfl | rfl
  · refine Run.iload F d0_12 rfl ?_
    refine Run.ifNo F d0_14 rfl ?_
    refine Run.callStatic F (w9 hw) (w10 hw) (w11 hw) (w12 hw) (c_draft l Z n0 a0 hw h1 _ O1) rfl pd11 rfl rfl rfl rfl (by decide) (by decide) rfl d0_17 ?_
    rintro _ h2 _ ⟨_, rfl, t, rfl, K2, ht, A2, rfl⟩ O2 _
    refine Run.astore F d0_20 rfl rfl ?_
    dsimp only [List.set]
    refine Run.iloadN F d0_22 rfl ?_
    refine Run.ldcInt F (w8 hw) d0_23 ?_
    refine Run.iand F d0_25 ?_
    refine Run.bipush F d0_26 (z := 48) rfl ?_
    refine Run.irem F d0_28 (by decide) ?_
    refine Run.istore F d0_29 rfl ?_
    dsimp only [List.set]
    have q31b : 0 ≤ (i1 &&& 2147483647).toInt := by rw [mask31]; omega
    have hm : ∃ ii : Nat, ii < 48 ∧ (i1 &&& 2147483647) % 48 = Int32.ofNat ii := by
      have e := i32_mod (y := 48) q31b (by decide)
      have e5 : (48 : Int32).toInt = 48 := rfl
      rw [e5] at e
      exact ⟨((i1 &&& 2147483647).toInt % 48).toNat, by omega, i32_eq (by rw [e]; omega)⟩
    generalize (i1 &&& 2147483647) % 48 = mm at hm ⊢
    obtain ⟨ii, hii, rfl⟩ := hm
    have lt2 := A2.lt
    have gt : n0 ≤ t := by have := O1.2.1; have := O1.1; omega
    refine Run.iconst F d0_31 (z := 1) rfl ?_
    refine Run.istore F d0_32 rfl ?_
    dsimp only [List.set]
    refine Run.via (pcJ := 75) (fun h' k n Ls' L st => k = 2 + 1 ∧ n = 60 + 47 ∧ Ls' = some [(pieS, a6)] ∧ ∃ sm ds x11, Keep h2 h' [t] ∧ h'.size = h2.size ∧ Old Z n0 h' ∧ Av Z h' t .char ((ds : List Int32).map Value.int) ∧ (∀ c ∈ ds, 0 ≤ c.toInt ∧ c.toInt < 65536) ∧ ds.length = 47 ∧ (sm = true → ds = dr) ∧ (sm = false → ds ≠ dr) ∧ okSlot x11 = true ∧ L = [.val (.int i0), .val (.int i1), .val (.int i2), .val (.int i3), .val (.int i4), .val (.int i5), .val (.ref a6), .val (.int (Int32.ofNat 0)), .val (.ref t), .val (.int (Int32.ofNat ii)), .val (.int (b2i sm)), x11, .unset] ∧ st = []) ?_ ?_
    · rintro h3 _ _ _ _ _ ⟨rfl, rfl, rfl, sm, ds, x11, K3, s3, O3, A3, r3, l3, e1, e2, hx11, rfl, rfl⟩
      refine Run.new F (w14 hw) (w2 hw) (w1 hw) (by decide) (by decide) d0_75 ?_
      intro hN x hx KN ltN EN DN UN
      have ON : Old Z n0 hN := O3.keep KN all0
      have gx : n0 ≤ x := by rw [hx, ← O3.1]; exact O3.2.1
      have Fv : Fld Z hN x "java/lang/String" "value" "[B" .null := DN (Or.inr (w4 hw)) (ty := .array .byte) (by decide)
      have Fc : Fld Z hN x "java/lang/String" "coder" "B" (.int 0) := DN (Or.inr (w5 hw)) (ty := .byte) (by decide)
      refine Run.dup F d0_78 rfl ?_
      refine Run.aload F d0_79 rfl rfl ?_
      refine Run.callInit F (w15 hw) (w16 hw) (w1 hw) (w17 hw) (c_newG l Z n0 a0 hw x t ds SC hcz UA UH UL hN _ ON EN Fv Fc gx (A3.keep KN nin0) (by omega) (by omega) r3) rfl rfl pd12 rfl rfl rfl rfl (by decide) (by decide) rfl d0_81 ?_
      rintro _ h4 _ ⟨rfl, bx, K4, hbx, S4, rfl⟩ O4 _
      show Run _ _ _ _ _ _ _ _ _ _ _ _ _ _ _ _ _ _ _ _ [Value.ref x]
      have l6a := S6.la
      have l6b := S6.lb
      have n2 : h1.size ≤ h2.size := K2.1
      have S6' : Str Z h4 a6 b6 0 (litB pieS) := (((S6.keep K2 nin0 nin0).keep K3 (ninN (by omega) nin0) (ninN (by omega) nin0)).keep KN nin0 nin0).keep K4 (ninN (by omega) nin0) (ninN (by omega) nin0)
      have hlt4 : (∀ t ∈ [(pieS, a6)], t.1 = drS → ∃ b : Nat, Str Z h4 t.2 b 0 (litB drS) ∧ True) ∧ (∀ t ∈ [(pieS, a6)], t.1 = pieS → ∃ b : Nat, Str Z h4 t.2 b 0 (litB pieS) ∧ True) := by
        refine ⟨fun t ht he => ?_, fun t ht he => ?_⟩
        · rcases List.mem_cons.mp ht with rfl | ht
          · exact absurd he (by first | exact ne_pd | exact ne_dp | exact ne_pE | exact ne_dE | exact ne_Ed | exact ne_Ep)
          · exact nomatch ht
        · rcases List.mem_cons.mp ht with rfl | ht
          · exact ⟨b6, S6', trivial⟩
          · exact nomatch ht
      refine Run.astore F d0_84 (by simp [hx11]) rfl ?_
      dsimp only [List.set]
      refine Run.aload F d0_86 rfl rfl ?_
      refine Run.callStatic F (w38 hw) (w39 hw) (w40 hw) (w41 hw) (c_final l Z n0 a0 hw x bx (coOf ds) (byOf ds) [(pieS, a6)] SC hcz wS hcw hh0 hh1 h4 _ O4 S4 rfl hlt4) rfl pd10 rfl rfl rfl rfl (by decide) (by decide) rfl d0_88 ?_
      rintro _ h5 _ ⟨_, rfl, rr, lt', rfl, K5, rfl, hy, hn, hlt5⟩ O5 _
      have S45 := S4.keep K5 nin0 nin0
      refine Run.astore F d0_91 rfl rfl ?_
      dsimp only [List.set]
      refine Run.iload F d0_93 rfl ?_
      refine Run.ifB_eq F d0_95 (t := 108) rfl (fun q => ?_) (fun q => ?_)
      · have er : rr = x := hn (dr_ne r3 (e2 q))
        subst er
        refine Run.aload F d0_108 rfl rfl ?_
        refine Run.aload F d0_110 rfl rfl ?_
        refine Run.callVirtual F (w53 hw) (w44 hw) (fun U hU => notFace_of_selects (args := #[]) (mvT hU (w46 hw))) (w46 hw) (w45 hw) (w1 hw) (w47 hw) S45.1 (c_equals l Z n0 a0 hw rr rr bx bx _ _ _ _ SC hcz h5 _ O5 S45 S45) rfl pd9 rfl rfl rfl rfl (by decide) (by decide) rfl d0_112 ?_
        rintro _ _ _ ⟨_, rfl, rfl, rfl, rfl⟩ _ _
        simp only [decide_true, Bool.true_or]
        exact Run.ireturn F (by simp) rfl (by decide) (by decide) d0_115 rfl
      · obtain ⟨dd, Sr⟩ := hy (by rw [e1 q]; exact dr_eq)
        refine Run.aload F d0_98 rfl rfl ?_
        refine Run.aload F d0_100 rfl rfl ?_
        refine Run.callVirtual F (w53 hw) (w44 hw) (fun U hU => notFace_of_selects (args := #[]) (mvT hU (w46 hw))) (w46 hw) (w45 hw) (w1 hw) (w47 hw) (S6'.keep K5 nin0 nin0).1 (c_equals l Z n0 a0 hw a6 rr b6 dd 0 0 _ _ SC hcz h5 _ O5 (S6'.keep K5 nin0 nin0) Sr) rfl pd9 rfl rfl rfl rfl (by decide) (by decide) rfl d0_102 ?_
        rintro _ _ _ ⟨_, rfl, rfl, rfl, rfl⟩ _ _
        simp only [decide_true, Bool.and_self, Bool.or_true]
        refine Run.goto F d0_105 (t := 115) rfl ?_
        exact Run.ireturn F (by simp) rfl (by decide) (by decide) d0_115 rfl
    · intro J
      refine Run.iload F d0_34 rfl ?_
      refine Run.bipush F d0_36 (z := 47) rfl ?_
      refine Run.icmp_ge F d0_38 (t := 75) rfl (i32_ti (by omega)) (yi := 47) rfl (fun q => ?_) (fun q => ?_)
      · exact J _ _ _ _ _ _ ⟨rfl, rfl, rfl, true, dr, .unset, Keep.refl _ _, rfl, O2, A2, dr_rng16, rfl, fun _ => rfl, (fun q => nomatch q), rfl, rfl, rfl⟩
      · refine Run.iloadN F d0_41 rfl ?_
        refine Run.iconst F d0_42 (z := 1) rfl ?_
        refine Run.iand F d0_43 ?_
        refine Run.if_eq F d0_44 (t := 75) rfl rfl (fun q2 => ?_) (fun q2 => ?_)
        · exact J _ _ _ _ _ _ ⟨rfl, rfl, rfl, true, dr, .unset, Keep.refl _ _, rfl, O2, A2, dr_rng16, rfl, fun _ => rfl, (fun q => nomatch q), rfl, rfl, rfl⟩
        · have hlt : ii < dr.length := by show ii < 47; omega
          obtain ⟨dc, hdc⟩ : ∃ dc, dr[ii]? = some dc := ⟨_, List.getElem?_eq_getElem hlt⟩
          refine Run.iloadN F d0_47 rfl ?_
          refine Run.i2c F d0_48 ?_
          refine Run.istore F d0_49 rfl ?_
          dsimp only [List.set]
          refine Run.aload F d0_51 rfl rfl ?_
          refine Run.iload F d0_53 rfl ?_
          refine Run.caload F A2 (i32_nn (by omega)) (i32_tn (by omega)) (mapInt_get hdc) d0_55 ?_
          refine Run.iload F d0_56 rfl ?_
          refine Run.viaS (pcJ := 66) (fun st => st = [.int (b2i (decide (dc = chr i2)))]) ?_ ?_
          · rintro _ rfl
            refine Run.istore F d0_66 rfl ?_
            dsimp only [List.set]
            refine Run.aload F d0_68 rfl rfl ?_
            refine Run.iload F d0_70 rfl ?_
            refine Run.iload F d0_72 rfl ?_
            refine Run.castore F A2 gt (i32_nn (by omega)) (i32_tn (by omega)) (by simpa using hlt) (chr_id hch.1 hch.2) d0_74 ?_
            intro h3 W3 K3 s3 A3
            refine J _ _ _ _ _ _ ⟨rfl, rfl, rfl, decide (dc = chr i2), dr.set ii (chr i2), _, K3, s3, O2.wr W3 gt, by rw [List.map_set]; exact A3, ?_, by simp [dr], ?_, ?_, ?_, rfl, rfl⟩
            · intro c hc
              rcases List.mem_or_eq_of_mem_set hc with y | y
              · exact dr_rng16 c y
              · exact y ▸ hch
            · intro q
              have e := of_decide_eq_true q
              subst e
              exact set_self hdc
            · intro q e
              have e' := of_decide_eq_false q
              have : (dr.set ii (chr i2))[ii]? = some dc := by rw [e]; exact hdc
              rw [List.getElem?_set_self hlt] at this
              exact e' (Option.some.inj this).symm
            · rfl
          · intro J2
            refine Run.icmp_ne F d0_58 (t := 65) rfl rfl rfl (fun q3 => ?_) (fun q3 => ?_)
            · refine Run.iconst F d0_65 (z := 0) rfl ?_
              exact J2 _ (by rw [decide_eq_false fun e => q3 (by rw [e])]; rfl)
            · refine Run.iconst F d0_61 (z := 1) rfl ?_
              refine Run.goto F d0_62 (t := 66) rfl ?_
              exact J2 _ (by rw [decide_eq_true (Int32.toInt_inj.mp q3)]; rfl)
  · refine Run.iload F d0_12 rfl ?_
    refine Run.ifYes F d0_14 (t := 116) rfl rfl ?_
    refine Run.iload F d0_116 rfl ?_
    refine Run.iconst F d0_118 (z := 1) rfl ?_
    refine Run.icmpNo F d0_119 rfl ?_
    refine Run.new F (w14 hw) (w2 hw) (w1 hw) (by decide) (by decide) d0_122 ?_
    intro hN x hx KN ltN EN DN UN
    have ON : Old Z n0 hN := O1.keep KN all0
    have gx : n0 ≤ x := by rw [hx, ← O1.1]; exact O1.2.1
    have Fv : Fld Z hN x "java/lang/String" "value" "[B" .null := DN (Or.inr (w4 hw)) (ty := .array .byte) (by decide)
    have Fc : Fld Z hN x "java/lang/String" "coder" "B" (.int 0) := DN (Or.inr (w5 hw)) (ty := .byte) (by decide)
    refine Run.dup F d0_125 rfl ?_
    refine Run.iloadN F d0_126 rfl ?_
    refine Run.i2c F d0_127 ?_
    refine Run.callStatic F (w79 hw) (w80 hw) (w11 hw) (w81 hw) (c_dOne l Z n0 a0 hw (chr i2) hN _ ON hch) rfl pd13 rfl rfl rfl rfl (by decide) (by decide) rfl d0_128 ?_
    rintro _ h2 _ ⟨_, rfl, t, rfl, K2, ht, A2, rfl⟩ O2 _
    have r3 : ∀ c ∈ (dr ++ [chr i2] : List Int32), 0 ≤ c.toInt ∧ c.toInt < 65536 := by
      intro c hc
      simp only [List.mem_append, List.mem_cons, List.not_mem_nil, or_false] at hc
      rcases hc with hc | hc
      · exact dr_rng16 c hc
      · exact hc ▸ hch
    refine Run.callInit F (w15 hw) (w16 hw) (w1 hw) (w17 hw) (c_newG l Z n0 a0 hw x t (dr ++ [chr i2]) SC hcz UA UH UL h2 _ O2 (EN.keep K2) (Fv.keep K2 nin0) (Fc.keep K2 nin0) gx A2 (by simp) (by simp [dr]) r3) rfl rfl pd12 rfl rfl rfl rfl (by decide) (by decide) rfl d0_131 ?_
    rintro _ h4 _ ⟨rfl, bx, K4, hbx, S4, rfl⟩ O4 _
    show Run _ _ _ _ _ _ _ _ _ _ _ _ _ _ _ _ _ _ _ _ [Value.ref x]
    have l6a := S6.la
    have l6b := S6.lb
    have n2 : h1.size ≤ hN.size := KN.1
    have n3 : hN.size ≤ h2.size := K2.1
    have S6' : Str Z h4 a6 b6 0 (litB pieS) := ((S6.keep KN nin0 nin0).keep K2 nin0 nin0).keep K4 (ninN (by omega) nin0) (ninN (by omega) nin0)
    have hlt4 : (∀ t ∈ [(pieS, a6)], t.1 = drS → ∃ b : Nat, Str Z h4 t.2 b 0 (litB drS) ∧ True) ∧ (∀ t ∈ [(pieS, a6)], t.1 = pieS → ∃ b : Nat, Str Z h4 t.2 b 0 (litB pieS) ∧ True) := by
      refine ⟨fun t ht he => ?_, fun t ht he => ?_⟩
      · rcases List.mem_cons.mp ht with rfl | ht
        · exact absurd he (by first | exact ne_pd | exact ne_dp | exact ne_pE | exact ne_dE | exact ne_Ed | exact ne_Ep)
        · exact nomatch ht
      · rcases List.mem_cons.mp ht with rfl | ht
        · exact ⟨b6, S6', trivial⟩
        · exact nomatch ht
    refine Run.astore F d0_134 rfl rfl ?_
    dsimp only [List.set]
    refine Run.aload F d0_136 rfl rfl ?_
    refine Run.callStatic F (w38 hw) (w39 hw) (w40 hw) (w41 hw) (c_final l Z n0 a0 hw x bx _ _ [(pieS, a6)] SC hcz wS hcw hh0 hh1 h4 _ O4 S4 rfl hlt4) rfl pd10 rfl rfl rfl rfl (by decide) (by decide) rfl d0_138 ?_
    rintro _ h5 _ ⟨_, rfl, rr, lt', rfl, K5, rfl, hy, hn, hlt5⟩ O5 _
    have er : rr = x := hn (dr_ne r3 (fun e => by have := congrArg List.length e; simp [dr] at this))
    subst er
    have S45 := S4.keep K5 nin0 nin0
    refine Run.astore F d0_141 rfl rfl ?_
    dsimp only [List.set]
    refine Run.aload F d0_143 rfl rfl ?_
    refine Run.aload F d0_145 rfl rfl ?_
    refine Run.callVirtual F (w53 hw) (w44 hw) (fun U hU => notFace_of_selects (args := #[]) (mvT hU (w46 hw))) (w46 hw) (w45 hw) (w1 hw) (w47 hw) S45.1 (c_equals l Z n0 a0 hw rr rr bx bx _ _ _ _ SC hcz h5 _ O5 S45 S45) rfl pd9 rfl rfl rfl rfl (by decide) (by decide) rfl d0_147 ?_
    rintro _ _ _ ⟨_, rfl, rfl, rfl, rfl⟩ _ _
    simp only [decide_true, Bool.true_or]
    exact Run.ireturn F (by simp) rfl (by decide) (by decide) d0_150 rfl
  · refine Run.iload F d0_12 rfl ?_
    refine Run.ifYes F d0_14 (t := 116) rfl rfl ?_
    refine Run.iload F d0_116 rfl ?_
    refine Run.iconst F d0_118 (z := 1) rfl ?_
    refine Run.icmpYes F d0_119 (t := 151) rfl rfl ?_
    refine Run.iload F d0_151 rfl ?_
    refine Run.iconst F d0_153 (z := 2) rfl ?_
    refine Run.icmpNo F d0_154 rfl ?_
    refine Run.new F (w14 hw) (w2 hw) (w1 hw) (by decide) (by decide) d0_157 ?_
    intro hN x hx KN ltN EN DN UN
    have ON : Old Z n0 hN := O1.keep KN all0
    have gx : n0 ≤ x := by rw [hx, ← O1.1]; exact O1.2.1
    have Fv : Fld Z hN x "java/lang/String" "value" "[B" .null := DN (Or.inr (w4 hw)) (ty := .array .byte) (by decide)
    have Fc : Fld Z hN x "java/lang/String" "coder" "B" (.int 0) := DN (Or.inr (w5 hw)) (ty := .byte) (by decide)
    refine Run.dup F d0_160 rfl ?_
    refine Run.iloadN F d0_161 rfl ?_
    refine Run.i2c F d0_162 ?_
    refine Run.callStatic F (w76 hw) (w77 hw) (w11 hw) (w78 hw) (c_oneD l Z n0 a0 hw (chr i2) hN _ ON hch) rfl pd13 rfl rfl rfl rfl (by decide) (by decide) rfl d0_163 ?_
    rintro _ h2 _ ⟨_, rfl, t, rfl, K2, ht, A2, rfl⟩ O2 _
    have r3 : ∀ c ∈ (chr i2 :: dr : List Int32), 0 ≤ c.toInt ∧ c.toInt < 65536 := by
      intro c hc
      simp only [List.mem_append, List.mem_cons, List.not_mem_nil, or_false] at hc
      rcases hc with hc | hc
      · exact hc ▸ hch
      · exact dr_rng16 c hc
    refine Run.callInit F (w15 hw) (w16 hw) (w1 hw) (w17 hw) (c_newG l Z n0 a0 hw x t (chr i2 :: dr) SC hcz UA UH UL h2 _ O2 (EN.keep K2) (Fv.keep K2 nin0) (Fc.keep K2 nin0) gx A2 (by simp) (by simp [dr]) r3) rfl rfl pd12 rfl rfl rfl rfl (by decide) (by decide) rfl d0_166 ?_
    rintro _ h4 _ ⟨rfl, bx, K4, hbx, S4, rfl⟩ O4 _
    show Run _ _ _ _ _ _ _ _ _ _ _ _ _ _ _ _ _ _ _ _ [Value.ref x]
    have l6a := S6.la
    have l6b := S6.lb
    have n2 : h1.size ≤ hN.size := KN.1
    have n3 : hN.size ≤ h2.size := K2.1
    have S6' : Str Z h4 a6 b6 0 (litB pieS) := ((S6.keep KN nin0 nin0).keep K2 nin0 nin0).keep K4 (ninN (by omega) nin0) (ninN (by omega) nin0)
    have hlt4 : (∀ t ∈ [(pieS, a6)], t.1 = drS → ∃ b : Nat, Str Z h4 t.2 b 0 (litB drS) ∧ True) ∧ (∀ t ∈ [(pieS, a6)], t.1 = pieS → ∃ b : Nat, Str Z h4 t.2 b 0 (litB pieS) ∧ True) := by
      refine ⟨fun t ht he => ?_, fun t ht he => ?_⟩
      · rcases List.mem_cons.mp ht with rfl | ht
        · exact absurd he (by first | exact ne_pd | exact ne_dp | exact ne_pE | exact ne_dE | exact ne_Ed | exact ne_Ep)
        · exact nomatch ht
      · rcases List.mem_cons.mp ht with rfl | ht
        · exact ⟨b6, S6', trivial⟩
        · exact nomatch ht
    refine Run.astore F d0_169 rfl rfl ?_
    dsimp only [List.set]
    refine Run.aload F d0_171 rfl rfl ?_
    refine Run.callStatic F (w38 hw) (w39 hw) (w40 hw) (w41 hw) (c_final l Z n0 a0 hw x bx _ _ [(pieS, a6)] SC hcz wS hcw hh0 hh1 h4 _ O4 S4 rfl hlt4) rfl pd10 rfl rfl rfl rfl (by decide) (by decide) rfl d0_173 ?_
    rintro _ h5 _ ⟨_, rfl, rr, lt', rfl, K5, rfl, hy, hn, hlt5⟩ O5 _
    have er : rr = x := hn (dr_ne r3 (fun e => by have := congrArg List.length e; simp [dr] at this))
    subst er
    have S45 := S4.keep K5 nin0 nin0
    refine Run.astore F d0_176 rfl rfl ?_
    dsimp only [List.set]
    refine Run.aload F d0_178 rfl rfl ?_
    refine Run.aload F d0_180 rfl rfl ?_
    refine Run.callVirtual F (w53 hw) (w44 hw) (fun U hU => notFace_of_selects (args := #[]) (mvT hU (w46 hw))) (w46 hw) (w45 hw) (w1 hw) (w47 hw) S45.1 (c_equals l Z n0 a0 hw rr rr bx bx _ _ _ _ SC hcz h5 _ O5 S45 S45) rfl pd9 rfl rfl rfl rfl (by decide) (by decide) rfl d0_182 ?_
    rintro _ _ _ ⟨_, rfl, rfl, rfl, rfl⟩ _ _
    simp only [decide_true, Bool.true_or]
    exact Run.ireturn F (by simp) rfl (by decide) (by decide) d0_185 rfl
  · refine Run.iload F d0_12 rfl ?_
    refine Run.ifYes F d0_14 (t := 116) rfl rfl ?_
    refine Run.iload F d0_116 rfl ?_
    refine Run.iconst F d0_118 (z := 1) rfl ?_
    refine Run.icmpYes F d0_119 (t := 151) rfl rfl ?_
    refine Run.iload F d0_151 rfl ?_
    refine Run.iconst F d0_153 (z := 2) rfl ?_
    refine Run.icmpYes F d0_154 (t := 186) rfl rfl ?_
    refine Run.iload F d0_186 rfl ?_
    refine Run.iconst F d0_188 (z := 3) rfl ?_
    refine Run.icmpNo F d0_189 rfl ?_
    refine Run.iloadN F d0_192 rfl ?_
    refine Run.iconst F d0_193 (z := 3) rfl ?_
    refine Run.iand F d0_194 ?_
    refine Run.istore F d0_195 rfl ?_
    dsimp only [List.set]
    have hm : ∃ ii : Nat, ii < 4 ∧ i1 &&& 3 = Int32.ofNat ii := by
      have e := c_mask i1 3 2 (by decide) (by decide)
      have p : ((2 ^ 2 : Nat) : Int) = 4 := by decide
      rw [p] at e
      exact ⟨((i1 &&& 3).toInt).toNat, by omega, i32_eq (by omega)⟩
    generalize i1 &&& 3 = mm at hm ⊢
    obtain ⟨ii, hii, rfl⟩ := hm
    have r0 := chr255 i3
    have r1 := chr255 i4
    have r2 := chr255 i5
    rcases (show ii = 0 ∨ ii = 1 ∨ ii = 2 ∨ ii = 3 by omega) with rfl | rfl | rfl | rfl
    · refine Run.iload F d0_197 rfl ?_
      refine Run.newarray (aty := .char) F (w13 hw) (by decide) (len := 0) rfl 0 (by decide) rfl (by decide) (by decide) d0_199 ?_
      intro hA ta hta KA ltA A0
      have gA : n0 ≤ ta := by rw [hta, ← O1.1]; exact O1.2.1
      have OA : Old Z n0 hA := O1.keep KA all0
      have KKA := KA
      refine Run.astore F d0_201 rfl rfl ?_
      dsimp only [List.set]
      refine Run.iload F d0_203 rfl ?_
      refine Run.ifYes F d0_205 (t := 218) rfl rfl ?_
      refine Run.iload F d0_218 rfl ?_
      refine Run.iconst F d0_220 (z := 1) rfl ?_
      refine Run.icmpYes F d0_221 (t := 235) rfl rfl ?_
      refine Run.iload F d0_235 rfl ?_
      refine Run.iconst F d0_237 (z := 2) rfl ?_
      refine Run.icmpYes F d0_238 (t := 252) rfl rfl ?_
      have AA : Av Z hA ta .char (([] : List Int32).map Value.int) := A0
      refine Run.new F (w14 hw) (w2 hw) (w1 hw) (by decide) (by decide) d0_252 ?_
      intro hN x hx KN ltN EN DN UN
      have ON : Old Z n0 hN := OA.keep KN all0
      have gx : n0 ≤ x := by rw [hx, ← OA.1]; exact OA.2.1
      have Fv : Fld Z hN x "java/lang/String" "value" "[B" .null := DN (Or.inr (w4 hw)) (ty := .array .byte) (by decide)
      have Fc : Fld Z hN x "java/lang/String" "coder" "B" (.int 0) := DN (Or.inr (w5 hw)) (ty := .byte) (by decide)
      refine Run.dup F d0_255 rfl ?_
      refine Run.aload F d0_256 rfl rfl ?_
      have l6a := S6.la
      have l6b := S6.lb
      have n2 : h1.size ≤ hA.size := KKA.1
      refine Run.callInit F (w15 hw) (w16 hw) (w1 hw) (w17 hw) (c_newE l Z n0 a0 hw x ta [(pieS, a6)] wS hhE hcw hN _ ON EN Fv Fc gx (AA.keep KN nin0) rfl (fun t ht he => absurd he (hlE t ht))) rfl rfl pd12 rfl rfl rfl rfl (by decide) (by decide) rfl d0_258 ?_
      rintro _ h4 _ ⟨rfl, bx, a1, b1, a2, b2, K4, S4, rfl, -⟩ O4 _
      show Run _ _ _ _ _ _ _ _ _ _ _ _ _ _ _ _ _ _ _ _ [Value.ref x]
      have S6' : Str Z h4 a6 b6 0 (litB pieS) := ((S6.keep KKA nin0 nin0).keep KN nin0 nin0).keep K4 (ninN (by omega) nin0) (ninN (by omega) nin0)
      have hlt4 : (∀ t ∈ [("", a2), ("", a1), (pieS, a6)], t.1 = drS → ∃ b : Nat, Str Z h4 t.2 b 0 (litB drS) ∧ True) ∧ (∀ t ∈ [("", a2), ("", a1), (pieS, a6)], t.1 = pieS → ∃ b : Nat, Str Z h4 t.2 b 0 (litB pieS) ∧ True) := by
        refine ⟨fun t ht he => ?_, fun t ht he => ?_⟩ <;> simp only [List.mem_cons, List.not_mem_nil, or_false] at ht
        · rcases ht with rfl | rfl | rfl <;> exact absurd he (by first | exact ne_pd | exact ne_dp | exact ne_pE | exact ne_dE | exact ne_Ed | exact ne_Ep)
        · rcases ht with rfl | rfl | rfl
          · exact absurd he (by first | exact ne_pd | exact ne_dp | exact ne_pE | exact ne_dE | exact ne_Ed | exact ne_Ep)
          · exact absurd he (by first | exact ne_pd | exact ne_dp | exact ne_pE | exact ne_dE | exact ne_Ed | exact ne_Ep)
          · exact ⟨b6, S6', trivial⟩
      refine Run.astore F d0_261 rfl rfl ?_
      dsimp only [List.set]
      refine Run.aload F d0_263 rfl rfl ?_
      refine Run.callStatic F (w38 hw) (w39 hw) (w40 hw) (w41 hw) (c_final l Z n0 a0 hw x bx 0 [] [("", a2), ("", a1), (pieS, a6)] SC hcz wS hcw hh0 hh1 h4 _ O4 S4 rfl hlt4) rfl pd10 rfl rfl rfl rfl (by decide) (by decide) rfl d0_265 ?_
      rintro _ h5 _ ⟨_, rfl, rr, lt', rfl, K5, rfl, hy, hn, hlt5⟩ O5 _
      have er : rr = x := hn (fun e => by have := congrArg List.length e.2; rw [drB] at this; simp [dr] at this)
      subst er
      have S45 := S4.keep K5 nin0 nin0
      refine Run.astore F d0_268 rfl rfl ?_
      dsimp only [List.set]
      refine Run.aload F d0_270 rfl rfl ?_
      refine Run.aload F d0_272 rfl rfl ?_
      refine Run.callVirtual F (w53 hw) (w44 hw) (fun U hU => notFace_of_selects (args := #[]) (mvT hU (w46 hw))) (w46 hw) (w45 hw) (w1 hw) (w47 hw) S45.1 (c_equals l Z n0 a0 hw rr rr bx bx _ _ _ _ SC hcz h5 _ O5 S45 S45) rfl pd9 rfl rfl rfl rfl (by decide) (by decide) rfl d0_274 ?_
      rintro _ _ _ ⟨_, rfl, rfl, rfl, rfl⟩ _ _
      simp only [decide_true, Bool.true_or]
      exact Run.ireturn F (by simp) rfl (by decide) (by decide) d0_277 rfl
    · refine Run.iload F d0_197 rfl ?_
      refine Run.newarray (aty := .char) F (w13 hw) (by decide) (len := 1) rfl 1 (by decide) rfl (by decide) (by decide) d0_199 ?_
      intro hA ta hta KA ltA A0
      have gA : n0 ≤ ta := by rw [hta, ← O1.1]; exact O1.2.1
      have OA : Old Z n0 hA := O1.keep KA all0
      have KKA := KA
      refine Run.astore F d0_201 rfl rfl ?_
      dsimp only [List.set]
      refine Run.iload F d0_203 rfl ?_
      refine Run.ifNo F d0_205 rfl ?_
      refine Run.aload F d0_208 rfl rfl ?_
      refine Run.iconst F d0_210 (z := 0) rfl ?_
      refine Run.iloadN F d0_211 rfl ?_
      refine Run.sipush F d0_212 (z := 255) rfl ?_
      refine Run.iand F d0_215 ?_
      refine Run.i2c F d0_216 ?_
      refine Run.castore F A0 gA (by decide) (i := 0) rfl (by simp) (chr_id r0.1 (by omega)) d0_217 ?_
      intro hA0 WA0 KA0 sA0 A1
      have OA0 : Old Z n0 hA0 := OA.wr WA0 gA
      have KKA0 := KKA.trans KA0 (allS (Or.inr (Nat.le_of_eq hta.symm)) all0)
      refine Run.iload F d0_218 rfl ?_
      refine Run.iconst F d0_220 (z := 1) rfl ?_
      refine Run.icmpYes F d0_221 (t := 235) rfl rfl ?_
      refine Run.iload F d0_235 rfl ?_
      refine Run.iconst F d0_237 (z := 2) rfl ?_
      refine Run.icmpYes F d0_238 (t := 252) rfl rfl ?_
      have AA : Av Z hA0 ta .char (([chr (i3 &&& 255)] : List Int32).map Value.int) := A1
      refine Run.new F (w14 hw) (w2 hw) (w1 hw) (by decide) (by decide) d0_252 ?_
      intro hN x hx KN ltN EN DN UN
      have ON : Old Z n0 hN := OA0.keep KN all0
      have gx : n0 ≤ x := by rw [hx, ← OA0.1]; exact OA0.2.1
      have Fv : Fld Z hN x "java/lang/String" "value" "[B" .null := DN (Or.inr (w4 hw)) (ty := .array .byte) (by decide)
      have Fc : Fld Z hN x "java/lang/String" "coder" "B" (.int 0) := DN (Or.inr (w5 hw)) (ty := .byte) (by decide)
      refine Run.dup F d0_255 rfl ?_
      refine Run.aload F d0_256 rfl rfl ?_
      have l6a := S6.la
      have l6b := S6.lb
      have n2 : h1.size ≤ hA0.size := KKA0.1
      have r3 : ∀ c ∈ ([chr (i3 &&& 255)] : List Int32), 0 ≤ c.toInt ∧ c.toInt < 65536 := by
        intro c hc
        simp only [List.mem_cons, List.not_mem_nil, or_false] at hc
        rcases hc with rfl <;> omega
      refine Run.callInit F (w15 hw) (w16 hw) (w1 hw) (w17 hw) (c_newG l Z n0 a0 hw x ta [chr (i3 &&& 255)] SC hcz UA UH UL hN _ ON EN Fv Fc gx (AA.keep KN nin0) (by simp) (by simp) r3) rfl rfl pd12 rfl rfl rfl rfl (by decide) (by decide) rfl d0_258 ?_
      rintro _ h4 _ ⟨rfl, bx, K4, hbx, S4, rfl⟩ O4 _
      show Run _ _ _ _ _ _ _ _ _ _ _ _ _ _ _ _ _ _ _ _ [Value.ref x]
      have S6' : Str Z h4 a6 b6 0 (litB pieS) := ((S6.keep KKA0 nin0 nin0).keep KN nin0 nin0).keep K4 (ninN (by omega) nin0) (ninN (by omega) nin0)
      have hlt4 : (∀ t ∈ [(pieS, a6)], t.1 = drS → ∃ b : Nat, Str Z h4 t.2 b 0 (litB drS) ∧ True) ∧ (∀ t ∈ [(pieS, a6)], t.1 = pieS → ∃ b : Nat, Str Z h4 t.2 b 0 (litB pieS) ∧ True) := by
        refine ⟨fun t ht he => ?_, fun t ht he => ?_⟩ <;> simp only [List.mem_cons, List.not_mem_nil, or_false] at ht
        · rcases ht with rfl <;> exact absurd he (by first | exact ne_pd | exact ne_dp | exact ne_pE | exact ne_dE | exact ne_Ed | exact ne_Ep)
        · rcases ht with rfl
          · exact ⟨b6, S6', trivial⟩
      refine Run.astore F d0_261 rfl rfl ?_
      dsimp only [List.set]
      refine Run.aload F d0_263 rfl rfl ?_
      refine Run.callStatic F (w38 hw) (w39 hw) (w40 hw) (w41 hw) (c_final l Z n0 a0 hw x bx _ _ [(pieS, a6)] SC hcz wS hcw hh0 hh1 h4 _ O4 S4 rfl hlt4) rfl pd10 rfl rfl rfl rfl (by decide) (by decide) rfl d0_265 ?_
      rintro _ h5 _ ⟨_, rfl, rr, lt', rfl, K5, rfl, hy, hn, hlt5⟩ O5 _
      have er : rr = x := hn (dr_ne r3 (fun e => by have := congrArg List.length e; simp [dr] at this))
      subst er
      have S45 := S4.keep K5 nin0 nin0
      refine Run.astore F d0_268 rfl rfl ?_
      dsimp only [List.set]
      refine Run.aload F d0_270 rfl rfl ?_
      refine Run.aload F d0_272 rfl rfl ?_
      refine Run.callVirtual F (w53 hw) (w44 hw) (fun U hU => notFace_of_selects (args := #[]) (mvT hU (w46 hw))) (w46 hw) (w45 hw) (w1 hw) (w47 hw) S45.1 (c_equals l Z n0 a0 hw rr rr bx bx _ _ _ _ SC hcz h5 _ O5 S45 S45) rfl pd9 rfl rfl rfl rfl (by decide) (by decide) rfl d0_274 ?_
      rintro _ _ _ ⟨_, rfl, rfl, rfl, rfl⟩ _ _
      simp only [decide_true, Bool.true_or]
      exact Run.ireturn F (by simp) rfl (by decide) (by decide) d0_277 rfl
    · refine Run.iload F d0_197 rfl ?_
      refine Run.newarray (aty := .char) F (w13 hw) (by decide) (len := 2) rfl 2 (by decide) rfl (by decide) (by decide) d0_199 ?_
      intro hA ta hta KA ltA A0
      have gA : n0 ≤ ta := by rw [hta, ← O1.1]; exact O1.2.1
      have OA : Old Z n0 hA := O1.keep KA all0
      have KKA := KA
      refine Run.astore F d0_201 rfl rfl ?_
      dsimp only [List.set]
      refine Run.iload F d0_203 rfl ?_
      refine Run.ifNo F d0_205 rfl ?_
      refine Run.aload F d0_208 rfl rfl ?_
      refine Run.iconst F d0_210 (z := 0) rfl ?_
      refine Run.iloadN F d0_211 rfl ?_
      refine Run.sipush F d0_212 (z := 255) rfl ?_
      refine Run.iand F d0_215 ?_
      refine Run.i2c F d0_216 ?_
      refine Run.castore F A0 gA (by decide) (i := 0) rfl (by simp) (chr_id r0.1 (by omega)) d0_217 ?_
      intro hA0 WA0 KA0 sA0 A1
      have OA0 : Old Z n0 hA0 := OA.wr WA0 gA
      have KKA0 := KKA.trans KA0 (allS (Or.inr (Nat.le_of_eq hta.symm)) all0)
      refine Run.iload F d0_218 rfl ?_
      refine Run.iconst F d0_220 (z := 1) rfl ?_
      refine Run.icmpNo F d0_221 rfl ?_
      refine Run.aload F d0_224 rfl rfl ?_
      refine Run.iconst F d0_226 (z := 1) rfl ?_
      refine Run.iload F d0_227 rfl ?_
      refine Run.sipush F d0_229 (z := 255) rfl ?_
      refine Run.iand F d0_232 ?_
      refine Run.i2c F d0_233 ?_
      refine Run.castore F A1 gA (by decide) (i := 1) rfl (by simp) (chr_id r1.1 (by omega)) d0_234 ?_
      intro hA1 WA1 KA1 sA1 A2
      have OA1 : Old Z n0 hA1 := OA0.wr WA1 gA
      have KKA1 := KKA0.trans KA1 (allS (Or.inr (Nat.le_of_eq hta.symm)) all0)
      refine Run.iload F d0_235 rfl ?_
      refine Run.iconst F d0_237 (z := 2) rfl ?_
      refine Run.icmpYes F d0_238 (t := 252) rfl rfl ?_
      have AA : Av Z hA1 ta .char (([chr (i3 &&& 255), chr (i4 &&& 255)] : List Int32).map Value.int) := A2
      refine Run.new F (w14 hw) (w2 hw) (w1 hw) (by decide) (by decide) d0_252 ?_
      intro hN x hx KN ltN EN DN UN
      have ON : Old Z n0 hN := OA1.keep KN all0
      have gx : n0 ≤ x := by rw [hx, ← OA1.1]; exact OA1.2.1
      have Fv : Fld Z hN x "java/lang/String" "value" "[B" .null := DN (Or.inr (w4 hw)) (ty := .array .byte) (by decide)
      have Fc : Fld Z hN x "java/lang/String" "coder" "B" (.int 0) := DN (Or.inr (w5 hw)) (ty := .byte) (by decide)
      refine Run.dup F d0_255 rfl ?_
      refine Run.aload F d0_256 rfl rfl ?_
      have l6a := S6.la
      have l6b := S6.lb
      have n2 : h1.size ≤ hA1.size := KKA1.1
      have r3 : ∀ c ∈ ([chr (i3 &&& 255), chr (i4 &&& 255)] : List Int32), 0 ≤ c.toInt ∧ c.toInt < 65536 := by
        intro c hc
        simp only [List.mem_cons, List.not_mem_nil, or_false] at hc
        rcases hc with rfl | rfl <;> omega
      refine Run.callInit F (w15 hw) (w16 hw) (w1 hw) (w17 hw) (c_newG l Z n0 a0 hw x ta [chr (i3 &&& 255), chr (i4 &&& 255)] SC hcz UA UH UL hN _ ON EN Fv Fc gx (AA.keep KN nin0) (by simp) (by simp) r3) rfl rfl pd12 rfl rfl rfl rfl (by decide) (by decide) rfl d0_258 ?_
      rintro _ h4 _ ⟨rfl, bx, K4, hbx, S4, rfl⟩ O4 _
      show Run _ _ _ _ _ _ _ _ _ _ _ _ _ _ _ _ _ _ _ _ [Value.ref x]
      have S6' : Str Z h4 a6 b6 0 (litB pieS) := ((S6.keep KKA1 nin0 nin0).keep KN nin0 nin0).keep K4 (ninN (by omega) nin0) (ninN (by omega) nin0)
      have hlt4 : (∀ t ∈ [(pieS, a6)], t.1 = drS → ∃ b : Nat, Str Z h4 t.2 b 0 (litB drS) ∧ True) ∧ (∀ t ∈ [(pieS, a6)], t.1 = pieS → ∃ b : Nat, Str Z h4 t.2 b 0 (litB pieS) ∧ True) := by
        refine ⟨fun t ht he => ?_, fun t ht he => ?_⟩ <;> simp only [List.mem_cons, List.not_mem_nil, or_false] at ht
        · rcases ht with rfl <;> exact absurd he (by first | exact ne_pd | exact ne_dp | exact ne_pE | exact ne_dE | exact ne_Ed | exact ne_Ep)
        · rcases ht with rfl
          · exact ⟨b6, S6', trivial⟩
      refine Run.astore F d0_261 rfl rfl ?_
      dsimp only [List.set]
      refine Run.aload F d0_263 rfl rfl ?_
      refine Run.callStatic F (w38 hw) (w39 hw) (w40 hw) (w41 hw) (c_final l Z n0 a0 hw x bx _ _ [(pieS, a6)] SC hcz wS hcw hh0 hh1 h4 _ O4 S4 rfl hlt4) rfl pd10 rfl rfl rfl rfl (by decide) (by decide) rfl d0_265 ?_
      rintro _ h5 _ ⟨_, rfl, rr, lt', rfl, K5, rfl, hy, hn, hlt5⟩ O5 _
      have er : rr = x := hn (dr_ne r3 (fun e => by have := congrArg List.length e; simp [dr] at this))
      subst er
      have S45 := S4.keep K5 nin0 nin0
      refine Run.astore F d0_268 rfl rfl ?_
      dsimp only [List.set]
      refine Run.aload F d0_270 rfl rfl ?_
      refine Run.aload F d0_272 rfl rfl ?_
      refine Run.callVirtual F (w53 hw) (w44 hw) (fun U hU => notFace_of_selects (args := #[]) (mvT hU (w46 hw))) (w46 hw) (w45 hw) (w1 hw) (w47 hw) S45.1 (c_equals l Z n0 a0 hw rr rr bx bx _ _ _ _ SC hcz h5 _ O5 S45 S45) rfl pd9 rfl rfl rfl rfl (by decide) (by decide) rfl d0_274 ?_
      rintro _ _ _ ⟨_, rfl, rfl, rfl, rfl⟩ _ _
      simp only [decide_true, Bool.true_or]
      exact Run.ireturn F (by simp) rfl (by decide) (by decide) d0_277 rfl
    · refine Run.iload F d0_197 rfl ?_
      refine Run.newarray (aty := .char) F (w13 hw) (by decide) (len := 3) rfl 3 (by decide) rfl (by decide) (by decide) d0_199 ?_
      intro hA ta hta KA ltA A0
      have gA : n0 ≤ ta := by rw [hta, ← O1.1]; exact O1.2.1
      have OA : Old Z n0 hA := O1.keep KA all0
      have KKA := KA
      refine Run.astore F d0_201 rfl rfl ?_
      dsimp only [List.set]
      refine Run.iload F d0_203 rfl ?_
      refine Run.ifNo F d0_205 rfl ?_
      refine Run.aload F d0_208 rfl rfl ?_
      refine Run.iconst F d0_210 (z := 0) rfl ?_
      refine Run.iloadN F d0_211 rfl ?_
      refine Run.sipush F d0_212 (z := 255) rfl ?_
      refine Run.iand F d0_215 ?_
      refine Run.i2c F d0_216 ?_
      refine Run.castore F A0 gA (by decide) (i := 0) rfl (by simp) (chr_id r0.1 (by omega)) d0_217 ?_
      intro hA0 WA0 KA0 sA0 A1
      have OA0 : Old Z n0 hA0 := OA.wr WA0 gA
      have KKA0 := KKA.trans KA0 (allS (Or.inr (Nat.le_of_eq hta.symm)) all0)
      refine Run.iload F d0_218 rfl ?_
      refine Run.iconst F d0_220 (z := 1) rfl ?_
      refine Run.icmpNo F d0_221 rfl ?_
      refine Run.aload F d0_224 rfl rfl ?_
      refine Run.iconst F d0_226 (z := 1) rfl ?_
      refine Run.iload F d0_227 rfl ?_
      refine Run.sipush F d0_229 (z := 255) rfl ?_
      refine Run.iand F d0_232 ?_
      refine Run.i2c F d0_233 ?_
      refine Run.castore F A1 gA (by decide) (i := 1) rfl (by simp) (chr_id r1.1 (by omega)) d0_234 ?_
      intro hA1 WA1 KA1 sA1 A2
      have OA1 : Old Z n0 hA1 := OA0.wr WA1 gA
      have KKA1 := KKA0.trans KA1 (allS (Or.inr (Nat.le_of_eq hta.symm)) all0)
      refine Run.iload F d0_235 rfl ?_
      refine Run.iconst F d0_237 (z := 2) rfl ?_
      refine Run.icmpNo F d0_238 rfl ?_
      refine Run.aload F d0_241 rfl rfl ?_
      refine Run.iconst F d0_243 (z := 2) rfl ?_
      refine Run.iload F d0_244 rfl ?_
      refine Run.sipush F d0_246 (z := 255) rfl ?_
      refine Run.iand F d0_249 ?_
      refine Run.i2c F d0_250 ?_
      refine Run.castore F A2 gA (by decide) (i := 2) rfl (by simp) (chr_id r2.1 (by omega)) d0_251 ?_
      intro hA2 WA2 KA2 sA2 A3
      have OA2 : Old Z n0 hA2 := OA1.wr WA2 gA
      have KKA2 := KKA1.trans KA2 (allS (Or.inr (Nat.le_of_eq hta.symm)) all0)
      have AA : Av Z hA2 ta .char (([chr (i3 &&& 255), chr (i4 &&& 255), chr (i5 &&& 255)] : List Int32).map Value.int) := A3
      refine Run.new F (w14 hw) (w2 hw) (w1 hw) (by decide) (by decide) d0_252 ?_
      intro hN x hx KN ltN EN DN UN
      have ON : Old Z n0 hN := OA2.keep KN all0
      have gx : n0 ≤ x := by rw [hx, ← OA2.1]; exact OA2.2.1
      have Fv : Fld Z hN x "java/lang/String" "value" "[B" .null := DN (Or.inr (w4 hw)) (ty := .array .byte) (by decide)
      have Fc : Fld Z hN x "java/lang/String" "coder" "B" (.int 0) := DN (Or.inr (w5 hw)) (ty := .byte) (by decide)
      refine Run.dup F d0_255 rfl ?_
      refine Run.aload F d0_256 rfl rfl ?_
      have l6a := S6.la
      have l6b := S6.lb
      have n2 : h1.size ≤ hA2.size := KKA2.1
      have r3 : ∀ c ∈ ([chr (i3 &&& 255), chr (i4 &&& 255), chr (i5 &&& 255)] : List Int32), 0 ≤ c.toInt ∧ c.toInt < 65536 := by
        intro c hc
        simp only [List.mem_cons, List.not_mem_nil, or_false] at hc
        rcases hc with rfl | rfl | rfl <;> omega
      refine Run.callInit F (w15 hw) (w16 hw) (w1 hw) (w17 hw) (c_newG l Z n0 a0 hw x ta [chr (i3 &&& 255), chr (i4 &&& 255), chr (i5 &&& 255)] SC hcz UA UH UL hN _ ON EN Fv Fc gx (AA.keep KN nin0) (by simp) (by simp) r3) rfl rfl pd12 rfl rfl rfl rfl (by decide) (by decide) rfl d0_258 ?_
      rintro _ h4 _ ⟨rfl, bx, K4, hbx, S4, rfl⟩ O4 _
      show Run _ _ _ _ _ _ _ _ _ _ _ _ _ _ _ _ _ _ _ _ [Value.ref x]
      have S6' : Str Z h4 a6 b6 0 (litB pieS) := ((S6.keep KKA2 nin0 nin0).keep KN nin0 nin0).keep K4 (ninN (by omega) nin0) (ninN (by omega) nin0)
      have hlt4 : (∀ t ∈ [(pieS, a6)], t.1 = drS → ∃ b : Nat, Str Z h4 t.2 b 0 (litB drS) ∧ True) ∧ (∀ t ∈ [(pieS, a6)], t.1 = pieS → ∃ b : Nat, Str Z h4 t.2 b 0 (litB pieS) ∧ True) := by
        refine ⟨fun t ht he => ?_, fun t ht he => ?_⟩ <;> simp only [List.mem_cons, List.not_mem_nil, or_false] at ht
        · rcases ht with rfl <;> exact absurd he (by first | exact ne_pd | exact ne_dp | exact ne_pE | exact ne_dE | exact ne_Ed | exact ne_Ep)
        · rcases ht with rfl
          · exact ⟨b6, S6', trivial⟩
      refine Run.astore F d0_261 rfl rfl ?_
      dsimp only [List.set]
      refine Run.aload F d0_263 rfl rfl ?_
      refine Run.callStatic F (w38 hw) (w39 hw) (w40 hw) (w41 hw) (c_final l Z n0 a0 hw x bx _ _ [(pieS, a6)] SC hcz wS hcw hh0 hh1 h4 _ O4 S4 rfl hlt4) rfl pd10 rfl rfl rfl rfl (by decide) (by decide) rfl d0_265 ?_
      rintro _ h5 _ ⟨_, rfl, rr, lt', rfl, K5, rfl, hy, hn, hlt5⟩ O5 _
      have er : rr = x := hn (dr_ne r3 (fun e => by have := congrArg List.length e; simp [dr] at this))
      subst er
      have S45 := S4.keep K5 nin0 nin0
      refine Run.astore F d0_268 rfl rfl ?_
      dsimp only [List.set]
      refine Run.aload F d0_270 rfl rfl ?_
      refine Run.aload F d0_272 rfl rfl ?_
      refine Run.callVirtual F (w53 hw) (w44 hw) (fun U hU => notFace_of_selects (args := #[]) (mvT hU (w46 hw))) (w46 hw) (w45 hw) (w1 hw) (w47 hw) S45.1 (c_equals l Z n0 a0 hw rr rr bx bx _ _ _ _ SC hcz h5 _ O5 S45 S45) rfl pd9 rfl rfl rfl rfl (by decide) (by decide) rfl d0_274 ?_
      rintro _ _ _ ⟨_, rfl, rfl, rfl, rfl⟩ _ _
      simp only [decide_true, Bool.true_or]
      exact Run.ireturn F (by simp) rfl (by decide) (by decide) d0_277 rfl
  · refine Run.iload F d0_12 rfl ?_
    refine Run.ifYes F d0_14 (t := 116) rfl rfl ?_
    refine Run.iload F d0_116 rfl ?_
    refine Run.iconst F d0_118 (z := 1) rfl ?_
    refine Run.icmpYes F d0_119 (t := 151) rfl rfl ?_
    refine Run.iload F d0_151 rfl ?_
    refine Run.iconst F d0_153 (z := 2) rfl ?_
    refine Run.icmpYes F d0_154 (t := 186) rfl rfl ?_
    refine Run.iload F d0_186 rfl ?_
    refine Run.iconst F d0_188 (z := 3) rfl ?_
    refine Run.icmpYes F d0_189 (t := 278) rfl rfl ?_
    refine Run.ldcS (text := drS) (P := fun _ _ => True) F (w54 hw) wS hh3 hcw drS_lat hlt1.1 188 drS_len rfl (by decide) (by decide) d0_278 ?_
    intro h2 ad bd K2 Sd _
    have O2 : Old Z n0 h2 := O1.keep K2 all0
    have S62 := S6.keep K2 nin0 nin0
    have hlt2 : (∀ t ∈ [(drS, ad), (pieS, a6)], t.1 = drS → ∃ b : Nat, Str Z h2 t.2 b 0 (litB drS) ∧ True) ∧ (∀ t ∈ [(drS, ad), (pieS, a6)], t.1 = pieS → ∃ b : Nat, Str Z h2 t.2 b 0 (litB pieS) ∧ True) := by
      refine ⟨fun t ht he => ?_, fun t ht he => ?_⟩ <;> simp only [List.mem_cons, List.not_mem_nil, or_false] at ht
      · rcases ht with rfl | rfl
        · exact ⟨bd, Sd, trivial⟩
        · exact absurd he (by first | exact ne_pd | exact ne_dp | exact ne_pE | exact ne_dE | exact ne_Ed | exact ne_Ep)
      · rcases ht with rfl | rfl
        · exact absurd he (by first | exact ne_pd | exact ne_dp | exact ne_pE | exact ne_dE | exact ne_Ed | exact ne_Ep)
        · exact ⟨b6, S62, trivial⟩
    refine Run.callStatic F (w38 hw) (w39 hw) (w40 hw) (w41 hw) (c_final l Z n0 a0 hw ad bd 0 (litB drS) [(drS, ad), (pieS, a6)] SC hcz wS hcw hh0 hh1 h2 _ O2 Sd rfl hlt2) rfl pd10 rfl rfl rfl rfl (by decide) (by decide) rfl d0_280 ?_
    rintro _ h3 _ ⟨_, rfl, r1, lt3, rfl, K3, rfl, hy3, -, hlt3⟩ O3 _
    obtain ⟨d1, S1⟩ := hy3 ⟨rfl, rfl⟩
    have S63 := S62.keep K3 nin0 nin0
    refine Run.astore F d0_283 rfl rfl ?_
    dsimp only [List.set]
    refine Run.aload F d0_285 rfl rfl ?_
    refine Run.callStatic F (w38 hw) (w39 hw) (w40 hw) (w41 hw) (c_final l Z n0 a0 hw a6 b6 0 (litB pieS) lt3 SC hcz wS hcw hh0 hh1 h3 _ O3 S63 rfl hlt3) rfl pd10 rfl rfl rfl rfl (by decide) (by decide) rfl d0_287 ?_
    rintro _ h4 _ ⟨_, rfl, r2, lt4, rfl, K4, rfl, -, hn4, hlt4⟩ O4 _
    have e2 : r2 = a6 := hn4 (fun e => absurd e.2 (by decide +kernel))
    subst e2
    have S64 := S63.keep K4 nin0 nin0
    have S14 := S1.keep K4 nin0 nin0
    refine Run.astore F d0_290 rfl rfl ?_
    dsimp only [List.set]
    refine Run.aload F d0_292 rfl rfl ?_
    refine Run.aload F d0_294 rfl rfl ?_
    refine Run.callVirtual F (w53 hw) (w44 hw) (fun U hU => notFace_of_selects (args := #[]) (mvT hU (w46 hw))) (w46 hw) (w45 hw) (w1 hw) (w47 hw) S64.1 (c_equals l Z n0 a0 hw r2 r1 b6 d1 0 0 _ _ SC hcz h4 _ O4 S64 S14) rfl pd9 rfl rfl rfl rfl (by decide) (by decide) rfl d0_296 ?_
    rintro _ _ _ ⟨_, rfl, rfl, rfl, rfl⟩ _ _
    simp only [decide_true, Bool.and_self, Bool.or_true]
    refine Run.ifNo F d0_299 rfl ?_
    refine Run.aload F d0_302 rfl rfl ?_
    refine Run.aload F d0_304 rfl rfl ?_
    refine Run.callVirtual F (w53 hw) (w44 hw) (fun U hU => notFace_of_selects (args := #[]) (mvT hU (w46 hw))) (w46 hw) (w45 hw) (w1 hw) (w47 hw) S64.1 (c_equals l Z n0 a0 hw r2 r2 b6 b6 0 0 _ _ SC hcz h4 _ O4 S64 S64) rfl pd9 rfl rfl rfl rfl (by decide) (by decide) rfl d0_306 ?_
    rintro _ _ _ ⟨_, rfl, rfl, rfl, rfl⟩ _ _
    simp only [decide_true, Bool.true_or]
    refine Run.ifNo F d0_309 rfl ?_
    refine Run.iconst F d0_312 (z := 1) rfl ?_
    refine Run.goto F d0_313 (t := 317) rfl ?_
    exact Run.ireturn F (by simp) rfl (by decide) (by decide) d0_317 rfl
set_option maxRecDepth 65536 in
set_option maxHeartbeats 40000000 in
theorem comes_1 {Post : Tables → Env → Array Value → State → Outcome → State → Prop} (hpost : ∀ tb e args s v u, (limb_1_1.after args s (.returned v) u = true ∧ limb_1_2.after args s (.returned v) u = true ∧ True) → ReturnedEndW s (.returned v) u (Jvm.fieldLocs frame_1_writes args s ++ Jvm.arrayLocs frame_1_arrays args s ++ Jvm.staticLocs frame_1_statics s) 32 5632 → Post tb e args s (.returned v) u) :
    ArmFor flags0 classFile x code maxLocals ret World_1 tables_1 room_1 Calls_1 rest_1 Pre_1 Post := by
  intro l hfl _ _ p e ha hc hk s m args below hf hA hF happ hP
  obtain ⟨hcalls, hrest, hpre⟩ := hP
  obtain ⟨-, -, -, hnamed, -, -, -, hat⟩ := (Spec.applies_iff hf).mp happ
  obtain ⟨hg, hn⟩ := and_e (Cond.before_iff.mp (show (Jvm.Cond.and given_1 narrow_1).before args s = true from hpre))
  obtain ⟨h1, g0⟩ := and_e hg
  obtain ⟨k0, g1⟩ := and_e g0
  obtain ⟨k1, g2⟩ := and_e g1
  obtain ⟨k2, g3⟩ := and_e g2
  obtain ⟨k3, g4⟩ := and_e g3
  obtain ⟨k4, g5⟩ := and_e g4
  have k5 := g5
  obtain ⟨w_0, w_1, w_2, w_3, w_4, w_5, rfl⟩ : ∃ w_0 w_1 w_2 w_3 w_4 w_5 : Value, args = #[w_0, w_1, w_2, w_3, w_4, w_5] := by
    have hs : args.size = 6 := by simpa [Cond.value, given_1] using h1
    obtain ⟨L⟩ := args
    match L, hs with
    | [w_0, w_1, w_2, w_3, w_4, w_5], _ => exact ⟨w_0, w_1, w_2, w_3, w_4, w_5, rfl⟩
  have hw := fun d (hd : d ∈ tables_1) => atoms_spec (ws := Jvm.Cond.code x code maxLocals ret :: tables_1) hat d (List.mem_cons_of_mem _ hd)
  obtain ⟨hsets, hown0⟩ := atoms_of _ (rest_1_c_eq ▸ (show rest_1_c.before _ s = true from hrest))
  have hfit : Fit s := fun {y c} hc i hi => by
    obtain ⟨ha, rfl⟩ := Array.getElem?_eq_some_iff.mp hc
    have q := List.all_eq_true.mp ((Array.all_eq_true_iff_forall_mem.mp hF) _ (Array.getElem_mem ha)) i (List.mem_range.mpr hi)
    simpa [Array.getElem?_eq_getElem hi] using q
  obtain ⟨i0, e0⟩ := is_v k0
  obtain rfl : w_0 = (.int i0) := Option.some.inj e0
  obtain ⟨i1, e1⟩ := is_v k1
  obtain rfl : w_1 = (.int i1) := Option.some.inj e1
  obtain ⟨i2, e2⟩ := is_v k2
  obtain rfl : w_2 = (.int i2) := Option.some.inj e2
  obtain ⟨i3, e3⟩ := is_v k3
  obtain rfl : w_3 = (.int i3) := Option.some.inj e3
  obtain ⟨i4, e4⟩ := is_v k4
  obtain rfl : w_4 = (.int i4) := Option.some.inj e4
  obtain ⟨i5, e5⟩ := is_v k5
  obtain rfl : w_5 = (.int i5) := Option.some.inj e5
  have n_cz := not_v (Cond.before_iff.mp (hsets _ (List.mem_of_getElem? (i := 2) rfl)))
  obtain ⟨cz, e_cz⟩ := is_v (Cond.before_iff.mp (hsets _ (List.mem_of_getElem? (i := 1) rfl)))
  have SC : Sta s s.heap "java/lang/String" "COMPACT_STRINGS" "Z" (.int cz) := Sta.start e_cz (Or.inl (hsets _ (List.mem_of_getElem? (i := 0) rfl)))
  have hcz0 : ¬ (cz = (0 : Int32)) := gotF (Cond.eq_ints e_cz (Term.int_eval (0))) n_cz
  have hcz : cz.toInt ≠ 0 := fun q => hcz0 (Int32.toInt_inj.mp q)
  obtain ⟨sf, e_sf, hsf⟩ := isR_v (Cond.before_iff.mp (hsets _ (List.mem_of_getElem? (i := 8) rfl)))
  have SF : Sta s s.heap "jdk/internal/util/Preconditions" "SIOOBE_FORMATTER" "Ljava/util/function/BiFunction;" sf := Sta.start e_sf (Or.inl (hsets _ (List.mem_of_getElem? (i := 7) rfl)))
  have UA : Sta s s.heap "java/lang/StringUTF16" "$assertionsDisabled" "Z" (.int 1) := Sta.start (static_int (Cond.before_iff.mp (hsets _ (List.mem_of_getElem? (i := 12) rfl)))) (Or.inl (hsets _ (List.mem_of_getElem? (i := 11) rfl)))
  have UH : Sta s s.heap "java/lang/StringUTF16" "HI_BYTE_SHIFT" "I" (.int 0) := Sta.start (static_int (Cond.before_iff.mp (hsets _ (List.mem_of_getElem? (i := 15) rfl)))) (Or.inl (hsets _ (List.mem_of_getElem? (i := 14) rfl)))
  have UL : Sta s s.heap "java/lang/StringUTF16" "LO_BYTE_SHIFT" "I" (.int 8) := Sta.start (static_int (Cond.before_iff.mp (hsets _ (List.mem_of_getElem? (i := 18) rfl)))) (Or.inl (hsets _ (List.mem_of_getElem? (i := 17) rfl)))
  have wS : ∀ a ∈ Bundle.stringAtoms, a.before _ s = true := fun a ha => by
    simp only [Bundle.stringAtoms, List.mem_cons, List.not_mem_nil, or_false] at ha
    rcases ha with rfl | rfl | rfl | rfl | rfl | rfl | rfl
    · exact (w1 hw)
    · exact (w2 hw)
    · exact (w3 hw)
    · exact (w4 hw)
    · exact (w5 hw)
    · exact (w6 hw)
    · exact (w7 hw)
  have hcw : Jvm.Lit.compactW.before _ s = true := (hsets _ (List.mem_of_getElem? (i := 2) rfl))
  have hh0 : Jvm.Lit.constHeld s "com/example/stanzavault/stanzavault/Format" 9 := hcalls.1 ("com/example/stanzavault/stanzavault/Format", 9) (by simp [consts_1])
  have hh1 : Jvm.Lit.constHeld s "com/example/stanzavault/stanzavault/Format" 17 := hcalls.1 ("com/example/stanzavault/stanzavault/Format", 17) (by simp [consts_1])
  have hh2 : Jvm.Lit.constHeld s "com/example/stanzavault/stanzavault/FormatFinalNamespacePinLaw" 7 := hcalls.1 ("com/example/stanzavault/stanzavault/FormatFinalNamespacePinLaw", 7) (by simp [consts_1])
  have hh3 : Jvm.Lit.constHeld s "com/example/stanzavault/stanzavault/FormatFinalNamespacePinLaw" 38 := hcalls.1 ("com/example/stanzavault/stanzavault/FormatFinalNamespacePinLaw", 38) (by simp [consts_1])
  have hh4 : Jvm.Lit.constHeld s "java/lang/String" 7 := hcalls.1 ("java/lang/String", 7) (by simp [consts_1])
  obtain ⟨n, o, r1, r2, r3, v, L, Ls, rfl, ⟨_, rfl, rfl⟩, hO, hI, N, hq⟩ := c_law l s s.heap.size _ hw i0 i1 i2 i3 i4 i5 SC hcz UA UH UL wS hcw hh0 hh1 hh2 hh3 hh4 s.heap (some []) (Old.start s) rfl p e ha hc hk s m _ below hf ((Spec.applies_iff_loose hf).mp happ).1 ⟨rfl, State.Warmed39.refl s, rfl, Itn.start s⟩ trivial
  refine ⟨n, _, r1, r2, r3, hpost _ _ _ _ _ _ ⟨Cond.after_iff.mpr rfl, Cond.after_iff.mpr (eq_i res_at (Term.int_eval (1)) rfl), trivial⟩ ⟨hq.1, hq.2.1, hq.2.2.1, (hq.2.2.2.sift fun y hy => Or.inr (N y hy)).mono (by decide) (by decide)⟩⟩
theorem main_1_1 : Claimed_1_1 := comes_1 fun _ _ _ _ _ _ h hF => ⟨h.1, hF⟩
theorem main_1_2 : Claimed_1_2 := comes_1 fun _ _ _ _ _ _ h hF => ⟨h.2.1, hF⟩
end Jvm.Pilot.@@N@@
namespace Jvm.Pilot.@@N@@
open Jvm Jvm.ClassFile Sem Op Lib Jvm.Free Jvm.Stand Jvm.Pilot.@@N@@.Jvm.D
/-! MADE BY PROGRAM (witnessworld.py) out of the Statement's table words and the real class files: 20 classes; the members and pool entries that the words name. The judged class is class 1, her method 4. -/
namespace start1
open Jvm.ClassFile
def u (s : String) : CpInfo := .utf8 (stringToUtf16 s)
/-- a pool by its gaps: so many unusable entries, then the entry; so many at the end -/
def gap : Nat → List CpInfo → List CpInfo
  | 0, r => r
  | n + 1, r => .unusable :: gap n r
def poolList (es : List (Nat × CpInfo)) (last : Nat) : List CpInfo := es.foldr (fun e r => gap e.1 (e.2 :: r)) (gap last [])
def pool (es : List (Nat × CpInfo)) (last : Nat) : Array CpInfo := ⟨poolList es last⟩
def fileOf (pool : Array CpInfo) (this : Nat) (attrs : Array Attribute := #[]) (ms : Array MethodInfo := #[]) (fl : Nat := 33) (sup : Nat := 0) (ifs : Array Nat := #[]) (fds : Array FieldInfo := #[]) : ClassFile where
  minorVersion := 0
  majorVersion := 65
  constantPool := pool
  accessFlags := fl
  thisClass := this
  superClass := sup
  interfaces := ifs
  fields := fds
  methods := ms
  attributes := attrs
def plain (name : String) (sup : Option ClassId) : Class where
  name := name
  kind := .ordinary
  loader := none
  accessFlags := 33
  super := sup
  interfaces := #[]
  cf := none
  fields := #[]
  methods := #[]
  instanceTypes := #[]
  staticTypes := #[]
  resolved := #[]
  callSites := []
  init := .initialized
  statics := none
  mirror := none

def pool0 : Array CpInfo := pool [(5, u "<init>"), (0, u "()V"), (1, .class_ 10), (1, u "java/lang/Object")] 113

def k0c0 : Code := { maxStack := 0, maxLocals := 1, code := object_method_1_code, exceptionTable := #[], attributes := #[] }
def k0m0 : Method := { name := "<init>", desc := "()V", sig := { parameters := [], returnType := none }, accessFlags := 1, code := some k0c0 }
/-- java/lang/Object -/
def k0 : Class := { plain "java/lang/Object" none with
  accessFlags := 33
  interfaces := #[]
  cf := some (fileOf pool0 8 #[] #[{ accessFlags := 1, nameIndex := 5, descriptorIndex := 6, attributes := #[] }] 33 0 #[] #[])
  fields := #[]
  methods := #[k0m0]
  instanceTypes := #[]
  staticTypes := #[]
  resolved := Array.replicate 124 none
  statics := none }

def pool1 : Array CpInfo := pool [(2, .class_ 4), (1, u "java/lang/Object"), (0, u "<init>"), (0, u "()V"), (0, .string 8), (0, u "urn:xmpp:pie:0"), (0, .integer 2147483647), (0, .methodref 11 12), (0, .class_ 13), (0, .nameAndType 14 15), (0, u "com/example/stanzavault/stanzavault/FormatFinalNamespacePinLaw"), (0, u "draft"), (0, u "()[C"), (0, .class_ 17), (0, u "java/lang/String"), (0, .methodref 16 19), (0, .nameAndType 5 20), (0, u "([C)V"), (0, .methodref 22 23), (0, .class_ 24), (0, .nameAndType 25 26), (0, u "com/example/stanzavault/stanzavault/Format"), (0, u "finalNamespace"), (0, u "(Ljava/lang/String;)Ljava/lang/String;"), (0, .methodref 16 28), (0, .nameAndType 29 30), (0, u "equals"), (0, u "(Ljava/lang/Object;)Z"), (0, .methodref 11 32), (0, .nameAndType 33 34), (0, u "draftThenOne"), (0, u "(C)[C"), (0, .methodref 11 36), (0, .nameAndType 37 34), (0, u "oneThenDraft"), (0, .string 39), (0, u "http://www.xmpp.org/extensions/xep-0227.html#ns"), (2, u "law"), (0, u "(IIIIII)Z")] 5

def k1m0 : Method := { name := "<init>", desc := "()V", sig := { parameters := [], returnType := none }, accessFlags := 1, code := none }
def k1c1 : Code := { maxStack := 4, maxLocals := 0, code := method_2_code, exceptionTable := #[], attributes := #[] }
def k1m1 : Method := { name := "draft", desc := "()[C", sig := { parameters := [], returnType := some (.array .char) }, accessFlags := 10, code := some k1c1 }
def k1c2 : Code := { maxStack := 4, maxLocals := 1, code := method_3_code, exceptionTable := #[], attributes := #[] }
def k1m2 : Method := { name := "draftThenOne", desc := "(C)[C", sig := { parameters := [.char], returnType := some (.array .char) }, accessFlags := 10, code := some k1c2 }
def k1c3 : Code := { maxStack := 4, maxLocals := 1, code := method_4_code, exceptionTable := #[], attributes := #[] }
def k1m3 : Method := { name := "oneThenDraft", desc := "(C)[C", sig := { parameters := [.char], returnType := some (.array .char) }, accessFlags := 10, code := some k1c3 }
def k1c4 : Code := { maxStack := 4, maxLocals := 13, code := code, exceptionTable := #[], attributes := #[] }
def k1m4 : Method := { name := "law", desc := "(IIIIII)Z", sig := { parameters := [.int, .int, .int, .int, .int, .int], returnType := some .boolean }, accessFlags := 9, code := some k1c4 }
/-- com/example/stanzavault/stanzavault/FormatFinalNamespacePinLaw -/
def k1 : Class := { plain "com/example/stanzavault/stanzavault/FormatFinalNamespacePinLaw" (some 0) with
  accessFlags := 49
  interfaces := #[]
  cf := some (fileOf pool1 11 #[] #[{ accessFlags := 1, nameIndex := 5, descriptorIndex := 6, attributes := #[] }, { accessFlags := 10, nameIndex := 14, descriptorIndex := 15, attributes := #[] }, { accessFlags := 10, nameIndex := 33, descriptorIndex := 34, attributes := #[] }, { accessFlags := 10, nameIndex := 37, descriptorIndex := 34, attributes := #[] }, { accessFlags := 9, nameIndex := 42, descriptorIndex := 43, attributes := #[] }] 49 2 #[] #[])
  fields := #[]
  methods := #[k1m0, k1m1, k1m2, k1m3, k1m4]
  instanceTypes := #[]
  staticTypes := #[]
  resolved := Array.replicate 49 none
  statics := none }

def pool2 : Array CpInfo := pool [(1, .class_ 2), (0, u "java/io/Serializable"), (0, .class_ 4), (0, u "java/lang/Object")] 2

/-- java/io/Serializable -/
def k2 : Class := { plain "java/io/Serializable" (some 0) with
  accessFlags := 1537
  interfaces := #[]
  cf := some (fileOf pool2 1 #[] #[] 1537 3 #[] #[])
  fields := #[]
  methods := #[]
  instanceTypes := #[]
  staticTypes := #[]
  resolved := Array.replicate 7 none
  statics := none }

def pool3 : Array CpInfo := pool [(1, .class_ 2), (0, u "java/lang/Comparable"), (0, .class_ 4), (0, u "java/lang/Object")] 7

/-- java/lang/Comparable -/
def k3 : Class := { plain "java/lang/Comparable" (some 0) with
  accessFlags := 1537
  interfaces := #[]
  cf := some (fileOf pool3 1 #[] #[] 1537 3 #[] #[])
  fields := #[]
  methods := #[]
  instanceTypes := #[]
  staticTypes := #[]
  resolved := Array.replicate 12 none
  statics := none }

def pool4 : Array CpInfo := pool [(2, .class_ 4), (1, u "java/lang/CharSequence"), (42, .class_ 48), (0, u "java/lang/CharSequence$1CodePointIterator"), (10, .class_ 60), (0, u "java/lang/CharSequence$1CharIterator"), (5, .class_ 67), (0, u "java/lang/Object")] 63

/-- java/lang/CharSequence -/
def k4 : Class := { plain "java/lang/CharSequence" (some 0) with
  accessFlags := 1537
  interfaces := #[]
  cf := some (fileOf pool4 2 #[.nestMembers #[47, 59]] #[] 1537 66 #[] #[])
  fields := #[]
  methods := #[]
  instanceTypes := #[]
  staticTypes := #[]
  resolved := Array.replicate 131 none
  statics := none }

def pool5 : Array CpInfo := pool [(1, .class_ 2), (0, u "java/lang/constant/Constable"), (0, .class_ 4), (0, u "java/lang/Object")] 6

/-- java/lang/constant/Constable -/
def k5 : Class := { plain "java/lang/constant/Constable" (some 0) with
  accessFlags := 1537
  interfaces := #[]
  cf := some (fileOf pool5 1 #[] #[] 1537 3 #[] #[])
  fields := #[]
  methods := #[]
  instanceTypes := #[]
  staticTypes := #[]
  resolved := Array.replicate 11 none
  statics := none }

def pool6 : Array CpInfo := pool [(1, .class_ 2), (0, u "java/lang/constant/ConstantDesc"), (0, .class_ 4), (0, u "java/lang/Object")] 32

/-- java/lang/constant/ConstantDesc -/
def k6 : Class := { plain "java/lang/constant/ConstantDesc" (some 0) with
  accessFlags := 1537
  interfaces := #[]
  cf := some (fileOf pool6 1 #[] #[] 1537 3 #[] #[])
  fields := #[]
  methods := #[]
  instanceTypes := #[]
  staticTypes := #[]
  resolved := Array.replicate 37 none
  statics := none }

def pool7 : Array CpInfo := pool [(1, .methodref 2 3), (0, .class_ 4), (0, .nameAndType 5 6), (0, u "java/lang/Object"), (0, u "<init>"), (0, u "()V"), (0, .string 8), (0, u ""), (0, .fieldref 10 11), (0, .class_ 12), (0, .nameAndType 13 14), (0, u "java/lang/String"), (0, u "value"), (0, u "[B"), (0, .fieldref 10 16), (0, .nameAndType 17 18), (0, u "coder"), (0, u "B"), (2, u "hash"), (0, u "I"), (2, u "hashIsZero"), (0, u "Z"), (0, .methodref 10 28), (0, .nameAndType 5 29), (0, u "([CIILjava/lang/Void;)V"), (8, .fieldref 10 39), (0, .nameAndType 40 26), (0, u "COMPACT_STRINGS"), (1, .class_ 44), (1, u "java/lang/StringUTF16"), (0, u "compress"), (1, .methodref 42 48), (0, .nameAndType 49 50), (0, u "coderFromArrayLen"), (0, u "([BI)B"), (56, .class_ 109), (1, u "java/lang/StringLatin1"), (67, .methodref 42 178), (0, .nameAndType 45 179), (0, u "([CII)[B"), (361, .methodref 107 542), (0, .nameAndType 543 544), (0, u "equals"), (0, u "([B[B)Z"), (28, u "(Ljava/lang/Object;)Z"), (1, .class_ 576), (0, u "java/lang/CharSequence"), (22, u "CASE_INSENSITIVE_ORDER"), (0, u "Ljava/util/Comparator;"), (409, u "([C)V"), (90, u "serialPersistentFields"), (0, u "[Ljava/io/ObjectStreamField;"), (0, .class_ 1104), (0, u "java/lang/String$CaseInsensitiveComparator"), (1, .class_ 1107), (0, u "java/io/Serializable"), (0, .class_ 1109), (0, u "java/lang/Comparable"), (0, .class_ 1111), (0, u "java/lang/constant/Constable"), (0, .class_ 1113), (0, u "java/lang/constant/ConstantDesc"), (2, u "serialVersionUID"), (0, u "J"), (3, u "REPL"), (0, u "C"), (2, u "LATIN1"), (1, u "UTF16")] 323

def k7m0 : Method := { name := "<init>", desc := "()V", sig := { parameters := [], returnType := none }, accessFlags := 1, code := none }
def k7c1 : Code := { maxStack := 5, maxLocals := 2, code := jdk_42_method_3_code, exceptionTable := #[], attributes := #[] }
def k7m1 : Method := { name := "<init>", desc := "([C)V", sig := { parameters := [(.array .char)], returnType := none }, accessFlags := 1, code := some k7c1 }
def k7c2 : Code := { maxStack := 2, maxLocals := 3, code := jdk_42_method_66_code, exceptionTable := #[], attributes := #[] }
def k7m2 : Method := { name := "equals", desc := "(Ljava/lang/Object;)Z", sig := { parameters := [(.object "java/lang/Object")], returnType := some .boolean }, accessFlags := 1, code := some k7c2 }
def k7c3 : Code := { maxStack := 4, maxLocals := 6, code := jdk_42_method_149_code, exceptionTable := #[], attributes := #[] }
def k7m3 : Method := { name := "<init>", desc := "([CIILjava/lang/Void;)V", sig := { parameters := [(.array .char), .int, .int, (.object "java/lang/Void")], returnType := none }, accessFlags := 2, code := some k7c3 }
/-- java/lang/String -/
def k7 : Class := { plain "java/lang/String" (some 0) with
  accessFlags := 49
  interfaces := #[2, 3, 4, 5, 6]
  cf := some (fileOf pool7 10 #[.nestMembers #[1103]] #[{ accessFlags := 1, nameIndex := 5, descriptorIndex := 6, attributes := #[] }, { accessFlags := 1, nameIndex := 5, descriptorIndex := 1010, attributes := #[] }, { accessFlags := 1, nameIndex := 543, descriptorIndex := 573, attributes := #[] }, { accessFlags := 2, nameIndex := 5, descriptorIndex := 29, attributes := #[] }] 49 2 #[1106, 1108, 575, 1110, 1112] #[{ accessFlags := 18, nameIndex := 13, descriptorIndex := 14, attributes := #[] }, { accessFlags := 18, nameIndex := 17, descriptorIndex := 18, attributes := #[] }, { accessFlags := 2, nameIndex := 21, descriptorIndex := 22, attributes := #[] }, { accessFlags := 2, nameIndex := 25, descriptorIndex := 26, attributes := #[] }, { accessFlags := 26, nameIndex := 1116, descriptorIndex := 1117, attributes := #[] }, { accessFlags := 24, nameIndex := 40, descriptorIndex := 26, attributes := #[] }, { accessFlags := 26, nameIndex := 1101, descriptorIndex := 1102, attributes := #[] }, { accessFlags := 26, nameIndex := 1121, descriptorIndex := 1122, attributes := #[] }, { accessFlags := 25, nameIndex := 599, descriptorIndex := 600, attributes := #[] }, { accessFlags := 24, nameIndex := 1125, descriptorIndex := 18, attributes := #[] }, { accessFlags := 24, nameIndex := 1127, descriptorIndex := 18, attributes := #[] }])
  fields := #[{ name := "value", type := (.array .byte), accessFlags := 18, slot := 0, constantValue := 0 }, { name := "coder", type := .byte, accessFlags := 18, slot := 1, constantValue := 0 }, { name := "hash", type := .int, accessFlags := 2, slot := 2, constantValue := 0 }, { name := "hashIsZero", type := .boolean, accessFlags := 2, slot := 3, constantValue := 0 }, { name := "serialVersionUID", type := .long, accessFlags := 26, slot := 0, constantValue := 0 }, { name := "COMPACT_STRINGS", type := .boolean, accessFlags := 24, slot := 1, constantValue := 0 }, { name := "serialPersistentFields", type := (.array (.object "java/io/ObjectStreamField")), accessFlags := 26, slot := 2, constantValue := 0 }, { name := "REPL", type := .char, accessFlags := 26, slot := 3, constantValue := 0 }, { name := "CASE_INSENSITIVE_ORDER", type := (.object "java/util/Comparator"), accessFlags := 25, slot := 4, constantValue := 0 }, { name := "LATIN1", type := .byte, accessFlags := 24, slot := 5, constantValue := 0 }, { name := "UTF16", type := .byte, accessFlags := 24, slot := 6, constantValue := 0 }]
  methods := #[k7m0, k7m1, k7m2, k7m3]
  instanceTypes := #[(.array .byte), .byte, .int, .boolean]
  staticTypes := #[.long, .boolean, (.array (.object "java/io/ObjectStreamField")), .char, (.object "java/util/Comparator"), .byte, .byte]
  resolved := Array.replicate 1451 none
  statics := some 0 }

def pool8 : Array CpInfo := pool [(6, .class_ 8), (1, u "java/lang/Object"), (0, u "<init>"), (0, u "()V"), (0, .methodref 12 13), (0, .class_ 14), (0, .nameAndType 15 16), (0, u "java/lang/StringUTF16"), (0, u "newBytesLength"), (0, u "(I)I"), (3, .integer 1073741823), (23, .fieldref 12 45), (0, .nameAndType 46 47), (0, u "$assertionsDisabled"), (0, u "Z"), (11, .fieldref 12 60), (0, .nameAndType 61 62), (0, u "HI_BYTE_SHIFT"), (0, u "I"), (0, .fieldref 12 64), (0, .nameAndType 65 62), (0, u "LO_BYTE_SHIFT"), (5, .methodref 12 72), (0, .nameAndType 73 74), (0, u "getChar"), (0, u "([BI)C"), (32, .methodref 12 108), (0, .nameAndType 109 110), (0, u "newBytesFor"), (0, u "(I)[B"), (0, .methodref 12 112), (0, .nameAndType 113 114), (0, u "putChar"), (0, u "([BII)V"), (0, .methodref 12 116), (0, .nameAndType 117 118), (0, u "compress"), (0, u "([CI[BII)I"), (0, .methodref 12 120), (0, .nameAndType 121 122), (0, u "toBytes"), (0, u "([CII)[B"), (138, u "coderFromArrayLen"), (0, u "([BI)B"), (106, .class_ 371), (1, u "java/lang/StringUTF16$LinesSpliterator"), (58, u "MAX_LENGTH"), (196, .class_ 628), (0, u "java/lang/StringUTF16$CodePointsSpliterator"), (0, .class_ 630), (0, u "java/lang/StringUTF16$CharsSpliterator")] 4

def k8m0 : Method := { name := "<init>", desc := "()V", sig := { parameters := [], returnType := none }, accessFlags := 0, code := none }
def k8c1 : Code := { maxStack := 1, maxLocals := 1, code := jdk_52_method_2_code, exceptionTable := #[], attributes := #[] }
def k8m1 : Method := { name := "newBytesFor", desc := "(I)[B", sig := { parameters := [.int], returnType := some (.array .byte) }, accessFlags := 9, code := some k8c1 }
def k8c2 : Code := { maxStack := 4, maxLocals := 1, code := jdk_52_method_3_code, exceptionTable := #[], attributes := #[] }
def k8m2 : Method := { name := "newBytesLength", desc := "(I)I", sig := { parameters := [.int], returnType := some .int }, accessFlags := 9, code := some k8c2 }
def k8c3 : Code := { maxStack := 4, maxLocals := 3, code := jdk_52_method_4_code, exceptionTable := #[], attributes := #[] }
def k8m3 : Method := { name := "putChar", desc := "([BII)V", sig := { parameters := [(.array .byte), .int, .int], returnType := none }, accessFlags := 8, code := some k8c3 }
def k8c4 : Code := { maxStack := 3, maxLocals := 2, code := jdk_52_method_5_code, exceptionTable := #[], attributes := #[] }
def k8m4 : Method := { name := "getChar", desc := "([BI)C", sig := { parameters := [(.array .byte), .int], returnType := some .char }, accessFlags := 8, code := some k8c4 }
def k8c5 : Code := { maxStack := 4, maxLocals := 5, code := jdk_52_method_14_code, exceptionTable := #[], attributes := #[] }
def k8m5 : Method := { name := "toBytes", desc := "([CII)[B", sig := { parameters := [(.array .char), .int, .int], returnType := some (.array .byte) }, accessFlags := 9, code := some k8c5 }
def k8c6 : Code := { maxStack := 2, maxLocals := 2, code := jdk_52_method_15_code, exceptionTable := #[], attributes := #[] }
def k8m6 : Method := { name := "coderFromArrayLen", desc := "([BI)B", sig := { parameters := [(.array .byte), .int], returnType := some .byte }, accessFlags := 8, code := some k8c6 }
def k8c7 : Code := { maxStack := 5, maxLocals := 6, code := jdk_52_method_16_code, exceptionTable := #[], attributes := #[] }
def k8m7 : Method := { name := "compress", desc := "([CII)[B", sig := { parameters := [(.array .char), .int, .int], returnType := some (.array .byte) }, accessFlags := 9, code := some k8c7 }
def k8c8 : Code := { maxStack := 3, maxLocals := 7, code := jdk_52_method_21_code, exceptionTable := #[], attributes := #[] }
def k8m8 : Method := { name := "compress", desc := "([CI[BII)I", sig := { parameters := [(.array .char), .int, (.array .byte), .int, .int], returnType := some .int }, accessFlags := 9, code := some k8c8 }
/-- java/lang/StringUTF16 -/
def k8 : Class := { plain "java/lang/StringUTF16" (some 0) with
  accessFlags := 48
  interfaces := #[]
  cf := some (fileOf pool8 12 #[.nestMembers #[627, 629, 369]] #[{ accessFlags := 0, nameIndex := 9, descriptorIndex := 10, attributes := #[] }, { accessFlags := 9, nameIndex := 109, descriptorIndex := 110, attributes := #[] }, { accessFlags := 9, nameIndex := 15, descriptorIndex := 16, attributes := #[] }, { accessFlags := 8, nameIndex := 113, descriptorIndex := 114, attributes := #[] }, { accessFlags := 8, nameIndex := 73, descriptorIndex := 74, attributes := #[] }, { accessFlags := 9, nameIndex := 121, descriptorIndex := 122, attributes := #[] }, { accessFlags := 8, nameIndex := 261, descriptorIndex := 262, attributes := #[] }, { accessFlags := 9, nameIndex := 117, descriptorIndex := 122, attributes := #[] }, { accessFlags := 9, nameIndex := 117, descriptorIndex := 118, attributes := #[] }] 48 6 #[] #[{ accessFlags := 26, nameIndex := 61, descriptorIndex := 62, attributes := #[] }, { accessFlags := 26, nameIndex := 65, descriptorIndex := 62, attributes := #[] }, { accessFlags := 24, nameIndex := 430, descriptorIndex := 62, attributes := #[] }, { accessFlags := 4120, nameIndex := 46, descriptorIndex := 47, attributes := #[] }])
  fields := #[{ name := "HI_BYTE_SHIFT", type := .int, accessFlags := 26, slot := 0, constantValue := 0 }, { name := "LO_BYTE_SHIFT", type := .int, accessFlags := 26, slot := 1, constantValue := 0 }, { name := "MAX_LENGTH", type := .int, accessFlags := 24, slot := 2, constantValue := 0 }, { name := "$assertionsDisabled", type := .boolean, accessFlags := 4120, slot := 3, constantValue := 0 }]
  methods := #[k8m0, k8m1, k8m2, k8m3, k8m4, k8m5, k8m6, k8m7, k8m8]
  instanceTypes := #[]
  staticTypes := #[.int, .int, .int, .boolean]
  resolved := Array.replicate 635 none
  statics := some 1 }

def pool9 : Array CpInfo := pool [(2, .class_ 4), (1, u "java/lang/Object"), (0, u "<init>"), (0, u "()V"), (0, .class_ 8), (0, u "com/example/stanzavault/stanzavault/Format"), (0, .string 10), (0, u "http://www.xmpp.org/extensions/xep-0227.html#ns"), (0, .methodref 12 13), (0, .class_ 14), (0, .nameAndType 15 16), (0, u "java/lang/String"), (0, u "equals"), (0, u "(Ljava/lang/Object;)Z"), (0, .string 18), (0, u "urn:xmpp:pie:0"), (2, u "NAMESPACES"), (0, u "Ljava/util/Set;"), (19, u "SUBSCRIPTION_REQUEST"), (0, u "Lcom/example/stanzavault/stanzavault/Format$Address;"), (8, u "(Ljava/lang/String;)Ljava/lang/String;"), (1, .class_ 56), (1, u "com/example/stanzavault/stanzavault/Format$Address"), (50, u "PIE_NS"), (0, u "Ljava/lang/String;"), (1, u "PIE_DRAFT_NS"), (0, u "SCRAM_NS"), (0, u "MAM_NS"), (0, u "ROSTER_NS"), (0, u "PRIVATE_NS"), (0, u "PRIVACY_NS"), (0, u "VCARD_NS"), (0, u "PUBSUB_NS"), (0, u "PUBSUB_OWNER_NS"), (0, u "CLIENT_NS"), (0, u "XINCLUDE_NS"), (6, u "finalNamespace"), (6, .class_ 135), (0, u "com/example/stanzavault/stanzavault/Format$Container")] 3

def k9m0 : Method := { name := "<init>", desc := "()V", sig := { parameters := [], returnType := none }, accessFlags := 2, code := none }
def k9c1 : Code := { maxStack := 2, maxLocals := 1, code := prog_11_method_2_code, exceptionTable := #[], attributes := #[] }
def k9m1 : Method := { name := "finalNamespace", desc := "(Ljava/lang/String;)Ljava/lang/String;", sig := { parameters := [(.object "java/lang/String")], returnType := some (.object "java/lang/String") }, accessFlags := 8, code := some k9c1 }
/-- com/example/stanzavault/stanzavault/Format -/
def k9 : Class := { plain "com/example/stanzavault/stanzavault/Format" (some 0) with
  accessFlags := 48
  interfaces := #[]
  cf := some (fileOf pool9 7 #[.nestMembers #[54, 134]] #[{ accessFlags := 2, nameIndex := 5, descriptorIndex := 6, attributes := #[] }, { accessFlags := 8, nameIndex := 127, descriptorIndex := 52, attributes := #[] }] 48 2 #[] #[{ accessFlags := 24, nameIndex := 107, descriptorIndex := 108, attributes := #[] }, { accessFlags := 24, nameIndex := 110, descriptorIndex := 108, attributes := #[] }, { accessFlags := 24, nameIndex := 111, descriptorIndex := 108, attributes := #[] }, { accessFlags := 24, nameIndex := 112, descriptorIndex := 108, attributes := #[] }, { accessFlags := 24, nameIndex := 113, descriptorIndex := 108, attributes := #[] }, { accessFlags := 24, nameIndex := 114, descriptorIndex := 108, attributes := #[] }, { accessFlags := 24, nameIndex := 115, descriptorIndex := 108, attributes := #[] }, { accessFlags := 24, nameIndex := 116, descriptorIndex := 108, attributes := #[] }, { accessFlags := 24, nameIndex := 117, descriptorIndex := 108, attributes := #[] }, { accessFlags := 24, nameIndex := 118, descriptorIndex := 108, attributes := #[] }, { accessFlags := 24, nameIndex := 119, descriptorIndex := 108, attributes := #[] }, { accessFlags := 24, nameIndex := 120, descriptorIndex := 108, attributes := #[] }, { accessFlags := 26, nameIndex := 21, descriptorIndex := 22, attributes := #[] }, { accessFlags := 24, nameIndex := 42, descriptorIndex := 43, attributes := #[] }])
  fields := #[{ name := "PIE_NS", type := (.object "java/lang/String"), accessFlags := 24, slot := 0, constantValue := 0 }, { name := "PIE_DRAFT_NS", type := (.object "java/lang/String"), accessFlags := 24, slot := 1, constantValue := 0 }, { name := "SCRAM_NS", type := (.object "java/lang/String"), accessFlags := 24, slot := 2, constantValue := 0 }, { name := "MAM_NS", type := (.object "java/lang/String"), accessFlags := 24, slot := 3, constantValue := 0 }, { name := "ROSTER_NS", type := (.object "java/lang/String"), accessFlags := 24, slot := 4, constantValue := 0 }, { name := "PRIVATE_NS", type := (.object "java/lang/String"), accessFlags := 24, slot := 5, constantValue := 0 }, { name := "PRIVACY_NS", type := (.object "java/lang/String"), accessFlags := 24, slot := 6, constantValue := 0 }, { name := "VCARD_NS", type := (.object "java/lang/String"), accessFlags := 24, slot := 7, constantValue := 0 }, { name := "PUBSUB_NS", type := (.object "java/lang/String"), accessFlags := 24, slot := 8, constantValue := 0 }, { name := "PUBSUB_OWNER_NS", type := (.object "java/lang/String"), accessFlags := 24, slot := 9, constantValue := 0 }, { name := "CLIENT_NS", type := (.object "java/lang/String"), accessFlags := 24, slot := 10, constantValue := 0 }, { name := "XINCLUDE_NS", type := (.object "java/lang/String"), accessFlags := 24, slot := 11, constantValue := 0 }, { name := "NAMESPACES", type := (.object "java/util/Set"), accessFlags := 26, slot := 12, constantValue := 0 }, { name := "SUBSCRIPTION_REQUEST", type := (.object "com/example/stanzavault/stanzavault/Format$Address"), accessFlags := 24, slot := 13, constantValue := 0 }]
  methods := #[k9m0, k9m1]
  instanceTypes := #[]
  staticTypes := #[(.object "java/lang/String"), (.object "java/lang/String"), (.object "java/lang/String"), (.object "java/lang/String"), (.object "java/lang/String"), (.object "java/lang/String"), (.object "java/lang/String"), (.object "java/lang/String"), (.object "java/lang/String"), (.object "java/lang/String"), (.object "java/lang/String"), (.object "java/lang/String"), (.object "java/util/Set"), (.object "com/example/stanzavault/stanzavault/Format$Address")]
  resolved := Array.replicate 139 none
  statics := none }

def pool10 : Array CpInfo := pool [(4, .class_ 6), (1, u "java/lang/Object"), (0, u "<init>"), (0, u "()V"), (5, .class_ 16), (1, u "java/lang/StringLatin1"), (104, u "$assertionsDisabled"), (0, u "Z"), (98, .class_ 223), (1, u "java/lang/StringLatin1$LinesSpliterator"), (57, u "equals"), (0, u "([B[B)Z"), (107, .class_ 391), (0, u "java/lang/StringLatin1$CharsSpliterator")] 3

def k10m0 : Method := { name := "<init>", desc := "()V", sig := { parameters := [], returnType := none }, accessFlags := 0, code := none }
def k10c1 : Code := { maxStack := 3, maxLocals := 3, code := jdk_43_method_13_code, exceptionTable := #[], attributes := #[] }
def k10m1 : Method := { name := "equals", desc := "([B[B)Z", sig := { parameters := [(.array .byte), (.array .byte)], returnType := some .boolean }, accessFlags := 9, code := some k10c1 }
/-- java/lang/StringLatin1 -/
def k10 : Class := { plain "java/lang/StringLatin1" (some 0) with
  accessFlags := 48
  interfaces := #[]
  cf := some (fileOf pool10 14 #[.nestMembers #[390, 221]] #[{ accessFlags := 0, nameIndex := 7, descriptorIndex := 8, attributes := #[] }, { accessFlags := 9, nameIndex := 281, descriptorIndex := 282, attributes := #[] }] 48 4 #[] #[{ accessFlags := 4120, nameIndex := 121, descriptorIndex := 122, attributes := #[] }])
  fields := #[{ name := "$assertionsDisabled", type := .boolean, accessFlags := 4120, slot := 0, constantValue := 0 }]
  methods := #[k10m0, k10m1]
  instanceTypes := #[]
  staticTypes := #[.boolean]
  resolved := Array.replicate 395 none
  statics := none }

def pool11 : Array CpInfo := pool [(2, .class_ 4), (1, u "java/lang/Object"), (0, u "<init>"), (0, u "()V"), (17, .class_ 26), (1, u "jdk/internal/util/Preconditions"), (28, .class_ 56), (0, u "jdk/internal/util/Preconditions$4"), (57, .class_ 115), (0, u "jdk/internal/util/Preconditions$1"), (7, u "SIOOBE_FORMATTER"), (0, u "Ljava/util/function/BiFunction;"), (0, .class_ 126), (0, u "jdk/internal/util/Preconditions$2"), (3, u "AIOOBE_FORMATTER"), (0, .class_ 132), (0, u "jdk/internal/util/Preconditions$3"), (3, u "IOOBE_FORMATTER")] 57

def k11m0 : Method := { name := "<init>", desc := "()V", sig := { parameters := [], returnType := none }, accessFlags := 1, code := none }
/-- jdk/internal/util/Preconditions -/
def k11 : Class := { plain "jdk/internal/util/Preconditions" (some 0) with
  accessFlags := 33
  interfaces := #[]
  cf := some (fileOf pool11 24 #[.nestMembers #[55, 131, 125, 114]] #[{ accessFlags := 1, nameIndex := 5, descriptorIndex := 6, attributes := #[] }] 33 2 #[] #[{ accessFlags := 25, nameIndex := 123, descriptorIndex := 124, attributes := #[] }, { accessFlags := 25, nameIndex := 130, descriptorIndex := 124, attributes := #[] }, { accessFlags := 25, nameIndex := 136, descriptorIndex := 124, attributes := #[] }])
  fields := #[{ name := "SIOOBE_FORMATTER", type := (.object "java/util/function/BiFunction"), accessFlags := 25, slot := 0, constantValue := 0 }, { name := "AIOOBE_FORMATTER", type := (.object "java/util/function/BiFunction"), accessFlags := 25, slot := 1, constantValue := 0 }, { name := "IOOBE_FORMATTER", type := (.object "java/util/function/BiFunction"), accessFlags := 25, slot := 2, constantValue := 0 }]
  methods := #[k11m0]
  instanceTypes := #[]
  staticTypes := #[(.object "java/util/function/BiFunction"), (.object "java/util/function/BiFunction"), (.object "java/util/function/BiFunction")]
  resolved := Array.replicate 194 none
  statics := some 2 }

def pool12 : Array CpInfo := pool [(9, u "<init>"), (6, .class_ 18), (1, u "java/lang/Object"), (0, u "()V"), (1, .class_ 23), (1, u "jdk/internal/util/ArraysSupport"), (0, u "LOG2_ARRAY_LONG_INDEX_SCALE"), (0, u "I"), (2, u "U"), (0, u "Ljdk/internal/misc/Unsafe;"), (8, u "BIG_ENDIAN"), (0, u "Z"), (8, u "LOG2_BYTE_BIT_SIZE"), (4, u "LOG2_ARRAY_INT_INDEX_SCALE"), (54, u "JLA"), (0, u "Ljdk/internal/access/JavaLangAccess;"), (11, u "LOG2_ARRAY_BOOLEAN_INDEX_SCALE"), (9, u "LOG2_ARRAY_BYTE_INDEX_SCALE"), (5, u "LOG2_ARRAY_CHAR_INDEX_SCALE"), (5, u "LOG2_ARRAY_SHORT_INDEX_SCALE"), (18, u "LOG2_ARRAY_FLOAT_INDEX_SCALE"), (24, u "LOG2_ARRAY_DOUBLE_INDEX_SCALE"), (89, u "T_BOOLEAN"), (2, u "T_CHAR"), (1, u "T_FLOAT"), (1, u "T_DOUBLE"), (1, u "T_BYTE"), (1, u "T_SHORT"), (1, u "T_INT"), (1, u "T_LONG"), (1, u "SOFT_MAX_ARRAY_LENGTH")] 83

def k12m0 : Method := { name := "<init>", desc := "()V", sig := { parameters := [], returnType := none }, accessFlags := 2, code := none }
/-- jdk/internal/util/ArraysSupport -/
def k12 : Class := { plain "jdk/internal/util/ArraysSupport" (some 0) with
  accessFlags := 33
  interfaces := #[]
  cf := some (fileOf pool12 21 #[] #[{ accessFlags := 2, nameIndex := 9, descriptorIndex := 19, attributes := #[] }] 33 16 #[] #[{ accessFlags := 24, nameIndex := 28, descriptorIndex := 29, attributes := #[] }, { accessFlags := 26, nameIndex := 38, descriptorIndex := 39, attributes := #[] }, { accessFlags := 25, nameIndex := 121, descriptorIndex := 25, attributes := #[] }, { accessFlags := 25, nameIndex := 131, descriptorIndex := 25, attributes := #[] }, { accessFlags := 25, nameIndex := 137, descriptorIndex := 25, attributes := #[] }, { accessFlags := 25, nameIndex := 143, descriptorIndex := 25, attributes := #[] }, { accessFlags := 25, nameIndex := 53, descriptorIndex := 25, attributes := #[] }, { accessFlags := 25, nameIndex := 24, descriptorIndex := 25, attributes := #[] }, { accessFlags := 25, nameIndex := 162, descriptorIndex := 25, attributes := #[] }, { accessFlags := 25, nameIndex := 187, descriptorIndex := 25, attributes := #[] }, { accessFlags := 26, nameIndex := 48, descriptorIndex := 25, attributes := #[] }, { accessFlags := 25, nameIndex := 277, descriptorIndex := 25, attributes := #[] }, { accessFlags := 25, nameIndex := 280, descriptorIndex := 25, attributes := #[] }, { accessFlags := 25, nameIndex := 282, descriptorIndex := 25, attributes := #[] }, { accessFlags := 25, nameIndex := 284, descriptorIndex := 25, attributes := #[] }, { accessFlags := 25, nameIndex := 286, descriptorIndex := 25, attributes := #[] }, { accessFlags := 25, nameIndex := 288, descriptorIndex := 25, attributes := #[] }, { accessFlags := 25, nameIndex := 290, descriptorIndex := 25, attributes := #[] }, { accessFlags := 25, nameIndex := 292, descriptorIndex := 25, attributes := #[] }, { accessFlags := 26, nameIndex := 108, descriptorIndex := 109, attributes := #[] }, { accessFlags := 25, nameIndex := 294, descriptorIndex := 25, attributes := #[] }])
  fields := #[{ name := "U", type := (.object "jdk/internal/misc/Unsafe"), accessFlags := 24, slot := 0, constantValue := 0 }, { name := "BIG_ENDIAN", type := .boolean, accessFlags := 26, slot := 1, constantValue := 0 }, { name := "LOG2_ARRAY_BOOLEAN_INDEX_SCALE", type := .int, accessFlags := 25, slot := 2, constantValue := 0 }, { name := "LOG2_ARRAY_BYTE_INDEX_SCALE", type := .int, accessFlags := 25, slot := 3, constantValue := 0 }, { name := "LOG2_ARRAY_CHAR_INDEX_SCALE", type := .int, accessFlags := 25, slot := 4, constantValue := 0 }, { name := "LOG2_ARRAY_SHORT_INDEX_SCALE", type := .int, accessFlags := 25, slot := 5, constantValue := 0 }, { name := "LOG2_ARRAY_INT_INDEX_SCALE", type := .int, accessFlags := 25, slot := 6, constantValue := 0 }, { name := "LOG2_ARRAY_LONG_INDEX_SCALE", type := .int, accessFlags := 25, slot := 7, constantValue := 0 }, { name := "LOG2_ARRAY_FLOAT_INDEX_SCALE", type := .int, accessFlags := 25, slot := 8, constantValue := 0 }, { name := "LOG2_ARRAY_DOUBLE_INDEX_SCALE", type := .int, accessFlags := 25, slot := 9, constantValue := 0 }, { name := "LOG2_BYTE_BIT_SIZE", type := .int, accessFlags := 26, slot := 10, constantValue := 0 }, { name := "T_BOOLEAN", type := .int, accessFlags := 25, slot := 11, constantValue := 0 }, { name := "T_CHAR", type := .int, accessFlags := 25, slot := 12, constantValue := 0 }, { name := "T_FLOAT", type := .int, accessFlags := 25, slot := 13, constantValue := 0 }, { name := "T_DOUBLE", type := .int, accessFlags := 25, slot := 14, constantValue := 0 }, { name := "T_BYTE", type := .int, accessFlags := 25, slot := 15, constantValue := 0 }, { name := "T_SHORT", type := .int, accessFlags := 25, slot := 16, constantValue := 0 }, { name := "T_INT", type := .int, accessFlags := 25, slot := 17, constantValue := 0 }, { name := "T_LONG", type := .int, accessFlags := 25, slot := 18, constantValue := 0 }, { name := "JLA", type := (.object "jdk/internal/access/JavaLangAccess"), accessFlags := 26, slot := 19, constantValue := 0 }, { name := "SOFT_MAX_ARRAY_LENGTH", type := .int, accessFlags := 25, slot := 20, constantValue := 0 }]
  methods := #[k12m0]
  instanceTypes := #[]
  staticTypes := #[(.object "jdk/internal/misc/Unsafe"), .boolean, .int, .int, .int, .int, .int, .int, .int, .int, .int, .int, .int, .int, .int, .int, .int, .int, .int, (.object "jdk/internal/access/JavaLangAccess"), .int]
  resolved := Array.replicate 378 none
  statics := none }

def pool13 : Array CpInfo := pool [(1, u "java/lang/Cloneable"), (0, .class_ 1), (0, u "java/lang/Object"), (0, .class_ 3)] 3

/-- java/lang/Cloneable -/
def k13 : Class := { plain "java/lang/Cloneable" (some 0) with
  accessFlags := 1537
  interfaces := #[]
  cf := some (fileOf pool13 2 #[] #[] 1537 4 #[] #[])
  fields := #[]
  methods := #[]
  instanceTypes := #[]
  staticTypes := #[]
  resolved := Array.replicate 8 none
  statics := none }

/-- the primitive byte -/
def k14 : Class := { plain "byte" none with kind := .primitive 'B', accessFlags := 0x411 }
/-- [B -/
def k15 : Class := { plain "[B" (some 0) with kind := .array 14 .byte, interfaces := #[13, 2], accessFlags := 1041 }

/-- the primitive char -/
def k16 : Class := { plain "char" none with kind := .primitive 'C', accessFlags := 0x411 }
/-- [C -/
def k17 : Class := { plain "[C" (some 0) with kind := .array 16 .char, interfaces := #[13, 2], accessFlags := 1041 }

/-- the primitive int -/
def k18 : Class := { plain "int" none with kind := .primitive 'I', accessFlags := 0x411 }
/-- [I -/
def k19 : Class := { plain "[I" (some 0) with kind := .array 18 .int, interfaces := #[13, 2], accessFlags := 1041 }

def heap : Heap := #[{ cls := 7, slots := #[.long 0, .int 1, .null, .int 0, .null, .int 0, .int 0], vm := .statics 7 },
  { cls := 8, slots := #[.int 0, .int 8, .int 0, .int 1], vm := .statics 8 },
  { cls := 11, slots := #[.null, .null, .null], vm := .statics 11 }]
def classes : Array Class := #[k0, k1, k2, k3, k4, k5, k6, k7, k8, k9, k10, k11, k12, k13, k14, k15, k16, k17, k18, k19]
def interned : List (Array UInt16 × Addr) := []
def slotsUsed : Nat := 14
def theMethod : MethodId := ⟨1, 4⟩
def args0 : Array Value := #[.int 5, .int 7, .int 9, .int 1, .int 2, .int 3]
def aboutOver (below : List Frame) : State where
  vm := { classes := classes, interned := interned.toArray }
  heap := heap
  slotsUsed := slotsUsed
  threads := #[{ frames := .invoking theMethod args0 :: below }]
def below0 : List Frame := [.native { method := ⟨0, 0⟩, args := #[] }]
def about1 : State := aboutOver below0
def p0 : Program := .bare "" "" ""
def e0 : Env := launch0.env 0 0 0
theorem w_frames : about1.frames = Frame.invoking theMethod args0 :: below0 := rfl
set_option maxRecDepth 65536 in
theorem w_args : argsFit about1.vm theMethod args0 = true := by decide +kernel
set_option maxRecDepth 65536 in
theorem w_heap : heapFits about1 = true := by decide +kernel
set_option maxRecDepth 65536 in
theorem w_runnable : about1.curStatus? = some .runnable := by decide +kernel
set_option maxRecDepth 65536 in
theorem w_alone : about1.alone = true := by decide +kernel
set_option maxRecDepth 65536 in
theorem w_named : about1.methodNamed? x = some theMethod := by decide +kernel
set_option maxRecDepth 65536 in
theorem w_hears : about1.hears theMethod below0 = true := by decide +kernel
set_option maxRecDepth 65536 in
theorem w_ripe : about1.ripe theMethod args0 below0 = true := by decide +kernel
theorem w_running : about1.status = .running := rfl
set_option maxRecDepth 65536 in
theorem w_room : about1.hasRoom e0.platform room_1 = true :=
  launch0.hasRoom_least _ room_1 (by decide +kernel) (by decide +kernel) (by decide +kernel) (by decide +kernel) (by decide +kernel) (by decide +kernel)
theorem allAtoms_all (ts : List Jvm.Cond) (a : Array Jvm.Value) (st : Jvm.State) : (allAtoms ts).before a st = ts.all (fun c => c.before a st) := by
  induction ts with
  | nil => rfl
  | cons c t ih =>
    show (Jvm.Cond.and c (allAtoms t)).before a st = _
    rw [Jvm.Cond.before_and, ih, List.all_cons]
def words1 : List Jvm.Cond := Jvm.Cond.code x code maxLocals ret :: tables_1
/-- a 'code' word, met by the world's own term for the bytes: nothing is compared byte by byte -/
theorem code_word {y : MethodName} {bytes : ByteArray} {mx : Nat} {rt : Option FieldType} {a : Array Value} {s : State} {m : MethodId} {meth : Method} {c : Code} (h1 : s.methodNamed? y = some m) (h2 : s.vm.method? m = some meth) (h3 : meth.code = some c) (h4 : c.code = bytes)
    (h5 : (c.maxLocals == mx && c.exceptionTable.isEmpty && decide (c.maxStack ≤ mostOperands) && decide (meth.sig.returnType = rt) && !meth.locks && decide (parseMethodDescriptor y.desc = some meth.sig)) = true) : (Jvm.Cond.code y bytes mx rt).before a s = true := by
  simp only [Bool.and_eq_true, beq_iff_eq, Bool.not_eq_true', decide_eq_true_eq] at h5
  obtain ⟨⟨⟨⟨⟨g1, g2⟩, g3⟩, g4⟩, g5⟩, g6⟩ := h5
  simp [Cond.before, Cond.holds, Cond.value, h1, h2, h3, h4, g1, g2, g3, g4, g5, g6]
def isCode : Jvm.Cond → Bool
  | .code _ _ _ _ => true
  | _ => false
theorem all_split {L : List Jvm.Cond} {P : Jvm.Cond → Bool} (h1 : L.all (fun c => isCode c || P c) = true) (h2 : ∀ c ∈ L.filter isCode, P c = true) : L.all P = true := by
  refine List.all_eq_true.mpr fun c hc => ?_
  have h := List.all_eq_true.mp h1 c hc
  rcases Bool.eq_false_or_eq_true (isCode c) with hi | hi
  · exact h2 c (List.mem_filter.mpr ⟨hc, hi⟩)
  · simpa [hi] using h
set_option maxRecDepth 65536 in
theorem w_c0 : (Jvm.Cond.code x code maxLocals ret).before args0 about1 = true := code_word (m := ⟨1, 4⟩) (meth := k1m4) (c := k1c4) (by decide +kernel) rfl rfl rfl (by decide +kernel)
set_option maxRecDepth 65536 in
theorem w_c1 : (Jvm.Cond.code ({ cls := "com/example/stanzavault/stanzavault/FormatFinalNamespacePinLaw", name := "draft", desc := "()[C" } : Jvm.MethodName) method_2_code (0 : Nat) (Option.some (Jvm.ClassFile.FieldType.array Jvm.ClassFile.FieldType.char))).before args0 about1 = true := code_word (m := ⟨1, 1⟩) (meth := k1m1) (c := k1c1) (by decide +kernel) rfl rfl rfl (by decide +kernel)
set_option maxRecDepth 65536 in
theorem w_c2 : (Jvm.Cond.code ({ cls := "java/lang/String", name := "<init>", desc := "([C)V" } : Jvm.MethodName) jdk_42_method_3_code (2 : Nat) (Option.none : Option Jvm.ClassFile.FieldType)).before args0 about1 = true := code_word (m := ⟨7, 1⟩) (meth := k7m1) (c := k7c1) (by decide +kernel) rfl rfl rfl (by decide +kernel)
set_option maxRecDepth 65536 in
theorem w_c3 : (Jvm.Cond.code ({ cls := "java/lang/String", name := "<init>", desc := "([CIILjava/lang/Void;)V" } : Jvm.MethodName) jdk_42_method_149_code (6 : Nat) (Option.none : Option Jvm.ClassFile.FieldType)).before args0 about1 = true := code_word (m := ⟨7, 3⟩) (meth := k7m3) (c := k7c3) (by decide +kernel) rfl rfl rfl (by decide +kernel)
set_option maxRecDepth 65536 in
theorem w_c4 : (Jvm.Cond.code ({ cls := "java/lang/Object", name := "<init>", desc := "()V" } : Jvm.MethodName) object_method_1_code (1 : Nat) (Option.none : Option Jvm.ClassFile.FieldType)).before args0 about1 = true := code_word (m := ⟨0, 0⟩) (meth := k0m0) (c := k0c0) (by decide +kernel) rfl rfl rfl (by decide +kernel)
set_option maxRecDepth 65536 in
theorem w_c5 : (Jvm.Cond.code ({ cls := "java/lang/StringUTF16", name := "compress", desc := "([CII)[B" } : Jvm.MethodName) jdk_52_method_16_code (6 : Nat) (Option.some (Jvm.ClassFile.FieldType.array Jvm.ClassFile.FieldType.byte))).before args0 about1 = true := code_word (m := ⟨8, 7⟩) (meth := k8m7) (c := k8c7) (by decide +kernel) rfl rfl rfl (by decide +kernel)
set_option maxRecDepth 65536 in
theorem w_c6 : (Jvm.Cond.code ({ cls := "java/lang/StringUTF16", name := "compress", desc := "([CI[BII)I" } : Jvm.MethodName) jdk_52_method_21_code (7 : Nat) (Option.some Jvm.ClassFile.FieldType.int)).before args0 about1 = true := code_word (m := ⟨8, 8⟩) (meth := k8m8) (c := k8c8) (by decide +kernel) rfl rfl rfl (by decide +kernel)
set_option maxRecDepth 65536 in
theorem w_c7 : (Jvm.Cond.code ({ cls := "java/lang/StringUTF16", name := "coderFromArrayLen", desc := "([BI)B" } : Jvm.MethodName) jdk_52_method_15_code (2 : Nat) (Option.some Jvm.ClassFile.FieldType.byte)).before args0 about1 = true := code_word (m := ⟨8, 6⟩) (meth := k8m6) (c := k8c6) (by decide +kernel) rfl rfl rfl (by decide +kernel)
set_option maxRecDepth 65536 in
theorem w_c8 : (Jvm.Cond.code ({ cls := "com/example/stanzavault/stanzavault/Format", name := "finalNamespace", desc := "(Ljava/lang/String;)Ljava/lang/String;" } : Jvm.MethodName) prog_11_method_2_code (1 : Nat) (Option.some (Jvm.ClassFile.FieldType.object "java/lang/String"))).before args0 about1 = true := code_word (m := ⟨9, 1⟩) (meth := k9m1) (c := k9c1) (by decide +kernel) rfl rfl rfl (by decide +kernel)
set_option maxRecDepth 65536 in
theorem w_c9 : (Jvm.Cond.code ({ cls := "java/lang/String", name := "equals", desc := "(Ljava/lang/Object;)Z" } : Jvm.MethodName) jdk_42_method_66_code (3 : Nat) (Option.some Jvm.ClassFile.FieldType.boolean)).before args0 about1 = true := code_word (m := ⟨7, 2⟩) (meth := k7m2) (c := k7c2) (by decide +kernel) rfl rfl rfl (by decide +kernel)
set_option maxRecDepth 65536 in
theorem w_c10 : (Jvm.Cond.code ({ cls := "java/lang/StringLatin1", name := "equals", desc := "([B[B)Z" } : Jvm.MethodName) jdk_43_method_13_code (3 : Nat) (Option.some Jvm.ClassFile.FieldType.boolean)).before args0 about1 = true := code_word (m := ⟨10, 1⟩) (meth := k10m1) (c := k10c1) (by decide +kernel) rfl rfl rfl (by decide +kernel)
set_option maxRecDepth 65536 in
theorem w_c11 : (Jvm.Cond.code ({ cls := "java/lang/StringUTF16", name := "toBytes", desc := "([CII)[B" } : Jvm.MethodName) jdk_52_method_14_code (5 : Nat) (Option.some (Jvm.ClassFile.FieldType.array Jvm.ClassFile.FieldType.byte))).before args0 about1 = true := code_word (m := ⟨8, 5⟩) (meth := k8m5) (c := k8c5) (by decide +kernel) rfl rfl rfl (by decide +kernel)
set_option maxRecDepth 65536 in
theorem w_c12 : (Jvm.Cond.code ({ cls := "java/lang/StringUTF16", name := "newBytesFor", desc := "(I)[B" } : Jvm.MethodName) jdk_52_method_2_code (1 : Nat) (Option.some (Jvm.ClassFile.FieldType.array Jvm.ClassFile.FieldType.byte))).before args0 about1 = true := code_word (m := ⟨8, 1⟩) (meth := k8m1) (c := k8c1) (by decide +kernel) rfl rfl rfl (by decide +kernel)
set_option maxRecDepth 65536 in
theorem w_c13 : (Jvm.Cond.code ({ cls := "java/lang/StringUTF16", name := "newBytesLength", desc := "(I)I" } : Jvm.MethodName) jdk_52_method_3_code (1 : Nat) (Option.some Jvm.ClassFile.FieldType.int)).before args0 about1 = true := code_word (m := ⟨8, 2⟩) (meth := k8m2) (c := k8c2) (by decide +kernel) rfl rfl rfl (by decide +kernel)
set_option maxRecDepth 65536 in
theorem w_c14 : (Jvm.Cond.code ({ cls := "java/lang/StringUTF16", name := "putChar", desc := "([BII)V" } : Jvm.MethodName) jdk_52_method_4_code (3 : Nat) (Option.none : Option Jvm.ClassFile.FieldType)).before args0 about1 = true := code_word (m := ⟨8, 3⟩) (meth := k8m3) (c := k8c3) (by decide +kernel) rfl rfl rfl (by decide +kernel)
set_option maxRecDepth 65536 in
theorem w_c15 : (Jvm.Cond.code ({ cls := "java/lang/StringUTF16", name := "getChar", desc := "([BI)C" } : Jvm.MethodName) jdk_52_method_5_code (2 : Nat) (Option.some Jvm.ClassFile.FieldType.char)).before args0 about1 = true := code_word (m := ⟨8, 4⟩) (meth := k8m4) (c := k8c4) (by decide +kernel) rfl rfl rfl (by decide +kernel)
set_option maxRecDepth 65536 in
theorem w_c16 : (Jvm.Cond.code ({ cls := "com/example/stanzavault/stanzavault/FormatFinalNamespacePinLaw", name := "oneThenDraft", desc := "(C)[C" } : Jvm.MethodName) method_4_code (1 : Nat) (Option.some (Jvm.ClassFile.FieldType.array Jvm.ClassFile.FieldType.char))).before args0 about1 = true := code_word (m := ⟨1, 3⟩) (meth := k1m3) (c := k1c3) (by decide +kernel) rfl rfl rfl (by decide +kernel)
set_option maxRecDepth 65536 in
theorem w_c17 : (Jvm.Cond.code ({ cls := "com/example/stanzavault/stanzavault/FormatFinalNamespacePinLaw", name := "draftThenOne", desc := "(C)[C" } : Jvm.MethodName) method_3_code (1 : Nat) (Option.some (Jvm.ClassFile.FieldType.array Jvm.ClassFile.FieldType.char))).before args0 about1 = true := code_word (m := ⟨1, 2⟩) (meth := k1m2) (c := k1c2) (by decide +kernel) rfl rfl rfl (by decide +kernel)
def codes1 : List Jvm.Cond := [Jvm.Cond.code x code maxLocals ret, Jvm.Cond.code ({ cls := "com/example/stanzavault/stanzavault/FormatFinalNamespacePinLaw", name := "draft", desc := "()[C" } : Jvm.MethodName) method_2_code (0 : Nat) (Option.some (Jvm.ClassFile.FieldType.array Jvm.ClassFile.FieldType.char)), Jvm.Cond.code ({ cls := "java/lang/String", name := "<init>", desc := "([C)V" } : Jvm.MethodName) jdk_42_method_3_code (2 : Nat) (Option.none : Option Jvm.ClassFile.FieldType), Jvm.Cond.code ({ cls := "java/lang/String", name := "<init>", desc := "([CIILjava/lang/Void;)V" } : Jvm.MethodName) jdk_42_method_149_code (6 : Nat) (Option.none : Option Jvm.ClassFile.FieldType), Jvm.Cond.code ({ cls := "java/lang/Object", name := "<init>", desc := "()V" } : Jvm.MethodName) object_method_1_code (1 : Nat) (Option.none : Option Jvm.ClassFile.FieldType), Jvm.Cond.code ({ cls := "java/lang/StringUTF16", name := "compress", desc := "([CII)[B" } : Jvm.MethodName) jdk_52_method_16_code (6 : Nat) (Option.some (Jvm.ClassFile.FieldType.array Jvm.ClassFile.FieldType.byte)), Jvm.Cond.code ({ cls := "java/lang/StringUTF16", name := "compress", desc := "([CI[BII)I" } : Jvm.MethodName) jdk_52_method_21_code (7 : Nat) (Option.some Jvm.ClassFile.FieldType.int), Jvm.Cond.code ({ cls := "java/lang/StringUTF16", name := "coderFromArrayLen", desc := "([BI)B" } : Jvm.MethodName) jdk_52_method_15_code (2 : Nat) (Option.some Jvm.ClassFile.FieldType.byte), Jvm.Cond.code ({ cls := "com/example/stanzavault/stanzavault/Format", name := "finalNamespace", desc := "(Ljava/lang/String;)Ljava/lang/String;" } : Jvm.MethodName) prog_11_method_2_code (1 : Nat) (Option.some (Jvm.ClassFile.FieldType.object "java/lang/String")), Jvm.Cond.code ({ cls := "java/lang/String", name := "equals", desc := "(Ljava/lang/Object;)Z" } : Jvm.MethodName) jdk_42_method_66_code (3 : Nat) (Option.some Jvm.ClassFile.FieldType.boolean), Jvm.Cond.code ({ cls := "java/lang/StringLatin1", name := "equals", desc := "([B[B)Z" } : Jvm.MethodName) jdk_43_method_13_code (3 : Nat) (Option.some Jvm.ClassFile.FieldType.boolean), Jvm.Cond.code ({ cls := "java/lang/StringUTF16", name := "toBytes", desc := "([CII)[B" } : Jvm.MethodName) jdk_52_method_14_code (5 : Nat) (Option.some (Jvm.ClassFile.FieldType.array Jvm.ClassFile.FieldType.byte)), Jvm.Cond.code ({ cls := "java/lang/StringUTF16", name := "newBytesFor", desc := "(I)[B" } : Jvm.MethodName) jdk_52_method_2_code (1 : Nat) (Option.some (Jvm.ClassFile.FieldType.array Jvm.ClassFile.FieldType.byte)), Jvm.Cond.code ({ cls := "java/lang/StringUTF16", name := "newBytesLength", desc := "(I)I" } : Jvm.MethodName) jdk_52_method_3_code (1 : Nat) (Option.some Jvm.ClassFile.FieldType.int), Jvm.Cond.code ({ cls := "java/lang/StringUTF16", name := "putChar", desc := "([BII)V" } : Jvm.MethodName) jdk_52_method_4_code (3 : Nat) (Option.none : Option Jvm.ClassFile.FieldType), Jvm.Cond.code ({ cls := "java/lang/StringUTF16", name := "getChar", desc := "([BI)C" } : Jvm.MethodName) jdk_52_method_5_code (2 : Nat) (Option.some Jvm.ClassFile.FieldType.char), Jvm.Cond.code ({ cls := "com/example/stanzavault/stanzavault/FormatFinalNamespacePinLaw", name := "oneThenDraft", desc := "(C)[C" } : Jvm.MethodName) method_4_code (1 : Nat) (Option.some (Jvm.ClassFile.FieldType.array Jvm.ClassFile.FieldType.char)), Jvm.Cond.code ({ cls := "com/example/stanzavault/stanzavault/FormatFinalNamespacePinLaw", name := "draftThenOne", desc := "(C)[C" } : Jvm.MethodName) method_3_code (1 : Nat) (Option.some (Jvm.ClassFile.FieldType.array Jvm.ClassFile.FieldType.char))]
set_option maxRecDepth 65536 in
theorem codes_eq : words1.filter isCode = codes1 := rfl
theorem w_codes : ∀ c ∈ words1.filter isCode, c.before args0 about1 = true := by
  rw [codes_eq]
  intro c hc
  simp only [codes1, List.mem_cons, List.not_mem_nil, or_false] at hc
  rcases hc with rfl | rfl | rfl | rfl | rfl | rfl | rfl | rfl | rfl | rfl | rfl | rfl | rfl | rfl | rfl | rfl | rfl | rfl
  · exact w_c0
  · exact w_c1
  · exact w_c2
  · exact w_c3
  · exact w_c4
  · exact w_c5
  · exact w_c6
  · exact w_c7
  · exact w_c8
  · exact w_c9
  · exact w_c10
  · exact w_c11
  · exact w_c12
  · exact w_c13
  · exact w_c14
  · exact w_c15
  · exact w_c16
  · exact w_c17
set_option maxRecDepth 65536 in
theorem w_t1 : (words1.take 24).all (fun c => isCode c || c.before args0 about1) = true := by decide +kernel
set_option maxRecDepth 65536 in
theorem w_t2 : ((words1.drop 24).take 24).all (fun c => isCode c || c.before args0 about1) = true := by decide +kernel
set_option maxRecDepth 65536 in
theorem w_t3 : (((words1.drop 24).drop 24).take 24).all (fun c => isCode c || c.before args0 about1) = true := by decide +kernel
set_option maxRecDepth 65536 in
theorem w_t4 : (((words1.drop 24).drop 24).drop 24).all (fun c => isCode c || c.before args0 about1) = true := by decide +kernel
theorem w_tables : (allAtoms (Jvm.Cond.code x code maxLocals ret :: tables_1)).before args0 about1 = true := by
  rw [allAtoms_all]
  show words1.all (fun c => c.before args0 about1) = true
  refine all_split ?_ w_codes
  rw [← List.take_append_drop 24 words1, List.all_append, w_t1, ← List.take_append_drop 24 (words1.drop 24), List.all_append, w_t2, ← List.take_append_drop 24 ((words1.drop 24).drop 24), List.all_append, w_t3, w_t4]
  rfl
set_option maxRecDepth 65536 in
theorem w_rest : rest_1_c.before args0 about1 = true := by decide +kernel
set_option maxRecDepth 65536 in
theorem w_case : (Jvm.Cond.and given_1 narrow_1).before args0 about1 = true := by decide +kernel
set_option maxRecDepth 65536 in
theorem w_consts : constsHeld consts_1 about1 := Jvm.Lit.constsHeldB_iff.mp (by decide +kernel)
theorem w_applies : (headSpec (Jvm.Cond.code x code maxLocals ret :: tables_1) room_1).applies x e0.platform about1 = true :=
  (Spec.applies_iff w_frames).mpr ⟨w_running, w_runnable, w_alone, w_named, w_hears, w_ripe, w_room, w_tables⟩
theorem atStart : AtStart classFile x code maxLocals ret World_1 tables_1 room_1 Calls_1 rest_1 Pre_1 launch0 p0 e0 about1 theMethod args0 below0 :=
  ⟨lists_1, trivial, launch0.admits_env _ _ _, launch0.least_env, fairChoices_fair.cas, fairChoices_fair.clock, w_frames, w_args, w_heap, w_applies, ⟨w_consts, trivial⟩, w_rest, w_case⟩
end start1
theorem witness_1 : WitnessClaimed_1 := ⟨start1.p0, start1.e0, start1.about1, start1.theMethod, start1.args0, start1.below0, start1.atStart⟩
end Jvm.Pilot.@@N@@
