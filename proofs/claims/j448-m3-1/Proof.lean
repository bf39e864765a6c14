import JvmDerived
import JvmDerived.Pilot.@@N@@Statement
import JvmDerived.Pilot.@@N@@Code
set_option linter.unusedVariables false
set_option linter.unusedSimpArgs false
namespace Jvm.Own
open Sem ClassFile Op Lib
/-- what is known of the frames below (here: nothing is asked) -/
def Kn (_ : Vm) (_ : List Frame) : Prop := True
theorem Kn.alike {vm vm' : Vm} {fs : List Frame} (_ : Kn vm fs) (_ : vm.Alike vm') : Kn vm' fs := trivial
theorem Kn.push {vm : Vm} {fs : List Frame} (_ : Kn vm fs) {g : JFrame} {meth : Method} (_ : vm.method? g.method = some meth) : Kn vm (.java g :: fs) := trivial
end Jvm.Own
namespace Jvm.RoadKit
theorem Keep.mono {h h' : Heap} {ws ws' : List Addr} (K : Keep h h' ws) (q : ∀ x ∈ ws, x ∈ ws') : Keep h h' ws' := ⟨K.1, fun x c h1 h2 => K.2.1 x c h1 fun z => h2 (q x z), K.2.2⟩
end Jvm.RoadKit
namespace Jvm.Own
open Sem ClassFile Op Lib Jvm.Stand Jvm.Free Jvm.LawKit Jvm.RoadKit
/-! A walk in continuation form, over the library's Stand, RoadKit and the cold laws (RW10): 'Run' says: from here the invocation ends as Q says. -/
abbrev Lits := Option (List (String × Addr))
/-- the intern table: the start's pairs, and pairs whose text and place are among Ls (none: nothing is said) -/
def Itn (Z : State) (vm : Vm) (Ls : Lits) : Prop := ∀ lt, Ls = some lt → ∃ more : Array (Array UInt16 × Addr), vm.interned = Z.vm.interned ++ more ∧ ∀ q ∈ more, ∃ t ∈ lt, utf16ToString? q.1 = some t.1 ∧ q.2 = t.2
theorem Itn.start (Z : State) : Itn Z Z.vm (some []) := fun lt hl => ⟨#[], by simp, fun q hq => by simp at hq⟩
theorem Itn.nothing (Z : State) (vm : Vm) : Itn Z vm none := fun lt hl => nomatch hl
theorem Itn.eq {Z : State} {vm vm' : Vm} {Ls : Lits} (I : Itn Z vm Ls) (h : vm'.interned = vm.interned) : Itn Z vm' Ls := fun lt hl => by
  obtain ⟨more, h1, h2⟩ := I lt hl
  exact ⟨more, h.trans h1, h2⟩
def Done (Z : State) (n0 : Nat) (R : Room) (s : State) (Q : Option Value → Heap → Lits → Prop) (o : Outcome) (u : State) : Prop :=
  ∃ (v : Option Value) (L : List Loc) (Ls : Lits), o = .returned v ∧ Q v u.heap Ls ∧ Old Z n0 u.heap ∧ Itn Z u.vm Ls ∧ Fr n0 L ∧ ReturnedEndW s o u L R.cells R.slots
def WS (Z : State) (n0 : Nat) (p : Program) (l : Launch) (e : Env) (R : Room) (s : State) (own : String) (m : MethodId) (args : Array Value) (below : List Frame) (meth : Method) (c : Code) (h : Heap) (k n : Nat) (Ls : Lits) (T : State) : Prop :=
  ∃ (vm0 : Vm) (locs : List Loc) (k0 : Nat), Stand p l e R (s.setVm vm0) m args below meth c T locs k n ∧ T.heap = h ∧ s.Since vm0 k0 ∧ k0 ≤ h.size ∧ Z.Warmed39 (s.setVm vm0).vm ∧ (s.setVm vm0).vm.findClass own = some m.cls ∧ Fr n0 locs ∧ Old Z n0 h ∧ Itn Z vm0 Ls ∧ Kn s.vm below
def Run (Z : State) (n0 : Nat) (p : Program) (l : Launch) (e : Env) (R : Room) (s : State) (own : String) (m : MethodId) (args : Array Value) (below : List Frame) (meth : Method) (c : Code) (Q : Option Value → Heap → Lits → Prop) (h : Heap) (k n : Nat) (Ls : Lits) (pc : Nat) (L : List Slot) (st : List Value) : Prop :=
  ∀ T, WS Z n0 p l e R s own m args below meth c h k n Ls T → ∃ u o, Steps p.tables e below (T.setTop (mkF m pc L.toArray st)) u ∧ u.status = .running ∧ Ended u below o ∧ Done Z n0 R s Q o u
/-- what the method is -/
def Fx (p : Program) (c : Code) (meth : Method) (bytes : ByteArray) (ml : Nat) (ret : Option FieldType) (nm : String) : Prop :=
  p.tables.exec = Jvm.exec ∧ c.code = bytes ∧ c.maxLocals = ml ∧ meth.sig.returnType = ret ∧ meth.locks = false ∧ meth.name = nm
def Dc (bytes : ByteArray) (pc : Nat) (i : Instr) (len nx : Nat) : Prop := decode bytes pc = .ok (i, len) ∧ pc + len = nx
abbrev RV (Q : Value → Heap → Lits → Prop) : Option Value → Heap → Lits → Prop := fun v h Ls => ∃ w, v = some w ∧ Q w h Ls
abbrev RN (Q : Heap → Lits → Prop) : Option Value → Heap → Lits → Prop := fun v h Ls => v = none ∧ Q h Ls
def Con (l : Launch) (Z : State) (n0 : Nat) (y : MethodName) (bytes : ByteArray) (ml : Nat) (ret : Option FieldType) (rm : Room) (as : List Value) (h : Heap) (Ls : Lits) (ws : List Cond) (Q : Option Value → Heap → Lits → Prop) : Prop :=
  MetFree l y (head1 (Cond.code y bytes ml ret :: ws) rm) (fun a U => a = as.toArray ∧ Z.Warmed39 U.vm ∧ U.heap = h ∧ Itn Z U.vm Ls) (fun _ _ below U _ => Kn U.vm below) (fun _ U o U' => Done Z n0 rm U Q o U')
def okSlot : Slot → Bool
  | .unset => true
  | .val v => v.category == 1
  | _ => false
theorem okSlot.one {o : Slot} (h : okSlot o = true) : o = .unset ∨ ∃ w, o = .val w ∧ w.category = 1 := by
  cases o with
  | unset => exact Or.inl rfl
  | val v => exact Or.inr ⟨v, rfl, by simpa [okSlot] using h⟩
  | second => simp [okSlot] at h
section Laws
variable {Z : State} {n0 : Nat} {p : Program} {l : Launch} {e : Env} {R : Room} {s : State} {own : String} {m : MethodId} {args : Array Value} {below : List Frame} {meth : Method} {c : Code} {Q : Option Value → Heap → Lits → Prop} {h : Heap} {k n : Nat} {Ls : Lits} {pc nx : Nat} {L : List Slot} {st : List Value}
variable {bytes : ByteArray} {ml : Nat} {ret : Option FieldType} {nm : String} {a0 : Array Value}
theorem Con.of_run {y : MethodName} {rm : Room} {as : List Value} {ws : List Cond} (hpl : plainName y.cls = true) (hO : Old Z n0 h)
    (body : ∀ (p : Program) (e : Env) (s : State) (m : MethodId) (below : List Frame) (meth : Method) (c : Code), Fx p c meth bytes ml ret y.name → s.heap = h → ∃ L0, entryFrame m as.toArray ml = mkF m 0 L0.toArray [] ∧ Run Z n0 p l e rm s y.cls m as.toArray below meth c Q h 0 0 Ls 0 L0 []) :
    Con l Z n0 y bytes ml ret rm as h Ls ws Q := by
  refine MetFree.of_bodySF (plainFor_of_name hpl) hisR ?_
  intro p e s m args below meth c s₁ Bd hml0 hP hK
  obtain ⟨rfl, hZ, hh, hI⟩ := hP
  have hnm := (name_of_methodNamed Bd.named Bd.method).1
  have X0 : Stand p l e rm s m as.toArray below meth c s₁ [] 0 0 := Stand.of_body Bd
  have e0 : s₁.heap = h := by rw [← hh, Bd.state]; rfl
  obtain ⟨L0, ef, hrun⟩ := body p e s m below meth c ⟨Bd.exec, Bd.bytes, hml0, Bd.returns, Bd.notSynchronized, hnm⟩ hh
  obtain ⟨u, o, st, r1, r2, r3⟩ := hrun s₁ ⟨s.vm, [], h.size, X0, e0, State.WarmedH.since (State.WarmedH.refl s) _, Nat.le_refl _, hZ, findClass_of_methodNamed Bd.named, Fr.nil n0, hO, hI, hK⟩
  exact ⟨u, o, castTop ef st, r1, r2, r3⟩
theorem Run.pure {pc' : Nat} {L' : List Slot} {st' : List Value} (H : ∀ T u, At T m c below → Steps p.tables e below (T.setTop (mkF m pc' L'.toArray st')) u → Steps p.tables e below (T.setTop (mkF m pc L.toArray st)) u)
    (K : Run Z n0 p l e R s own m args below meth c Q h k n Ls pc' L' st') : Run Z n0 p l e R s own m args below meth c Q h k n Ls pc L st := fun T W => by
  obtain ⟨u, o, a, r⟩ := K T W
  obtain ⟨vm0, locs, k0, X, -⟩ := W
  exact ⟨u, o, H T u X.here a, r⟩
theorem Run.still {pc' : Nat} {L' : List Slot} {st' : List Value} (H : ∀ T vm0 locs, Stand p l e R (s.setVm vm0) m args below meth c T locs k n → T.heap = h → Z.Warmed39 (s.setVm vm0).vm → (s.setVm vm0).vm.findClass own = some m.cls → ∀ u, Steps p.tables e below (T.setTop (mkF m pc' L'.toArray st')) u → Steps p.tables e below (T.setTop (mkF m pc L.toArray st)) u)
    (K : Run Z n0 p l e R s own m args below meth c Q h k n Ls pc' L' st') : Run Z n0 p l e R s own m args below meth c Q h k n Ls pc L st := fun T W => by
  obtain ⟨u, o, a, r⟩ := K T W
  obtain ⟨vm0, locs, k0, X, eT, -, -, hZ, hown, -⟩ := W
  exact ⟨u, o, H T vm0 locs X eT hZ hown u a, r⟩
theorem getL {L : List Slot} {i : Nat} {x : Slot} (h : L[i]? = some x) : L.toArray[i]? = some x := by simpa using h
theorem setL {L : List Slot} {i : Nat} {v : Value} (ho : (L[i]?.map okSlot) = some true) (hv : v.category = 1) : storeLocals L.toArray i v = some (L.set i (.val v)).toArray := by
  cases hq : L[i]? with
  | none => simp [hq] at ho
  | some o =>
    rw [XS.store1 (getL hq) (okSlot.one (by simpa [hq] using ho)) hv]
    simp
theorem hbD (F : Fx p c meth bytes ml ret nm) {i : Instr} {len : Nat} (d : Dc bytes pc i len nx) : decode c.code pc = .ok (i, len) := by rw [F.2.1]; exact d.1
/-! single steps -/
theorem Run.iloadN (F : Fx p c meth bytes ml ret nm) {i : Fin 4} {v : Int32} (d : Dc bytes pc (.iload_n i) 1 nx) (hl : L[i.val]? = some (.val (.int v)))
    (K : Run Z n0 p l e R s own m args below meth c Q h k n Ls nx L (.int v :: st)) : Run Z n0 p l e R s own m args below meth c Q h k n Ls pc L st := by
  have hd := hbD F d; obtain ⟨-, rfl⟩ := d
  exact Run.pure (fun T u hA s => XS.iloadN (g := mkF m pc L.toArray st) hA F.1 rfl hd (getL hl) s) K
theorem Run.iload (F : Fx p c meth bytes ml ret nm) {i : Nat} {v : Int32} (d : Dc bytes pc (.iload i) 2 nx) (hl : L[i]? = some (.val (.int v)))
    (K : Run Z n0 p l e R s own m args below meth c Q h k n Ls nx L (.int v :: st)) : Run Z n0 p l e R s own m args below meth c Q h k n Ls pc L st := by
  have hd := hbD F d; obtain ⟨-, rfl⟩ := d
  exact Run.pure (fun T u hA s => XS.iload (g := mkF m pc L.toArray st) hA F.1 rfl hd (getL hl) s) K
theorem Run.aloadN (F : Fx p c meth bytes ml ret nm) {i : Fin 4} {v : Value} (d : Dc bytes pc (.aload_n i) 1 nx) (hl : L[i.val]? = some (.val v)) (hv : v.isRef = true)
    (K : Run Z n0 p l e R s own m args below meth c Q h k n Ls nx L (v :: st)) : Run Z n0 p l e R s own m args below meth c Q h k n Ls pc L st := by
  have hd := hbD F d; obtain ⟨-, rfl⟩ := d
  exact Run.pure (fun T u hA s => XS.aloadN (g := mkF m pc L.toArray st) hA F.1 rfl hd (getL hl) hv s) K
theorem Run.aload (F : Fx p c meth bytes ml ret nm) {i : Nat} {v : Value} (d : Dc bytes pc (.aload i) 2 nx) (hl : L[i]? = some (.val v)) (hv : v.isRef = true)
    (K : Run Z n0 p l e R s own m args below meth c Q h k n Ls nx L (v :: st)) : Run Z n0 p l e R s own m args below meth c Q h k n Ls pc L st := by
  have hd := hbD F d; obtain ⟨-, rfl⟩ := d
  exact Run.pure (fun T u hA s => XS.aload (g := mkF m pc L.toArray st) hA F.1 rfl hd (getL hl) hv s) K
theorem Run.istoreN (F : Fx p c meth bytes ml ret nm) {i : Fin 4} {v : Int32} (d : Dc bytes pc (.istore_n i) 1 nx) (ho : (L[i.val]?.map okSlot) = some true)
    (K : Run Z n0 p l e R s own m args below meth c Q h k n Ls nx (L.set i.val (.val (.int v))) st) : Run Z n0 p l e R s own m args below meth c Q h k n Ls pc L (.int v :: st) := by
  have hd := hbD F d; obtain ⟨-, rfl⟩ := d
  exact Run.pure (fun T u hA s => XS.istoreN (g := mkF m pc L.toArray (.int v :: st)) hA F.1 rfl hd rfl (setL ho rfl) s) K
theorem Run.istore (F : Fx p c meth bytes ml ret nm) {i : Nat} {v : Int32} (d : Dc bytes pc (.istore i) 2 nx) (ho : (L[i]?.map okSlot) = some true)
    (K : Run Z n0 p l e R s own m args below meth c Q h k n Ls nx (L.set i (.val (.int v))) st) : Run Z n0 p l e R s own m args below meth c Q h k n Ls pc L (.int v :: st) := by
  have hd := hbD F d; obtain ⟨-, rfl⟩ := d
  exact Run.pure (fun T u hA s => XS.istore (g := mkF m pc L.toArray (.int v :: st)) hA F.1 rfl hd rfl (setL ho rfl) s) K
theorem cat_ref {v : Value} (hv : v.isRef = true) : v.category = 1 := by rcases ref_cases hv with rfl | ⟨a, rfl⟩ <;> rfl
theorem Run.astoreN (F : Fx p c meth bytes ml ret nm) {i : Fin 4} {v : Value} (d : Dc bytes pc (.astore_n i) 1 nx) (ho : (L[i.val]?.map okSlot) = some true) (hv : v.isRef = true)
    (K : Run Z n0 p l e R s own m args below meth c Q h k n Ls nx (L.set i.val (.val v)) st) : Run Z n0 p l e R s own m args below meth c Q h k n Ls pc L (v :: st) := by
  have hd := hbD F d; obtain ⟨-, rfl⟩ := d
  exact Run.pure (fun T u hA s => XS.astoreN (g := mkF m pc L.toArray (v :: st)) hA F.1 rfl hd rfl hv (setL ho (cat_ref hv)) s) K
theorem Run.astore (F : Fx p c meth bytes ml ret nm) {i : Nat} {v : Value} (d : Dc bytes pc (.astore i) 2 nx) (ho : (L[i]?.map okSlot) = some true) (hv : v.isRef = true)
    (K : Run Z n0 p l e R s own m args below meth c Q h k n Ls nx (L.set i (.val v)) st) : Run Z n0 p l e R s own m args below meth c Q h k n Ls pc L (v :: st) := by
  have hd := hbD F d; obtain ⟨-, rfl⟩ := d
  exact Run.pure (fun T u hA s => XS.astore (g := mkF m pc L.toArray (v :: st)) hA F.1 rfl hd rfl hv (setL ho (cat_ref hv)) s) K
theorem Run.iconst (F : Fx p c meth bytes ml ret nm) {i : Int} {z : Int32} (d : Dc bytes pc (.iconst i) 1 nx) (hz : Int32.ofInt i = z)
    (K : Run Z n0 p l e R s own m args below meth c Q h k n Ls nx L (.int z :: st)) : Run Z n0 p l e R s own m args below meth c Q h k n Ls pc L st := by
  have hd := hbD F d; obtain ⟨-, rfl⟩ := d; subst hz
  exact Run.pure (fun T u hA s => XS.iconst (g := mkF m pc L.toArray st) hA F.1 rfl hd s) K
theorem Run.bipush (F : Fx p c meth bytes ml ret nm) {i : Int} {z : Int32} (d : Dc bytes pc (.bipush i) 2 nx) (hz : (Int8.ofInt i).toInt32 = z)
    (K : Run Z n0 p l e R s own m args below meth c Q h k n Ls nx L (.int z :: st)) : Run Z n0 p l e R s own m args below meth c Q h k n Ls pc L st := by
  have hd := hbD F d; obtain ⟨-, rfl⟩ := d; subst hz
  exact Run.pure (fun T u hA s => XS.bipush (g := mkF m pc L.toArray st) hA F.1 rfl hd s) K
theorem Run.sipush (F : Fx p c meth bytes ml ret nm) {i : Int} {z : Int32} (d : Dc bytes pc (.sipush i) 3 nx) (hz : (Int16.ofInt i).toInt32 = z)
    (K : Run Z n0 p l e R s own m args below meth c Q h k n Ls nx L (.int z :: st)) : Run Z n0 p l e R s own m args below meth c Q h k n Ls pc L st := by
  have hd := hbD F d; obtain ⟨-, rfl⟩ := d; subst hz
  exact Run.pure (fun T u hA s => XS.sipush (g := mkF m pc L.toArray st) hA F.1 rfl hd s) K
theorem Run.aconstNull (F : Fx p c meth bytes ml ret nm) (d : Dc bytes pc .aconst_null 1 nx)
    (K : Run Z n0 p l e R s own m args below meth c Q h k n Ls nx L (.null :: st)) : Run Z n0 p l e R s own m args below meth c Q h k n Ls pc L st := by
  have hd := hbD F d; obtain ⟨-, rfl⟩ := d
  exact Run.pure (fun T u hA s => XS.aconstNull (g := mkF m pc L.toArray st) hA F.1 rfl hd s) K
theorem Run.iadd (F : Fx p c meth bytes ml ret nm) {x y : Int32} (d : Dc bytes pc .iadd 1 nx) (K : Run Z n0 p l e R s own m args below meth c Q h k n Ls nx L (.int (x + y) :: st)) : Run Z n0 p l e R s own m args below meth c Q h k n Ls pc L (.int y :: .int x :: st) := by
  have hd := hbD F d; obtain ⟨-, rfl⟩ := d
  exact Run.pure (fun T u hA s => XS.iadd (g := mkF m pc L.toArray (.int y :: .int x :: st)) hA F.1 rfl hd rfl s) K
theorem Run.isub (F : Fx p c meth bytes ml ret nm) {x y : Int32} (d : Dc bytes pc .isub 1 nx) (K : Run Z n0 p l e R s own m args below meth c Q h k n Ls nx L (.int (x - y) :: st)) : Run Z n0 p l e R s own m args below meth c Q h k n Ls pc L (.int y :: .int x :: st) := by
  have hd := hbD F d; obtain ⟨-, rfl⟩ := d
  exact Run.pure (fun T u hA s => XS.isub (g := mkF m pc L.toArray (.int y :: .int x :: st)) hA F.1 rfl hd rfl s) K
theorem Run.imul (F : Fx p c meth bytes ml ret nm) {x y : Int32} (d : Dc bytes pc .imul 1 nx) (K : Run Z n0 p l e R s own m args below meth c Q h k n Ls nx L (.int (x * y) :: st)) : Run Z n0 p l e R s own m args below meth c Q h k n Ls pc L (.int y :: .int x :: st) := by
  have hd := hbD F d; obtain ⟨-, rfl⟩ := d
  exact Run.pure (fun T u hA s => XS.imul (g := mkF m pc L.toArray (.int y :: .int x :: st)) hA F.1 rfl hd rfl s) K
theorem Run.iand (F : Fx p c meth bytes ml ret nm) {x y : Int32} (d : Dc bytes pc .iand 1 nx) (K : Run Z n0 p l e R s own m args below meth c Q h k n Ls nx L (.int (x &&& y) :: st)) : Run Z n0 p l e R s own m args below meth c Q h k n Ls pc L (.int y :: .int x :: st) := by
  have hd := hbD F d; obtain ⟨-, rfl⟩ := d
  exact Run.pure (fun T u hA s => XS.iand (g := mkF m pc L.toArray (.int y :: .int x :: st)) hA F.1 rfl hd rfl s) K
theorem Run.ior (F : Fx p c meth bytes ml ret nm) {x y : Int32} (d : Dc bytes pc .ior 1 nx) (K : Run Z n0 p l e R s own m args below meth c Q h k n Ls nx L (.int (x ||| y) :: st)) : Run Z n0 p l e R s own m args below meth c Q h k n Ls pc L (.int y :: .int x :: st) := by
  have hd := hbD F d; obtain ⟨-, rfl⟩ := d
  exact Run.pure (fun T u hA s => XT.ior (g := mkF m pc L.toArray (.int y :: .int x :: st)) hA F.1 rfl hd rfl s) K
theorem Run.ixor (F : Fx p c meth bytes ml ret nm) {x y : Int32} (d : Dc bytes pc .ixor 1 nx) (K : Run Z n0 p l e R s own m args below meth c Q h k n Ls nx L (.int (x ^^^ y) :: st)) : Run Z n0 p l e R s own m args below meth c Q h k n Ls pc L (.int y :: .int x :: st) := by
  have hd := hbD F d; obtain ⟨-, rfl⟩ := d
  exact Run.pure (fun T u hA s => XT.ixor (g := mkF m pc L.toArray (.int y :: .int x :: st)) hA F.1 rfl hd rfl s) K
theorem Run.ishr (F : Fx p c meth bytes ml ret nm) {x y : Int32} (d : Dc bytes pc .ishr 1 nx) (K : Run Z n0 p l e R s own m args below meth c Q h k n Ls nx L (.int (x >>> (y &&& 31)) :: st)) : Run Z n0 p l e R s own m args below meth c Q h k n Ls pc L (.int y :: .int x :: st) := by
  have hd := hbD F d; obtain ⟨-, rfl⟩ := d
  exact Run.pure (fun T u hA s => XT.ishr (g := mkF m pc L.toArray (.int y :: .int x :: st)) hA F.1 rfl hd rfl s) K
theorem Run.ishl (F : Fx p c meth bytes ml ret nm) {x y : Int32} (d : Dc bytes pc .ishl 1 nx) (K : Run Z n0 p l e R s own m args below meth c Q h k n Ls nx L (.int (x <<< (y &&& 31)) :: st)) : Run Z n0 p l e R s own m args below meth c Q h k n Ls pc L (.int y :: .int x :: st) := by
  have hd := hbD F d; obtain ⟨-, rfl⟩ := d
  exact Run.pure (fun T u hA s => XT.ishl (g := mkF m pc L.toArray (.int y :: .int x :: st)) hA F.1 rfl hd rfl s) K
theorem Run.iushr (F : Fx p c meth bytes ml ret nm) {x y : Int32} (d : Dc bytes pc .iushr 1 nx) (K : Run Z n0 p l e R s own m args below meth c Q h k n Ls nx L (.int (XT.ushr x y) :: st)) : Run Z n0 p l e R s own m args below meth c Q h k n Ls pc L (.int y :: .int x :: st) := by
  have hd := hbD F d; obtain ⟨-, rfl⟩ := d
  exact Run.pure (fun T u hA s => XT.iushr (g := mkF m pc L.toArray (.int y :: .int x :: st)) hA F.1 rfl hd rfl s) K
theorem Run.idiv (F : Fx p c meth bytes ml ret nm) {x y : Int32} (d : Dc bytes pc .idiv 1 nx) (hy : y ≠ 0) (K : Run Z n0 p l e R s own m args below meth c Q h k n Ls nx L (.int (x / y) :: st)) : Run Z n0 p l e R s own m args below meth c Q h k n Ls pc L (.int y :: .int x :: st) := by
  have hd := hbD F d; obtain ⟨-, rfl⟩ := d
  exact Run.pure (fun T u hA s => XS.idiv (g := mkF m pc L.toArray (.int y :: .int x :: st)) hA F.1 rfl hd rfl hy s) K
theorem Run.irem (F : Fx p c meth bytes ml ret nm) {x y : Int32} (d : Dc bytes pc .irem 1 nx) (hy : y ≠ 0) (K : Run Z n0 p l e R s own m args below meth c Q h k n Ls nx L (.int (x % y) :: st)) : Run Z n0 p l e R s own m args below meth c Q h k n Ls pc L (.int y :: .int x :: st) := by
  have hd := hbD F d; obtain ⟨-, rfl⟩ := d
  exact Run.still (fun T vm0 locs X eT hZ hown u s => iremM (g := mkF m pc L.toArray (.int y :: .int x :: st)) X F.1 rfl hd rfl hy s) K
theorem Run.ineg (F : Fx p c meth bytes ml ret nm) {x : Int32} (d : Dc bytes pc .ineg 1 nx) (K : Run Z n0 p l e R s own m args below meth c Q h k n Ls nx L (.int (-x) :: st)) : Run Z n0 p l e R s own m args below meth c Q h k n Ls pc L (.int x :: st) := by
  have hd := hbD F d; obtain ⟨-, rfl⟩ := d
  exact Run.pure (fun T u hA s => XS.ineg (g := mkF m pc L.toArray (.int x :: st)) hA F.1 rfl hd rfl s) K
abbrev chr (x : Int32) : Int32 := x.toUInt32.toUInt16.toUInt32.toInt32
theorem Run.i2c (F : Fx p c meth bytes ml ret nm) {x : Int32} (d : Dc bytes pc .i2c 1 nx) (K : Run Z n0 p l e R s own m args below meth c Q h k n Ls nx L (.int (chr x) :: st)) : Run Z n0 p l e R s own m args below meth c Q h k n Ls pc L (.int x :: st) := by
  have hd := hbD F d; obtain ⟨-, rfl⟩ := d
  exact Run.pure (fun T u hA s => XT.i2c (g := mkF m pc L.toArray (.int x :: st)) hA F.1 rfl hd rfl s) K
theorem Run.i2b (F : Fx p c meth bytes ml ret nm) {x : Int32} (d : Dc bytes pc .i2b 1 nx) (K : Run Z n0 p l e R s own m args below meth c Q h k n Ls nx L (.int (x.toInt8.toInt32) :: st)) : Run Z n0 p l e R s own m args below meth c Q h k n Ls pc L (.int x :: st) := by
  have hd := hbD F d; obtain ⟨-, rfl⟩ := d
  exact Run.pure (fun T u hA s => XT.i2b (g := mkF m pc L.toArray (.int x :: st)) hA F.1 rfl hd rfl s) K
theorem Run.dup (F : Fx p c meth bytes ml ret nm) {x : Value} (d : Dc bytes pc .dup 1 nx) (hc : x.category = 1) (K : Run Z n0 p l e R s own m args below meth c Q h k n Ls nx L (x :: x :: st)) : Run Z n0 p l e R s own m args below meth c Q h k n Ls pc L (x :: st) := by
  have hd := hbD F d; obtain ⟨-, rfl⟩ := d
  exact Run.pure (fun T u hA s => XS.dup (g := mkF m pc L.toArray (x :: st)) hA F.1 rfl hd rfl hc s) K
theorem Run.dup2 (F : Fx p c meth bytes ml ret nm) {x y : Value} (d : Dc bytes pc .dup2 1 nx) (hc : x.category = 1) (hc' : y.category = 1) (K : Run Z n0 p l e R s own m args below meth c Q h k n Ls nx L (x :: y :: x :: y :: st)) : Run Z n0 p l e R s own m args below meth c Q h k n Ls pc L (x :: y :: st) := by
  have hd := hbD F d; obtain ⟨-, rfl⟩ := d
  exact Run.pure (fun T u hA s => XT.dup2 (g := mkF m pc L.toArray (x :: y :: st)) hA F.1 rfl hd rfl hc hc' s) K
theorem Run.dupX1 (F : Fx p c meth bytes ml ret nm) {x y : Value} (d : Dc bytes pc .dup_x1 1 nx) (hc : x.category = 1) (hc' : y.category = 1) (K : Run Z n0 p l e R s own m args below meth c Q h k n Ls nx L (x :: y :: x :: st)) : Run Z n0 p l e R s own m args below meth c Q h k n Ls pc L (x :: y :: st) := by
  have hd := hbD F d; obtain ⟨-, rfl⟩ := d
  exact Run.pure (fun T u hA s => XT.dupX1 (g := mkF m pc L.toArray (x :: y :: st)) hA F.1 rfl hd rfl hc hc' s) K
theorem Run.pop (F : Fx p c meth bytes ml ret nm) {x : Value} (d : Dc bytes pc .pop 1 nx) (hc : x.category = 1) (K : Run Z n0 p l e R s own m args below meth c Q h k n Ls nx L st) : Run Z n0 p l e R s own m args below meth c Q h k n Ls pc L (x :: st) := by
  have hd := hbD F d; obtain ⟨-, rfl⟩ := d
  exact Run.pure (fun T u hA s => XT.pop (g := mkF m pc L.toArray (x :: st)) hA F.1 rfl hd rfl hc s) K
theorem Run.iinc (F : Fx p c meth bytes ml ret nm) {i : Nat} {cst : Int} {z x : Int32} (d : Dc bytes pc (.iinc i cst) 3 nx) (hz : Int32.ofInt cst = z) (hl : L[i]? = some (.val (.int x)))
    (K : Run Z n0 p l e R s own m args below meth c Q h k n Ls nx (L.set i (.val (.int (x + z)))) st) : Run Z n0 p l e R s own m args below meth c Q h k n Ls pc L st := by
  have hd := hbD F d; obtain ⟨-, rfl⟩ := d; subst hz
  exact Run.pure (fun T u hA s => XS.iinc (g := mkF m pc L.toArray st) hA F.1 rfl hd (getL hl) (setL (by rw [hl]; rfl) rfl) s) K
theorem Run.goto (F : Fx p c meth bytes ml ret nm) {o : Int} {t : Nat} (d : Dc bytes pc (.goto o) 3 nx) (ht : (pc : Int) + o = (t : Int))
    (K : Run Z n0 p l e R s own m args below meth c Q h k n Ls t L st) : Run Z n0 p l e R s own m args below meth c Q h k n Ls pc L st := by
  have hd := hbD F d
  exact Run.pure (fun T u hA s => XS.goto (g := mkF m pc L.toArray st) hA F.1 rfl (pc' := t) rfl hd (by rw [ht]; exact Int.natCast_nonneg _) (by rw [ht]; rfl) s) K
theorem Run.ifYes (F : Fx p c meth bytes ml ret nm) {cd : ClassFile.Cond} {x : Int32} {o : Int} {t : Nat} (d : Dc bytes pc (.ifCond cd o) 3 nx) (ht : (pc : Int) + o = (t : Int)) (hc : ifCond.holds cd x = true)
    (K : Run Z n0 p l e R s own m args below meth c Q h k n Ls t L st) : Run Z n0 p l e R s own m args below meth c Q h k n Ls pc L (.int x :: st) := by
  have hd := hbD F d
  exact Run.pure (fun T u hA s => XS.ifYes (g := mkF m pc L.toArray (.int x :: st)) hA F.1 rfl (pc' := t) rfl hd rfl hc (by rw [ht]; exact Int.natCast_nonneg _) (by rw [ht]; rfl) s) K
theorem Run.ifNo (F : Fx p c meth bytes ml ret nm) {cd : ClassFile.Cond} {x : Int32} {o : Int} (d : Dc bytes pc (.ifCond cd o) 3 nx) (hc : ifCond.holds cd x = false)
    (K : Run Z n0 p l e R s own m args below meth c Q h k n Ls nx L st) : Run Z n0 p l e R s own m args below meth c Q h k n Ls pc L (.int x :: st) := by
  have hd := hbD F d; obtain ⟨-, rfl⟩ := d
  exact Run.pure (fun T u hA s => XS.ifNo (g := mkF m pc L.toArray (.int x :: st)) hA F.1 rfl hd rfl hc s) K
theorem Run.if_ (F : Fx p c meth bytes ml ret nm) {cd : ClassFile.Cond} {x : Int32} {o : Int} {t : Nat} (d : Dc bytes pc (.ifCond cd o) 3 nx) (ht : (pc : Int) + o = (t : Int))
    (K1 : ifCond.holds cd x = true → Run Z n0 p l e R s own m args below meth c Q h k n Ls t L st) (K2 : ifCond.holds cd x = false → Run Z n0 p l e R s own m args below meth c Q h k n Ls nx L st) : Run Z n0 p l e R s own m args below meth c Q h k n Ls pc L (.int x :: st) := by
  cases hc : ifCond.holds cd x with
  | true => exact Run.ifYes F d ht hc (K1 hc)
  | false => exact Run.ifNo F d hc (K2 hc)
theorem Run.icmpYes (F : Fx p c meth bytes ml ret nm) {cd : ClassFile.Cond} {x y : Int32} {o : Int} {t : Nat} (d : Dc bytes pc (.if_icmp cd o) 3 nx) (ht : (pc : Int) + o = (t : Int)) (hc : if_icmp.holds cd x y = true)
    (K : Run Z n0 p l e R s own m args below meth c Q h k n Ls t L st) : Run Z n0 p l e R s own m args below meth c Q h k n Ls pc L (.int y :: .int x :: st) := by
  have hd := hbD F d
  exact Run.pure (fun T u hA s => XS.icmpYes (g := mkF m pc L.toArray (.int y :: .int x :: st)) hA F.1 rfl (pc' := t) rfl hd rfl hc (by rw [ht]; exact Int.natCast_nonneg _) (by rw [ht]; rfl) s) K
theorem Run.icmpNo (F : Fx p c meth bytes ml ret nm) {cd : ClassFile.Cond} {x y : Int32} {o : Int} (d : Dc bytes pc (.if_icmp cd o) 3 nx) (hc : if_icmp.holds cd x y = false)
    (K : Run Z n0 p l e R s own m args below meth c Q h k n Ls nx L st) : Run Z n0 p l e R s own m args below meth c Q h k n Ls pc L (.int y :: .int x :: st) := by
  have hd := hbD F d; obtain ⟨-, rfl⟩ := d
  exact Run.pure (fun T u hA s => XS.icmpNo (g := mkF m pc L.toArray (.int y :: .int x :: st)) hA F.1 rfl hd rfl hc s) K
theorem Run.icmp (F : Fx p c meth bytes ml ret nm) {cd : ClassFile.Cond} {x y : Int32} {o : Int} {t : Nat} (d : Dc bytes pc (.if_icmp cd o) 3 nx) (ht : (pc : Int) + o = (t : Int))
    (K1 : if_icmp.holds cd x y = true → Run Z n0 p l e R s own m args below meth c Q h k n Ls t L st) (K2 : if_icmp.holds cd x y = false → Run Z n0 p l e R s own m args below meth c Q h k n Ls nx L st) : Run Z n0 p l e R s own m args below meth c Q h k n Ls pc L (.int y :: .int x :: st) := by
  cases hc : if_icmp.holds cd x y with
  | true => exact Run.icmpYes F d ht hc (K1 hc)
  | false => exact Run.icmpNo F d hc (K2 hc)
theorem Run.ifnullYes (F : Fx p c meth bytes ml ret nm) {o : Int} {t : Nat} (d : Dc bytes pc (.ifnull o) 3 nx) (ht : (pc : Int) + o = (t : Int))
    (K : Run Z n0 p l e R s own m args below meth c Q h k n Ls t L st) : Run Z n0 p l e R s own m args below meth c Q h k n Ls pc L (.null :: st) := by
  have hd := hbD F d
  exact Run.pure (fun T u hA s => XS.ifnullYes (g := mkF m pc L.toArray (.null :: st)) hA F.1 rfl (pc' := t) rfl hd rfl (by rw [ht]; exact Int.natCast_nonneg _) (by rw [ht]; rfl) s) K
theorem Run.ifnullNo (F : Fx p c meth bytes ml ret nm) {o : Int} {b : Nat} (d : Dc bytes pc (.ifnull o) 3 nx)
    (K : Run Z n0 p l e R s own m args below meth c Q h k n Ls nx L st) : Run Z n0 p l e R s own m args below meth c Q h k n Ls pc L (.ref b :: st) := by
  have hd := hbD F d; obtain ⟨-, rfl⟩ := d
  exact Run.pure (fun T u hA s => XS.ifnullNo (g := mkF m pc L.toArray (.ref b :: st)) hA F.1 rfl hd rfl s) K
theorem Run.ifnonnullYes (F : Fx p c meth bytes ml ret nm) {o : Int} {t : Nat} {b : Nat} (d : Dc bytes pc (.ifnonnull o) 3 nx) (ht : (pc : Int) + o = (t : Int))
    (K : Run Z n0 p l e R s own m args below meth c Q h k n Ls t L st) : Run Z n0 p l e R s own m args below meth c Q h k n Ls pc L (.ref b :: st) := by
  have hd := hbD F d
  exact Run.pure (fun T u hA s => XT.ifnonnullYes (g := mkF m pc L.toArray (.ref b :: st)) hA F.1 rfl (pc' := t) rfl hd rfl (by rw [ht]; exact Int.natCast_nonneg _) (by rw [ht]; rfl) s) K
theorem Run.ifnonnullNo (F : Fx p c meth bytes ml ret nm) {o : Int} (d : Dc bytes pc (.ifnonnull o) 3 nx)
    (K : Run Z n0 p l e R s own m args below meth c Q h k n Ls nx L st) : Run Z n0 p l e R s own m args below meth c Q h k n Ls pc L (.null :: st) := by
  have hd := hbD F d; obtain ⟨-, rfl⟩ := d
  exact Run.pure (fun T u hA s => XT.ifnonnullNo (g := mkF m pc L.toArray (.null :: st)) hA F.1 rfl hd rfl s) K
theorem Run.acmpYes (F : Fx p c meth bytes ml ret nm) {cd : ACond} {x y : Value} {o : Int} {t : Nat} {b : Bool} (d : Dc bytes pc (.if_acmp cd o) 3 nx) (ht : (pc : Int) + o = (t : Int)) (hx : x.isRef = true) (hy : y.isRef = true) (hq : decide (x = y) = b) (hb : acV cd b = true)
    (K : Run Z n0 p l e R s own m args below meth c Q h k n Ls t L st) : Run Z n0 p l e R s own m args below meth c Q h k n Ls pc L (y :: x :: st) := by
  have hd := hbD F d
  exact Run.still (fun T vm0 locs X eT hZ hown u s => Jvm.RoadKit.acmp (g := mkF m pc L.toArray (y :: x :: st)) X F.1 rfl hx hy (pc0 := pc) (pc' := t) (same := b) rfl hd rfl hq (by rw [ht]; exact Int.natCast_nonneg _) (by rw [if_pos hb, ht]; rfl) s) K
theorem Run.acmpNo (F : Fx p c meth bytes ml ret nm) {cd : ACond} {x y : Value} {o : Int} {t : Nat} {b : Bool} (d : Dc bytes pc (.if_acmp cd o) 3 nx) (ht : (pc : Int) + o = (t : Int)) (hx : x.isRef = true) (hy : y.isRef = true) (hq : decide (x = y) = b) (hb : acV cd b = false)
    (K : Run Z n0 p l e R s own m args below meth c Q h k n Ls nx L st) : Run Z n0 p l e R s own m args below meth c Q h k n Ls pc L (y :: x :: st) := by
  have hd := hbD F d; obtain ⟨-, rfl⟩ := d
  exact Run.still (fun T vm0 locs X eT hZ hown u s => Jvm.RoadKit.acmp (g := mkF m pc L.toArray (y :: x :: st)) X F.1 rfl hx hy (pc0 := pc) (pc' := pc + 3) (same := b) rfl hd rfl hq (by rw [ht]; exact Int.natCast_nonneg _) (by rw [if_neg (by simp [hb])]) s) K
theorem Run.ldcInt (F : Fx p c meth bytes ml ret nm) {i : Nat} {v : Int32} (w : (Cond.constant own i v).before a0 Z = true) (d : Dc bytes pc (.ldc i) 2 nx)
    (K : Run Z n0 p l e R s own m args below meth c Q h k n Ls nx L (.int v :: st)) : Run Z n0 p l e R s own m args below meth c Q h k n Ls pc L st := by
  have hd := hbD F d; obtain ⟨-, rfl⟩ := d
  exact Run.still (fun T vm0 locs X eT hZ hown u s => X.ldcInt F.1 hown (mvT hZ w) (g := mkF m pc L.toArray st) rfl hd u s) K
theorem Run.ldcwInt (F : Fx p c meth bytes ml ret nm) {i : Nat} {v : Int32} (w : (Cond.constant own i v).before a0 Z = true) (d : Dc bytes pc (.ldc_w i) 3 nx)
    (K : Run Z n0 p l e R s own m args below meth c Q h k n Ls nx L (.int v :: st)) : Run Z n0 p l e R s own m args below meth c Q h k n Ls pc L st := by
  have hd := hbD F d; obtain ⟨-, rfl⟩ := d
  exact Run.still (fun T vm0 locs X eT hZ hown u s => X.ldcwInt F.1 hown (mvT hZ w) (g := mkF m pc L.toArray st) rfl hd u s) K
/-! arrays -/
/-- the array at a holds vs -/
def Av (Z : State) (h : Heap) (a : Nat) (ty : FieldType) (vs : List Value) : Prop := ∃ c : Cell, Arr Z h a c ty ∧ c.slots.toList = vs ∧ vs.length < 2 ^ 31 ∧ ∀ v ∈ vs, fits ty v = true
theorem Av.lt {a : Nat} {ty : FieldType} {vs : List Value} (A : Av Z h a ty vs) : a < h.size := by obtain ⟨c, A, -⟩ := A; exact A.lt
theorem Av.keep {h' : Heap} {ws : List Addr} {a : Nat} {ty : FieldType} {vs : List Value} (A : Av Z h a ty vs) (K : Keep h h' ws) (q : a ∉ ws) : Av Z h' a ty vs := by
  obtain ⟨c, A, r⟩ := A; exact ⟨c, ⟨K.2.1 a c A.1 q, A.2⟩, r⟩
theorem Av.len {a : Nat} {ty : FieldType} {vs : List Value} (A : Av Z h a ty vs) : vs.length < 2 ^ 31 := by obtain ⟨c, -, -, r, -⟩ := A; exact r
theorem Av.fit {a : Nat} {ty : FieldType} {vs : List Value} (A : Av Z h a ty vs) : ∀ v ∈ vs, fits ty v = true := by obtain ⟨c, -, -, -, r⟩ := A; exact r
theorem Run.arrlen (F : Fx p c meth bytes ml ret nm) {a : Nat} {ty : FieldType} {vs : List Value} (A : Av Z h a ty vs) (d : Dc bytes pc .arraylength 1 nx)
    (K : Run Z n0 p l e R s own m args below meth c Q h k n Ls nx L (.int (Int32.ofNat vs.length) :: st)) : Run Z n0 p l e R s own m args below meth c Q h k n Ls pc L (.ref a :: st) := by
  have hd := hbD F d; obtain ⟨-, rfl⟩ := d
  obtain ⟨cl, A, rfl, -⟩ := A
  refine Run.still (fun T vm0 locs X eT hZ hown u s => X.arraylength F.1 (by rw [eT]; exact A.1) (State.isArrayOf_alike hZ.alike A.2.1) (g := mkF m pc L.toArray (.ref a :: st)) rfl rfl hd u ?_) K
  have q : cl.slots.toList.length = cl.slots.size := by simp
  rw [q] at s
  exact s
theorem inB {vs : List Value} {j : Int32} {i : Nat} {cl : Cell} (e : cl.slots.toList = vs) (hj : ¬ j < 0) (hi : j.toNatClampNeg = i) (hlt : i < vs.length) : ¬ (j < 0 ∨ cl.slots.size ≤ j.toNatClampNeg) := by
  subst e
  have q : cl.slots.toList.length = cl.slots.size := by simp
  rintro (y | y)
  · exact hj y
  · omega
theorem atB {vs : List Value} {j : Int32} {i : Nat} {cl : Cell} {v : Value} (e : cl.slots.toList = vs) (hi : j.toNatClampNeg = i) (hv : vs[i]? = some v) : cl.slots[j.toNatClampNeg]? = some v := by
  subst e hi; simpa using hv
theorem Run.caload (F : Fx p c meth bytes ml ret nm) {a : Nat} {vs : List Value} {j : Int32} {i : Nat} {v : Value} (A : Av Z h a .char vs) (hj : ¬ j < 0) (hi : j.toNatClampNeg = i) (hv : vs[i]? = some v) (d : Dc bytes pc .caload 1 nx)
    (K : Run Z n0 p l e R s own m args below meth c Q h k n Ls nx L (v :: st)) : Run Z n0 p l e R s own m args below meth c Q h k n Ls pc L (.int j :: .ref a :: st) := by
  have hd := hbD F d; obtain ⟨-, rfl⟩ := d
  obtain ⟨cl, A, q, -⟩ := A
  exact Run.still (fun T vm0 locs X eT hZ hown u s => X.caload F.1 (by rw [eT]; exact A.1) (State.isArrayOf_alike hZ.alike A.2.1) A.2.2 (inB q hj hi (List.getElem?_eq_some_iff.mp hv).1) (atB q hi hv) (g := mkF m pc L.toArray (.int j :: .ref a :: st)) rfl rfl hd u s) K
theorem Run.baload (F : Fx p c meth bytes ml ret nm) {a : Nat} {vs : List Value} {j : Int32} {i : Nat} {v : Value} (A : Av Z h a .byte vs) (hj : ¬ j < 0) (hi : j.toNatClampNeg = i) (hv : vs[i]? = some v) (d : Dc bytes pc .baload 1 nx)
    (K : Run Z n0 p l e R s own m args below meth c Q h k n Ls nx L (v :: st)) : Run Z n0 p l e R s own m args below meth c Q h k n Ls pc L (.int j :: .ref a :: st) := by
  have hd := hbD F d; obtain ⟨-, rfl⟩ := d
  obtain ⟨cl, A, q, -⟩ := A
  exact Run.still (fun T vm0 locs X eT hZ hown u s => X.baloadBytes F.1 (by rw [eT]; exact A.1) (State.isArrayOf_alike hZ.alike A.2.1) A.2.2 (inB q hj hi (List.getElem?_eq_some_iff.mp hv).1) (atB q hi hv) (g := mkF m pc L.toArray (.int j :: .ref a :: st)) rfl rfl hd u s) K
theorem Run.iaload (F : Fx p c meth bytes ml ret nm) {a : Nat} {vs : List Value} {j : Int32} {i : Nat} {v : Value} (A : Av Z h a .int vs) (hj : ¬ j < 0) (hi : j.toNatClampNeg = i) (hv : vs[i]? = some v) (d : Dc bytes pc .iaload 1 nx)
    (K : Run Z n0 p l e R s own m args below meth c Q h k n Ls nx L (v :: st)) : Run Z n0 p l e R s own m args below meth c Q h k n Ls pc L (.int j :: .ref a :: st) := by
  have hd := hbD F d; obtain ⟨-, rfl⟩ := d
  obtain ⟨cl, A, q, -⟩ := A
  exact Run.still (fun T vm0 locs X eT hZ hown u s => X.iaload F.1 (by rw [eT]; exact A.1) (State.isArrayOf_alike hZ.alike A.2.1) A.2.2 (inB q hj hi (List.getElem?_eq_some_iff.mp hv).1) (atB q hi hv) (g := mkF m pc L.toArray (.int j :: .ref a :: st)) rfl rfl hd u s) K
theorem Run.aaload (F : Fx p c meth bytes ml ret nm) {a : Nat} {ty : FieldType} {vs : List Value} {j : Int32} {i : Nat} {v : Value} (A : Av Z h a ty vs) (ht : ty.isReference = true) (hj : ¬ j < 0) (hi : j.toNatClampNeg = i) (hv : vs[i]? = some v) (d : Dc bytes pc .aaload 1 nx)
    (K : Run Z n0 p l e R s own m args below meth c Q h k n Ls nx L (v :: st)) : Run Z n0 p l e R s own m args below meth c Q h k n Ls pc L (.int j :: .ref a :: st) := by
  have hd := hbD F d; obtain ⟨-, rfl⟩ := d
  obtain ⟨cl, A, q, -⟩ := A
  exact Run.still (fun T vm0 locs X eT hZ hown u s => X.aaload F.1 (by rw [eT]; exact A.1) (State.isArrayOf_alike hZ.alike A.2.1) ht A.2.2 (inB q hj hi (List.getElem?_eq_some_iff.mp hv).1) (atB q hi hv) (g := mkF m pc L.toArray (.int j :: .ref a :: st)) rfl rfl hd u s) K
/-- a write: what it leaves of the walk's bearings -/
theorem WS.wrote {vm0 : Vm} {locs : List Loc} {k0 : Nat} {h' : Heap} {a : Nat} {sl : Nat} {v : Value} {T' : State} (X' : Stand p l e R (s.setVm vm0) m args below meth c T' (locs ++ [⟨a, sl⟩]) k n) (e' : T'.heap = h') (W : Wr h h' a sl v) (g : n0 ≤ a)
    (hS : s.Since vm0 k0) (hk : k0 ≤ h.size) (hZ : Z.Warmed39 (s.setVm vm0).vm) (hown : (s.setVm vm0).vm.findClass own = some m.cls) (N : Fr n0 locs) (hO : Old Z n0 h) (I : Itn Z vm0 Ls) (kn : Kn s.vm below) : WS Z n0 p l e R s own m args below meth c h' k n Ls T' :=
  ⟨vm0, _, k0, X', e', hS, by rw [W.size]; exact hk, hZ, hown, Fr.snoc X' N g, hO.wr W g, I, kn⟩
theorem Av.set {h' : Heap} {a : Nat} {ty : FieldType} {vs : List Value} {j : Int32} {i : Nat} {v : Value} (A : Av Z h a ty vs) (hi : j.toNatClampNeg = i) (hf : fits ty v = true) (W : Wr h h' a j.toNatClampNeg v) : Av Z h' a ty (vs.set i v) := by
  obtain ⟨cl, A, rfl, q2, q3⟩ := A
  subst hi
  refine ⟨_, A.same W, by simp [Cell.setSlot], by simpa using q2, fun w hw => ?_⟩
  rcases List.mem_or_eq_of_mem_set hw with y | y
  · exact q3 w y
  · exact y ▸ hf
theorem Run.castore (F : Fx p c meth bytes ml ret nm) {a : Nat} {vs : List Value} {j x y : Int32} {i : Nat} (A : Av Z h a .char vs) (g : n0 ≤ a) (hj : ¬ j < 0) (hi : j.toNatClampNeg = i) (hlt : i < vs.length) (hy : nar .char x = y) (d : Dc bytes pc .castore 1 nx)
    (K : ∀ h', Wr h h' a i (.int y) → Keep h h' [a] → h'.size = h.size → Av Z h' a .char (vs.set i (.int y)) → Run Z n0 p l e R s own m args below meth c Q h' k n Ls nx L st) : Run Z n0 p l e R s own m args below meth c Q h k n Ls pc L (.int x :: .int j :: .ref a :: st) := fun T W => by
  have hd := hbD F d; obtain ⟨-, rfl⟩ := d
  obtain ⟨vm0, locs, k0, X, eT, hS, hk, hZ, hown, N, hO, I, kn⟩ := W
  have A' := A
  obtain ⟨cl, A1, q, -⟩ := A
  obtain ⟨T', h', X', e', W', st'⟩ := stC X F.1 hZ eT A1 (j := j) (x := x) (inB q hj hi hlt) (g := mkF m pc L.toArray (.int x :: .int j :: .ref a :: st)) rfl rfl hd
  rw [hy] at W'
  obtain ⟨u, o, r1, r⟩ := K h' (hi ▸ W') (Keep.of_wr W') W'.size (A'.set hi (hy ▸ fits_nar_char x) W') T' (WS.wrote X' e' W' g hS hk hZ hown N hO I kn)
  exact ⟨u, o, st' _ r1, r⟩
theorem Run.bastore (F : Fx p c meth bytes ml ret nm) {a : Nat} {vs : List Value} {j x y : Int32} {i : Nat} (A : Av Z h a .byte vs) (g : n0 ≤ a) (hj : ¬ j < 0) (hi : j.toNatClampNeg = i) (hlt : i < vs.length) (hy : nar .byte x = y) (d : Dc bytes pc .bastore 1 nx)
    (K : ∀ h', Wr h h' a i (.int y) → Keep h h' [a] → h'.size = h.size → Av Z h' a .byte (vs.set i (.int y)) → Run Z n0 p l e R s own m args below meth c Q h' k n Ls nx L st) : Run Z n0 p l e R s own m args below meth c Q h k n Ls pc L (.int x :: .int j :: .ref a :: st) := fun T W => by
  have hd := hbD F d; obtain ⟨-, rfl⟩ := d
  obtain ⟨vm0, locs, k0, X, eT, hS, hk, hZ, hown, N, hO, I, kn⟩ := W
  have A' := A
  obtain ⟨cl, A1, q, -⟩ := A
  obtain ⟨T', h', X', e', W', st'⟩ := stB X F.1 hZ eT A1 (j := j) (x := x) (inB q hj hi hlt) (g := mkF m pc L.toArray (.int x :: .int j :: .ref a :: st)) rfl rfl hd
  rw [hy] at W'
  obtain ⟨u, o, r1, r⟩ := K h' (hi ▸ W') (Keep.of_wr W') W'.size (A'.set hi (hy ▸ fits_nar_byte x) W') T' (WS.wrote X' e' W' g hS hk hZ hown N hO I kn)
  exact ⟨u, o, st' _ r1, r⟩
theorem Run.iastore (F : Fx p c meth bytes ml ret nm) {a : Nat} {vs : List Value} {j x : Int32} {i : Nat} (A : Av Z h a .int vs) (g : n0 ≤ a) (hj : ¬ j < 0) (hi : j.toNatClampNeg = i) (hlt : i < vs.length) (d : Dc bytes pc .iastore 1 nx)
    (K : ∀ h', Wr h h' a i (.int x) → Keep h h' [a] → h'.size = h.size → Av Z h' a .int (vs.set i (.int x)) → Run Z n0 p l e R s own m args below meth c Q h' k n Ls nx L st) : Run Z n0 p l e R s own m args below meth c Q h k n Ls pc L (.int x :: .int j :: .ref a :: st) := fun T W => by
  have hd := hbD F d; obtain ⟨-, rfl⟩ := d
  obtain ⟨vm0, locs, k0, X, eT, hS, hk, hZ, hown, N, hO, I, kn⟩ := W
  have A' := A
  obtain ⟨cl, A1, q, -⟩ := A
  obtain ⟨T', h', X', e', W', st'⟩ := stI X F.1 hZ eT A1 (j := j) (x := x) (inB q hj hi hlt) (g := mkF m pc L.toArray (.int x :: .int j :: .ref a :: st)) rfl rfl hd
  obtain ⟨u, o, r1, r⟩ := K h' (hi ▸ W') (Keep.of_wr W') W'.size (A'.set hi rfl W') T' (WS.wrote X' e' W' g hS hk hZ hown N hO I kn)
  exact ⟨u, o, st' _ r1, r⟩
theorem Keep.ofExt {h h' : Heap} (E : Ext h h') : Keep h h' [] := (Keep.refl h []).ext E
theorem Run.newarray (F : Fx p c meth bytes ml ret nm) {aty : ArrayType} {z : Int32} {len : Nat} (w : (Cond.arrayClass (newarray.typeOf aty)).before a0 Z = true) (hz : ¬ z < 0) (hlen : z.toNatClampNeg = len) (cap : Nat) (hcap : len ≤ cap) (hb : Nat.ble (cap * 8) 536870912 = true) (hc : k + 1 ≤ R.cells) (hl : n + cap ≤ R.slots) (d : Dc bytes pc (.newarray aty) 2 nx)
    (K : ∀ h' a, a = h.size → Keep h h' [] → a < h'.size → Av Z h' a (newarray.typeOf aty) (List.replicate len (defaultValue (newarray.typeOf aty))) → Run Z n0 p l e R s own m args below meth c Q h' (k + 1) (n + cap) Ls nx L (.ref a :: st)) : Run Z n0 p l e R s own m args below meth c Q h k n Ls pc L (.int z :: st) := fun T W => by
  have hd := hbD F d; obtain ⟨-, rfl⟩ := d
  obtain ⟨vm0, locs, k0, X, eT, hS, hk, hZ, hown, N, hO, I, kn⟩ := W
  subst hlen
  obtain ⟨T', h', cA, X', e', E', A', st'⟩ := newP X F.1 hZ w eT (g := mkF m pc L.toArray (.int z :: st)) rfl hd rfl hz hcap (Nat.le_of_ble_eq_true hb) hc hl
  obtain ⟨u, o, r1, r⟩ := K h' h.size rfl (Keep.ofExt E') A'.lt ⟨_, A', by simp [newA], by simpa using (back32 hz).2, fun v hv => by rw [List.eq_of_mem_replicate hv]; cases aty <;> rfl⟩ T' ⟨vm0, locs, k0, X', e', hS, Nat.le_trans hk E'.1, hZ, hown, N, hO.ext E', I, kn⟩
  exact ⟨u, o, st' _ r1, r⟩
/-! objects -/
theorem Run.getfield (F : Fx p c meth bytes ml ret nm) {R0 O f ds host : String} {i : Nat} {a : Nat} {v : Value} (w : (Cond.fieldLink own i R0 f ds).before a0 Z = true ∨ (Cond.fieldLinkNest own i R0 f ds host).before a0 Z = true) (via : Via Z R0 O f ds) (Fd : Fld Z h a O f ds v) (d : Dc bytes pc (.getfield i) 3 nx)
    (K : Run Z n0 p l e R s own m args below meth c Q h k n Ls nx L (v :: st)) : Run Z n0 p l e R s own m args below meth c Q h k n Ls pc L (.ref a :: st) := fun T W => by
  have hd := hbD F d; obtain ⟨-, rfl⟩ := d
  obtain ⟨vm0, locs, k0, X, eT, hS, hk, hZ, hown, N, hO, I, kn⟩ := W
  obtain ⟨T', X', e', st'⟩ := getF X F.1 hZ hown w via eT Fd (g := mkF m pc L.toArray (.ref a :: st)) rfl rfl hd
  obtain ⟨u, o, r1, r⟩ := K T' ⟨vm0, locs, k0, X', e', hS, hk, hZ, hown, N, hO, I, kn⟩
  exact ⟨u, o, st' _ r1, r⟩
theorem Run.getstatic (F : Fx p c meth bytes ml ret nm) {R0 O f ds : String} {i : Nat} {v : Value} (w : (Cond.fieldLink own i R0 f ds).before a0 Z = true) (via : Via Z R0 O f ds) (Fd : Sta Z Z.heap O f ds v) (d : Dc bytes pc (.getstatic i) 3 nx)
    (K : Run Z n0 p l e R s own m args below meth c Q h k n Ls nx L (v :: st)) : Run Z n0 p l e R s own m args below meth c Q h k n Ls pc L st := fun T W => by
  have hd := hbD F d; obtain ⟨-, rfl⟩ := d
  obtain ⟨vm0, locs, k0, X, eT, hS, hk, hZ, hown, N, hO, I, kn⟩ := W
  obtain ⟨T', X', e', st'⟩ := getS X F.1 hZ (host := "") hown w via eT (Fd.ext hO.2) (g := mkF m pc L.toArray st) rfl hd
  obtain ⟨u, o, r1, r⟩ := K T' ⟨vm0, locs, k0, X', e', hS, hk, hZ, hown, N, hO, I, kn⟩
  exact ⟨u, o, st' _ r1, r⟩
theorem Run.putfield (F : Fx p c meth bytes ml ret nm) {R0 O f ds C : String} {i kk : Nat} {a : Nat} {v v' old : Value} {ty : FieldType} (w : (Cond.fieldLink own i R0 f ds).before a0 Z = true) (via : Via Z R0 O f ds) (Fd : Fld Z h a O f ds old) (E : Exa Z h a C) (g : n0 ≤ a)
    (Lw : (Cond.lays C O f ds).before a0 Z = true ∨ ((Cond.laysFinal C O f ds).before a0 Z = true ∧ own = O ∧ nm = "<init>")) (wi : (Cond.instantiable C kk).before a0 Z = true) (hty : parseFieldDescriptor ds = some ty) (hn : narrow ty v = v') (hf : fits ty v' = true) (d : Dc bytes pc (.putfield i) 3 nx)
    (K : ∀ h', Wr h h' a (Jvm.RoadKit.slotOf Z O f ds) v' → Keep h h' [a] → h'.size = h.size → Fld Z h' a O f ds v' → Run Z n0 p l e R s own m args below meth c Q h' k n Ls nx L st) : Run Z n0 p l e R s own m args below meth c Q h k n Ls pc L (v :: .ref a :: st) := fun T W => by
  have hd := hbD F d; obtain ⟨-, rfl⟩ := d
  obtain ⟨vm0, locs, k0, X, eT, hS, hk, hZ, hown, N, hO, I, kn⟩ := W
  have Lw' : (Cond.lays C O f ds).before a0 Z = true ∨ ((Cond.laysFinal C O f ds).before a0 Z = true ∧ own = O ∧ meth.name = "<init>") := by rw [F.2.2.2.2.2]; exact Lw
  obtain ⟨T', h', X', e', W', st'⟩ := putFN X F.1 hZ hown w via eT Fd E Lw' wi hty hn hf (g := mkF m pc L.toArray (v :: .ref a :: st)) rfl rfl hd
  obtain ⟨u, o, r1, r⟩ := K h' W' (Keep.of_wr W') W'.size (Fd.same W') T' (WS.wrote X' e' W' g hS hk hZ hown N hO I kn)
  exact ⟨u, o, st' _ r1, r⟩
theorem Run.new (F : Fx p c meth bytes ml ret nm) {C : String} {i sz : Nat} (w : (Cond.classLink own i C).before a0 Z = true) (wi : (Cond.instantiable C sz).before a0 Z = true) (wz : (Cond.initialized C).before a0 Z = true) (hc : k + 1 ≤ R.cells) (hl : n + sz ≤ R.slots) (d : Dc bytes pc (.new i) 3 nx)
    (K : ∀ h' a, a = h.size → Keep h h' [] → a < h'.size → Exa Z h' a C → (∀ {O f ds : String} {ty : FieldType}, Laid Z a0 C O f ds → parseFieldDescriptor ds = some ty → Fld Z h' a O f ds (defaultValue ty)) → Unt h' a → Run Z n0 p l e R s own m args below meth c Q h' (k + 1) (n + sz) Ls nx L (.ref a :: st)) : Run Z n0 p l e R s own m args below meth c Q h k n Ls pc L st := fun T W => by
  have hd := hbD F d; obtain ⟨-, rfl⟩ := d
  obtain ⟨vm0, locs, k0, X, eT, hS, hk, hZ, hown, N, hO, I, kn⟩ := W
  obtain ⟨T', h', X', e', E', A', D', U', st'⟩ := newO X F.1 hZ hown w wi wz eT (g := mkF m pc L.toArray st) rfl hd hc hl
  obtain ⟨u, o, r1, r⟩ := K h' h.size rfl (Keep.ofExt E') A'.lt A' D' U' T' ⟨vm0, locs, k0, X', e', hS, Nat.le_trans hk E'.1, hZ, hown, N, hO.ext E', I, kn⟩
  exact ⟨u, o, st' _ r1, r⟩
theorem Run.checkcast (F : Fx p c meth bytes ml ret nm) {C : String} {i : Nat} {a : Nat} (w : (Cond.classLink own i C).before a0 Z = true) (E : Ins Z h a C true) (d : Dc bytes pc (.checkcast i) 3 nx)
    (K : Run Z n0 p l e R s own m args below meth c Q h k n Ls nx L (.ref a :: st)) : Run Z n0 p l e R s own m args below meth c Q h k n Ls pc L (.ref a :: st) := fun T W => by
  have hd := hbD F d; obtain ⟨-, rfl⟩ := d
  obtain ⟨vm0, locs, k0, X, eT, hS, hk, hZ, hown, N, hO, I, kn⟩ := W
  obtain ⟨T', X', e', st'⟩ := castY X F.1 hZ hown w eT E (g := mkF m pc L.toArray (.ref a :: st)) rfl rfl hd
  obtain ⟨u, o, r1, r⟩ := K T' ⟨vm0, locs, k0, X', e', hS, hk, hZ, hown, N, hO, I, kn⟩
  exact ⟨u, o, st' _ r1, r⟩
theorem Run.checkcastNull (F : Fx p c meth bytes ml ret nm) {i : Nat} (d : Dc bytes pc (.checkcast i) 3 nx)
    (K : Run Z n0 p l e R s own m args below meth c Q h k n Ls nx L (.null :: st)) : Run Z n0 p l e R s own m args below meth c Q h k n Ls pc L (.null :: st) := by
  have hd := hbD F d; obtain ⟨-, rfl⟩ := d
  exact Run.still (fun T vm0 locs X eT hZ hown u s => X.checkcastNull F.1 (g := mkF m pc L.toArray (.null :: st)) rfl rfl hd u s) K
theorem Run.instYes (F : Fx p c meth bytes ml ret nm) {C : String} {i : Nat} {a : Nat} (w : (Cond.classLink own i C).before a0 Z = true) (E : Ins Z h a C true) (d : Dc bytes pc (.instanceof i) 3 nx)
    (K : Run Z n0 p l e R s own m args below meth c Q h k n Ls nx L (.int 1 :: st)) : Run Z n0 p l e R s own m args below meth c Q h k n Ls pc L (.ref a :: st) := fun T W => by
  have hd := hbD F d; obtain ⟨-, rfl⟩ := d
  obtain ⟨vm0, locs, k0, X, eT, hS, hk, hZ, hown, N, hO, I, kn⟩ := W
  obtain ⟨T', X', e', st'⟩ := instY X F.1 hZ hown w eT E (g := mkF m pc L.toArray (.ref a :: st)) rfl rfl hd
  obtain ⟨u, o, r1, r⟩ := K T' ⟨vm0, locs, k0, X', e', hS, hk, hZ, hown, N, hO, I, kn⟩
  exact ⟨u, o, st' _ r1, r⟩
theorem Run.instNull (F : Fx p c meth bytes ml ret nm) {i : Nat} (d : Dc bytes pc (.instanceof i) 3 nx)
    (K : Run Z n0 p l e R s own m args below meth c Q h k n Ls nx L (.int 0 :: st)) : Run Z n0 p l e R s own m args below meth c Q h k n Ls pc L (.null :: st) := by
  have hd := hbD F d; obtain ⟨-, rfl⟩ := d
  exact Run.still (fun T vm0 locs X eT hZ hown u s => X.instanceofNull F.1 (g := mkF m pc L.toArray (.null :: st)) rfl rfl hd u s) K
theorem Run.objInit (F : Fx p c meth bytes ml ret nm) {i : Nat} {a : Nat} (w1 : (Cond.methodLink own i Lib.objectInit).before a0 Z = true) (w2 : (Cond.instanceMethod Lib.objectInit).before a0 Z = true) (w3 : (Cond.code Lib.objectInit ⟨#[0xb1]⟩ 1 none).before a0 Z = true)
    (hsz : L.length = ml) (hf : Nat.ble 1 R.frames = true) (hl : Nat.ble ((st.map fun v => v.category).sum + 12) R.locals = true) (d : Dc bytes pc (.invokespecial i) 3 nx)
    (K : Run Z n0 p l e R s own m args below meth c Q h k n Ls nx L st) : Run Z n0 p l e R s own m args below meth c Q h k n Ls pc L (.ref a :: st) := fun T W => by
  have hd := hbD F d; obtain ⟨-, rfl⟩ := d
  obtain ⟨vm0, locs, k0, X, eT, hS, hk, hZ, hown, N, hO, I, kn⟩ := W
  obtain ⟨T', X', e', st'⟩ := initO X F.1 hZ hown w1 w2 w3 eT (g := mkF m pc L.toArray (.ref a :: st)) rfl (by show L.toArray.size = _; rw [F.2.2.1, ← hsz]; simp) rfl hd (Nat.le_of_ble_eq_true hf) (W := (st.map fun v => v.category).sum) (by show 2 * 0 + _ ≤ _; omega) (Nat.le_of_ble_eq_true hl)
  obtain ⟨u, o, r1, r⟩ := K T' ⟨vm0, locs, k0, X', e', hS, hk, hZ, hown, N, hO, I, kn⟩
  exact ⟨u, o, st' _ r1, r⟩
/-! returns -/
theorem Run.ended {v : Option Value} (hv : meth.sig.returnType = none → v = none) (hlk : meth.locks = false) (hc : k ≤ R.cells) (hl : n ≤ R.slots) (hQ : Q v h Ls)
    (H : ∀ T vm0 locs, Stand p l e R (s.setVm vm0) m args below meth c T locs k n → ∀ fs, (∀ (f : JFrame) (acts : List Action), f.method = m → f.locked = none → f.entered = [] → (doReturn e (T.setTop f) acts v).1 = T.setFrames fs) → Steps p.tables e below (T.setTop (mkF m pc L.toArray st)) (T.setFrames fs)) :
    Run Z n0 p l e R s own m args below meth c Q h k n Ls pc L st := fun T W => by
  obtain ⟨vm0, locs, k0, X, eT, hS, hk, hZ, hown, N, hO, I, kn⟩ := W
  have hi : T.vm.interned = vm0.interned := X.warmed.interned_eq
  obtain ⟨fs, h1, h2, h3, h4⟩ := X.leaveW hS (by rw [eT]; exact hk) hv hlk
  refine ⟨_, _, H T vm0 locs X fs h1, h2, h3, v, locs, Ls, rfl, ?_, ?_, I.eq hi, N, h4.1, h4.2.1, h4.2.2.1, h4.2.2.2.mono hc hl⟩
  · show Q v T.heap Ls; rw [eT]; exact hQ
  · show Old Z n0 T.heap; rw [eT]; exact hO
theorem Run.ireturn {t : FieldType} (F : Fx p c meth bytes ml (some t) nm) {z : Int32} {Q : Value → Heap → Lits → Prop} (ht : t = .int ∨ t = .boolean ∨ t = .byte ∨ t = .char ∨ t = .short) (hn : narrow t (.int z) = .int z) (hc : k ≤ R.cells) (hl : n ≤ R.slots) (d : Dc bytes pc .ireturn 1 nx) (hQ : Q (.int z) h Ls) :
    Run Z n0 p l e R s own m args below meth c (RV Q) h k n Ls pc L (.int z :: st) :=
  Run.ended (v := some (.int z)) (fun q => by rw [F.2.2.2.1] at q; cases q) F.2.2.2.2.1 hc hl ⟨_, rfl, hQ⟩ fun T vm0 locs X fs hr => retOut X F.1 F.2.2.2.1 hn (Or.inl ⟨rfl, ht, _, rfl⟩) (hbD F d) hr
theorem Run.areturn {t : FieldType} (F : Fx p c meth bytes ml (some t) nm) {v : Value} {Q : Value → Heap → Lits → Prop} (ht : t.isReference = true) (hv : v.isRef = true) (hc : k ≤ R.cells) (hl : n ≤ R.slots) (d : Dc bytes pc .areturn 1 nx) (hQ : Q v h Ls) :
    Run Z n0 p l e R s own m args below meth c (RV Q) h k n Ls pc L (v :: st) :=
  Run.ended (v := some v) (fun q => by rw [F.2.2.2.1] at q; cases q) F.2.2.2.2.1 hc hl ⟨_, rfl, hQ⟩ fun T vm0 locs X fs hr => retOut X F.1 F.2.2.2.1 (by rcases ref_cases hv with rfl | ⟨a, rfl⟩ <;> cases t <;> simp [FieldType.isReference] at ht <;> rfl) (Or.inr (Or.inr (Or.inr (Or.inr ⟨rfl, ht, hv⟩)))) (hbD F d) hr
theorem Run.return_ (F : Fx p c meth bytes ml none nm) {Q : Heap → Lits → Prop} (hc : k ≤ R.cells) (hl : n ≤ R.slots) (d : Dc bytes pc .return_ 1 nx) (hQ : Q h Ls) :
    Run Z n0 p l e R s own m args below meth c (RN Q) h k n Ls pc L [] :=
  Run.ended (v := none) (fun q => rfl) F.2.2.2.2.1 hc hl ⟨rfl, hQ⟩ fun T vm0 locs X fs hr => X.returnOut F.1 F.2.2.2.1 (hbD F d) hr
/-! calls -/
theorem Con.back {y : MethodName} {by' : ByteArray} {ml' : Nat} {ret' : Option FieldType} {rm : Room} {as : List Value} {Qy : Option Value → Heap → Lits → Prop} {len W : Nat} (C : Con l Z n0 y by' ml' ret' rm as h Ls [] Qy) (hZ : Z.Warmed39 s.vm) (I : Itn Z s.vm Ls) (kn : Kn s.vm below)
    (wc : (Cond.code y by' ml' ret').before a0 Z = true) (wz : (Cond.initialized y.cls).before a0 Z = true) (hf : rm.frames + 1 ≤ R.frames) (hl : W + (ml' + 11) + rm.locals ≤ R.locals) :
    BackS l R p e below s args y len W (fun A a => a = as.toArray ∧ A.U.heap = h ∧ A.cells + rm.cells ≤ R.cells ∧ A.slots + rm.slots ≤ R.slots)
      (fun A _ v B => ∃ L Ls', Qy v B.U.heap Ls' ∧ Old Z n0 B.U.heap ∧ Itn Z B.U.vm Ls' ∧ Fr n0 L ∧ B.locs = A.locs ++ L ∧ B.cells = A.cells + rm.cells ∧ B.slots = A.slots + rm.slots) :=
  BackS.of_freeWG (bytes := by') (maxL := ml') (ret := ret') (E := fun _ _ o t L k n => k = rm.cells ∧ n = rm.slots ∧ ∃ v Ls', o = .returned v ∧ Qy v t.heap Ls' ∧ Old Z n0 t.heap ∧ Itn Z t.vm Ls' ∧ Fr n0 L) C hf hl
    (fun m meth c A a Y hp => have hU : Z.Warmed39 A.U.vm := wtrans hZ Y.warmed
      ⟨by show (Cond.and _ .tt).before a A.U = true; rw [Cond.before_and, mv hU wc]; rfl, mv hU wc, mv hU wz, hp.2.2.1, hp.2.2.2⟩)
    (fun m meth c A a g mk Y hp => ⟨hp.1, wtrans hZ Y.warmed, hp.2.1, I.eq Y.warmed.interned_eq⟩)
    (fun m meth c A a g mk Y hp hg => by
      have e1 : (A.U.setTop g).frames = .java g :: below := by rw [State.frames_setTop' _ Y.here.top, Y.tail]
      rw [e1]
      exact (kn.alike Y.warmed.alike).push (by rw [hg]; exact Y.method'))
    (fun _ _ _ _ ⟨v, L, Ls', h1, h2, h3, h4, h5, h6⟩ => ⟨L, _, _, h6, rfl, rfl, v, Ls', h1, h2, h3, h4, h5⟩)
    (fun m meth c A a g mk v t L k n Y hp _ _ ⟨e1, e2, v', Ls', e3, e4, e5, e6, e7⟩ => by cases e3; subst e1 e2; exact ⟨L, Ls', e4, e5, e6, e7, rfl, rfl, rfl⟩)
theorem hyOf {C : String} (h : (C == "java/lang/invoke/MethodHandle" || C == "java/lang/invoke/VarHandle") = false) : C ≠ "java/lang/invoke/MethodHandle" ∧ C ≠ "java/lang/invoke/VarHandle" := by simpa using h
theorem Run.callStatic (F : Fx p c meth bytes ml ret nm) {i : Nat} {y : MethodName} {by' : ByteArray} {ml' : Nat} {ret' : Option FieldType} {rm : Room} {as : List Value} {Qy : Option Value → Heap → Lits → Prop} {sig : MethodDescriptor}
    (wl : (Cond.methodLink own i y).before a0 Z = true) (ws : (Cond.static y).before a0 Z = true) (wz : (Cond.initialized y.cls).before a0 Z = true) (wc : (Cond.code y by' ml' ret').before a0 Z = true)
    (C : Con l Z n0 y by' ml' ret' rm as h Ls [] Qy) (hy : (y.cls == "java/lang/invoke/MethodHandle" || y.cls == "java/lang/invoke/VarHandle") = false) (hsig : parseMethodDescriptor y.desc = some sig) (hlen : as.length = sig.parameters.length) (hsz : L.length = ml)
    (hf : Nat.ble (rm.frames + 1) R.frames = true) (hl : Nat.ble ((st.map fun v => v.category).sum + (ml' + 11) + rm.locals) R.locals = true) (hc : k + rm.cells ≤ R.cells) (hs : n + rm.slots ≤ R.slots) {st0 : List Value} (hst : st0 = as.reverse ++ st) (d : Dc bytes pc (.invokestatic i) 3 nx)
    (K : ∀ v h' Ls', Qy v h' Ls' → Old Z n0 h' → h.size ≤ h'.size → Run Z n0 p l e R s own m args below meth c Q h' (k + rm.cells) (n + rm.slots) Ls' nx L (v.toList ++ st)) : Run Z n0 p l e R s own m args below meth c Q h k n Ls pc L st0 := fun T W => by
  have hd := hbD F d; obtain ⟨-, rfl⟩ := d
  obtain ⟨vm0, locs, k0, X, eT, hS, hk, hZ, hown, N, hO, I, kn⟩ := W
  subst hst
  obtain ⟨v, vm1, B, -, X', hS', hg, ⟨L1, Ls', q1, q2, q3, q4, q5, q6, q7⟩, st'⟩ := callSS X F.1 hown (mvT hZ wl) (mvT hZ ws) (mvT hZ wz) (mvT hZ wc) (hyOf hy) (C.back hZ I (kn.alike hS.1.alike) wc wz (Nat.le_of_ble_eq_true hf) (Nat.le_of_ble_eq_true hl)) (g := mkF m pc L.toArray (as.reverse ++ st)) rfl (by show L.toArray.size = _; rw [F.2.2.1, ← hsz]; simp) (argsL := as) (rest := st) (lenOf hsig hlen) rfl (by show 2 * 0 + _ ≤ _; omega) hd (fun _ _ => ⟨rfl, eT, hc, hs⟩)
  dsimp only [Pt.U, Pt.locs, Pt.cells, Pt.slots] at X' hS' hg q1 q2 q3 q5 q6 q7 st'
  rw [q5, q6, q7] at X'
  rw [eT] at hg
  obtain ⟨u, o, r1, r⟩ := K v _ Ls' q1 q2 hg B.1 ⟨B.1.vm, _, _, X', rfl, hS.trans hS' (Nat.le_trans hk hg), Nat.le_refl _, State.Warmed39.trans hZ hS'.1, (hS'.1.alike.findClass _ _).trans hown, N.app q4, q2, q3, kn⟩
  exact ⟨u, o, st'.trans r1, r⟩
theorem Run.callInit (F : Fx p c meth bytes ml ret nm) {i : Nat} {y : MethodName} {by' : ByteArray} {ml' : Nat} {rm : Room} {a : Nat} {as : List Value} {Qy : Option Value → Heap → Lits → Prop} {sig : MethodDescriptor}
    (wl : (Cond.methodLink own i y).before a0 Z = true) (ws : (Cond.instanceMethod y).before a0 Z = true) (wz : (Cond.initialized y.cls).before a0 Z = true) (wc : (Cond.code y by' ml' none).before a0 Z = true)
    (C : Con l Z n0 y by' ml' none rm (.ref a :: as) h Ls [] Qy) (hi : y.name = "<init>") (hy : (y.cls == "java/lang/invoke/MethodHandle" || y.cls == "java/lang/invoke/VarHandle") = false) (hsig : parseMethodDescriptor y.desc = some sig) (hlen : as.length = sig.parameters.length) (hsz : L.length = ml)
    (hf : Nat.ble (rm.frames + 1) R.frames = true) (hl : Nat.ble ((st.map fun v => v.category).sum + (ml' + 11) + rm.locals) R.locals = true) (hc : k + rm.cells ≤ R.cells) (hs : n + rm.slots ≤ R.slots) {st0 : List Value} (hst : st0 = as.reverse ++ .ref a :: st) (d : Dc bytes pc (.invokespecial i) 3 nx)
    (K : ∀ v h' Ls', Qy v h' Ls' → Old Z n0 h' → h.size ≤ h'.size → Run Z n0 p l e R s own m args below meth c Q h' (k + rm.cells) (n + rm.slots) Ls' nx L (v.toList ++ st)) : Run Z n0 p l e R s own m args below meth c Q h k n Ls pc L st0 := fun T W => by
  have hd := hbD F d; obtain ⟨-, rfl⟩ := d
  obtain ⟨vm0, locs, k0, X, eT, hS, hk, hZ, hown, N, hO, I, kn⟩ := W
  subst hst
  obtain ⟨v, vm1, B, -, X', hS', hg, ⟨L1, Ls', q1, q2, q3, q4, q5, q6, q7⟩, st'⟩ := X.specialBackS F.1 hi hown (mvT hZ wl) (mvT hZ ws) (mvT hZ wc) (hyOf hy) (C.back hZ I (kn.alike hS.1.alike) wc wz (Nat.le_of_ble_eq_true hf) (Nat.le_of_ble_eq_true hl)) (g := mkF m pc L.toArray (as.reverse ++ .ref a :: st)) rfl (by show L.toArray.size = _; rw [F.2.2.1, ← hsz]; simp) (Steps.refl _) (a := a) (argsL := as) (rest := st) (lenOf hsig hlen) rfl (by show 2 * 0 + _ ≤ _; omega) hd (fun _ _ => ⟨rfl, eT, hc, hs⟩)
  dsimp only [Pt.U, Pt.locs, Pt.cells, Pt.slots] at X' hS' hg q1 q2 q3 q5 q6 q7 st'
  rw [q5, q6, q7] at X'
  rw [eT] at hg
  obtain ⟨u, o, r1, r⟩ := K v _ Ls' q1 q2 hg B.1 ⟨B.1.vm, _, _, X', rfl, hS.trans hS' (Nat.le_trans hk hg), Nat.le_refl _, State.Warmed39.trans hZ hS'.1, (hS'.1.alike.findClass _ _).trans hown, N.app q4, q2, q3, kn⟩
  exact ⟨u, o, st'.trans r1, r⟩
theorem Run.callVirtual (F : Fx p c meth bytes ml ret nm) {i : Nat} {y z : MethodName} {K0 : String} {by' : ByteArray} {ml' : Nat} {ret' : Option FieldType} {rm : Room} {a : Nat} {as : List Value} {Qy : Option Value → Heap → Lits → Prop} {sig : MethodDescriptor}
    (wl : (Cond.methodLink own i y).before a0 Z = true) (wd : (Cond.declares y).before a0 Z = true) (nf : ∀ U : State, Z.Warmed39 U.vm → NotFace U y) (wsel : (Cond.selects K0 y z).before a0 Z = true) (ws : (Cond.instanceMethod z).before a0 Z = true) (wz : (Cond.initialized z.cls).before a0 Z = true) (wc : (Cond.code z by' ml' ret').before a0 Z = true) (E : Exa Z h a K0)
    (C : Con l Z n0 z by' ml' ret' rm (.ref a :: as) h Ls [] Qy) (hy : (y.cls == "java/lang/invoke/MethodHandle" || y.cls == "java/lang/invoke/VarHandle") = false) (hsig : parseMethodDescriptor y.desc = some sig) (hlen : as.length = sig.parameters.length) (hsz : L.length = ml)
    (hf : Nat.ble (rm.frames + 1) R.frames = true) (hl : Nat.ble ((st.map fun v => v.category).sum + (ml' + 11) + rm.locals) R.locals = true) (hc : k + rm.cells ≤ R.cells) (hs : n + rm.slots ≤ R.slots) {st0 : List Value} (hst : st0 = as.reverse ++ .ref a :: st) (d : Dc bytes pc (.invokevirtual i) 3 nx)
    (K : ∀ v h' Ls', Qy v h' Ls' → Old Z n0 h' → h.size ≤ h'.size → Run Z n0 p l e R s own m args below meth c Q h' (k + rm.cells) (n + rm.slots) Ls' nx L (v.toList ++ st)) : Run Z n0 p l e R s own m args below meth c Q h k n Ls pc L st0 := fun T W => by
  have hd := hbD F d; obtain ⟨-, rfl⟩ := d
  obtain ⟨vm0, locs, k0, X, eT, hS, hk, hZ, hown, N, hO, I, kn⟩ := W
  subst hst
  obtain ⟨cq, kq, qa, qb, qc⟩ := isOf hZ eT E
  obtain ⟨v, vm1, B, -, X', hS', hg, ⟨L1, Ls', q1, q2, q3, q4, q5, q6, q7⟩, st'⟩ := X.virtualBackS F.1 hown (mvT hZ wl) (mvT hZ wd) (nf _ hZ) (mvT hZ wsel) (mvT hZ ws) (hyOf hy) (C.back hZ I (kn.alike hS.1.alike) wc wz (Nat.le_of_ble_eq_true hf) (Nat.le_of_ble_eq_true hl)) qa qc (g := mkF m pc L.toArray (as.reverse ++ .ref a :: st)) rfl (by show L.toArray.size = _; rw [F.2.2.1, ← hsz]; simp) (Steps.refl _) (argsL := as) (rest := st) (lenOf hsig hlen) rfl (by show 2 * 0 + _ ≤ _; omega) hd (fun _ _ => ⟨rfl, eT, hc, hs⟩)
  dsimp only [Pt.U, Pt.locs, Pt.cells, Pt.slots] at X' hS' hg q1 q2 q3 q5 q6 q7 st'
  rw [q5, q6, q7] at X'
  rw [eT] at hg
  obtain ⟨u, o, r1, r⟩ := K v _ Ls' q1 q2 hg B.1 ⟨B.1.vm, _, _, X', rfl, hS.trans hS' (Nat.le_trans hk hg), Nat.le_refl _, State.Warmed39.trans hZ hS'.1, (hS'.1.alike.findClass _ _).trans hown, N.app q4, q2, q3, kn⟩
  exact ⟨u, o, st'.trans r1, r⟩
end Laws
end Jvm.Own
namespace Jvm.Own
open Sem ClassFile Op Lib Jvm.Stand Jvm.Free Jvm.LawKit Jvm.RoadKit
def b2i (b : Bool) : Int32 := if b then 1 else 0
theorem ic_lt (x y : Int32) : if_icmp.holds .lt x y = decide (x.toInt < y.toInt) := by simp [if_icmp.holds, Int32.lt_iff_toInt_lt]
theorem ic_ge (x y : Int32) : if_icmp.holds .ge x y = decide (y.toInt ≤ x.toInt) := by simp [if_icmp.holds, Int32.le_iff_toInt_le]
theorem ic_gt (x y : Int32) : if_icmp.holds .gt x y = decide (y.toInt < x.toInt) := by simp [if_icmp.holds, Int32.lt_iff_toInt_lt]
theorem ic_le (x y : Int32) : if_icmp.holds .le x y = decide (x.toInt ≤ y.toInt) := by simp [if_icmp.holds, Int32.le_iff_toInt_le]
theorem ic_eq (x y : Int32) : if_icmp.holds .eq x y = decide (x.toInt = y.toInt) := by
  by_cases q : x = y
  · subst q; simp [if_icmp.holds]
  · have : x.toInt ≠ y.toInt := fun e => q (Int32.toInt_inj.mp e)
    simp [if_icmp.holds, q, this]
theorem ic_ne (x y : Int32) : if_icmp.holds .ne x y = decide (x.toInt ≠ y.toInt) := by
  by_cases q : x = y
  · simp [if_icmp.holds, q]
  · have : x.toInt ≠ y.toInt := fun e => q (Int32.toInt_inj.mp e)
    simp [if_icmp.holds, q, this]
section Branch
variable {Z : State} {n0 : Nat} {p : Program} {l : Launch} {e : Env} {R : Room} {s : State} {own : String} {m : MethodId} {args : Array Value} {below : List Frame} {meth : Method} {c : Code} {Q : Option Value → Heap → Lits → Prop} {h : Heap} {k n : Nat} {Ls : Lits} {pc nx : Nat} {L : List Slot} {st : List Value}
variable {bytes : ByteArray} {ml : Nat} {ret : Option FieldType} {nm : String} {a0 : Array Value}

theorem Run.icmp_lt (F : Fx p c meth bytes ml ret nm) {x y : Int32} {o : Int} {t : Nat} (d : Dc bytes pc (.if_icmp .lt o) 3 nx) (ht : (pc : Int) + o = (t : Int)) {xi yi : Int} (hx : x.toInt = xi) (hy : y.toInt = yi)
    (K1 : xi < yi → Run Z n0 p l e R s own m args below meth c Q h k n Ls t L st) (K2 : yi ≤ xi → Run Z n0 p l e R s own m args below meth c Q h k n Ls nx L st) : Run Z n0 p l e R s own m args below meth c Q h k n Ls pc L (.int y :: .int x :: st) := by
  subst hx hy
  refine Run.icmp F d ht (fun q => K1 ?_) (fun q => K2 ?_)
  · rw [ic_lt] at q; exact of_decide_eq_true q
  · rw [ic_lt] at q; have := of_decide_eq_false q; omega
theorem Run.icmp_ge (F : Fx p c meth bytes ml ret nm) {x y : Int32} {o : Int} {t : Nat} (d : Dc bytes pc (.if_icmp .ge o) 3 nx) (ht : (pc : Int) + o = (t : Int)) {xi yi : Int} (hx : x.toInt = xi) (hy : y.toInt = yi)
    (K1 : yi ≤ xi → Run Z n0 p l e R s own m args below meth c Q h k n Ls t L st) (K2 : xi < yi → Run Z n0 p l e R s own m args below meth c Q h k n Ls nx L st) : Run Z n0 p l e R s own m args below meth c Q h k n Ls pc L (.int y :: .int x :: st) := by
  subst hx hy
  refine Run.icmp F d ht (fun q => K1 ?_) (fun q => K2 ?_)
  · rw [ic_ge] at q; exact of_decide_eq_true q
  · rw [ic_ge] at q; have := of_decide_eq_false q; omega
theorem Run.icmp_gt (F : Fx p c meth bytes ml ret nm) {x y : Int32} {o : Int} {t : Nat} (d : Dc bytes pc (.if_icmp .gt o) 3 nx) (ht : (pc : Int) + o = (t : Int)) {xi yi : Int} (hx : x.toInt = xi) (hy : y.toInt = yi)
    (K1 : yi < xi → Run Z n0 p l e R s own m args below meth c Q h k n Ls t L st) (K2 : xi ≤ yi → Run Z n0 p l e R s own m args below meth c Q h k n Ls nx L st) : Run Z n0 p l e R s own m args below meth c Q h k n Ls pc L (.int y :: .int x :: st) := by
  subst hx hy
  refine Run.icmp F d ht (fun q => K1 ?_) (fun q => K2 ?_)
  · rw [ic_gt] at q; exact of_decide_eq_true q
  · rw [ic_gt] at q; have := of_decide_eq_false q; omega
theorem Run.icmp_le (F : Fx p c meth bytes ml ret nm) {x y : Int32} {o : Int} {t : Nat} (d : Dc bytes pc (.if_icmp .le o) 3 nx) (ht : (pc : Int) + o = (t : Int)) {xi yi : Int} (hx : x.toInt = xi) (hy : y.toInt = yi)
    (K1 : xi ≤ yi → Run Z n0 p l e R s own m args below meth c Q h k n Ls t L st) (K2 : yi < xi → Run Z n0 p l e R s own m args below meth c Q h k n Ls nx L st) : Run Z n0 p l e R s own m args below meth c Q h k n Ls pc L (.int y :: .int x :: st) := by
  subst hx hy
  refine Run.icmp F d ht (fun q => K1 ?_) (fun q => K2 ?_)
  · rw [ic_le] at q; exact of_decide_eq_true q
  · rw [ic_le] at q; have := of_decide_eq_false q; omega
theorem Run.icmp_eq (F : Fx p c meth bytes ml ret nm) {x y : Int32} {o : Int} {t : Nat} (d : Dc bytes pc (.if_icmp .eq o) 3 nx) (ht : (pc : Int) + o = (t : Int)) {xi yi : Int} (hx : x.toInt = xi) (hy : y.toInt = yi)
    (K1 : xi = yi → Run Z n0 p l e R s own m args below meth c Q h k n Ls t L st) (K2 : xi ≠ yi → Run Z n0 p l e R s own m args below meth c Q h k n Ls nx L st) : Run Z n0 p l e R s own m args below meth c Q h k n Ls pc L (.int y :: .int x :: st) := by
  subst hx hy
  refine Run.icmp F d ht (fun q => K1 ?_) (fun q => K2 ?_)
  · rw [ic_eq] at q; exact of_decide_eq_true q
  · rw [ic_eq] at q; have := of_decide_eq_false q; omega
theorem Run.icmp_ne (F : Fx p c meth bytes ml ret nm) {x y : Int32} {o : Int} {t : Nat} (d : Dc bytes pc (.if_icmp .ne o) 3 nx) (ht : (pc : Int) + o = (t : Int)) {xi yi : Int} (hx : x.toInt = xi) (hy : y.toInt = yi)
    (K1 : xi ≠ yi → Run Z n0 p l e R s own m args below meth c Q h k n Ls t L st) (K2 : xi = yi → Run Z n0 p l e R s own m args below meth c Q h k n Ls nx L st) : Run Z n0 p l e R s own m args below meth c Q h k n Ls pc L (.int y :: .int x :: st) := by
  subst hx hy
  refine Run.icmp F d ht (fun q => K1 ?_) (fun q => K2 ?_)
  · rw [ic_ne] at q; exact of_decide_eq_true q
  · rw [ic_ne] at q; have := of_decide_eq_false q; omega
theorem Run.if_lt (F : Fx p c meth bytes ml ret nm) {x : Int32} {o : Int} {t : Nat} (d : Dc bytes pc (.ifCond .lt o) 3 nx) (ht : (pc : Int) + o = (t : Int)) {xi : Int} (hx : x.toInt = xi)
    (K1 : xi < 0 → Run Z n0 p l e R s own m args below meth c Q h k n Ls t L st) (K2 : 0 ≤ xi → Run Z n0 p l e R s own m args below meth c Q h k n Ls nx L st) : Run Z n0 p l e R s own m args below meth c Q h k n Ls pc L (.int x :: st) := by
  subst hx
  have z : (0 : Int32).toInt = 0 := rfl
  refine Run.if_ F d ht (fun q => K1 ?_) (fun q => K2 ?_)
  · rw [if0, ic_lt, z] at q; exact of_decide_eq_true q
  · rw [if0, ic_lt, z] at q; have := of_decide_eq_false q; omega
theorem Run.if_ge (F : Fx p c meth bytes ml ret nm) {x : Int32} {o : Int} {t : Nat} (d : Dc bytes pc (.ifCond .ge o) 3 nx) (ht : (pc : Int) + o = (t : Int)) {xi : Int} (hx : x.toInt = xi)
    (K1 : 0 ≤ xi → Run Z n0 p l e R s own m args below meth c Q h k n Ls t L st) (K2 : xi < 0 → Run Z n0 p l e R s own m args below meth c Q h k n Ls nx L st) : Run Z n0 p l e R s own m args below meth c Q h k n Ls pc L (.int x :: st) := by
  subst hx
  have z : (0 : Int32).toInt = 0 := rfl
  refine Run.if_ F d ht (fun q => K1 ?_) (fun q => K2 ?_)
  · rw [if0, ic_ge, z] at q; exact of_decide_eq_true q
  · rw [if0, ic_ge, z] at q; have := of_decide_eq_false q; omega
theorem Run.if_gt (F : Fx p c meth bytes ml ret nm) {x : Int32} {o : Int} {t : Nat} (d : Dc bytes pc (.ifCond .gt o) 3 nx) (ht : (pc : Int) + o = (t : Int)) {xi : Int} (hx : x.toInt = xi)
    (K1 : 0 < xi → Run Z n0 p l e R s own m args below meth c Q h k n Ls t L st) (K2 : xi ≤ 0 → Run Z n0 p l e R s own m args below meth c Q h k n Ls nx L st) : Run Z n0 p l e R s own m args below meth c Q h k n Ls pc L (.int x :: st) := by
  subst hx
  have z : (0 : Int32).toInt = 0 := rfl
  refine Run.if_ F d ht (fun q => K1 ?_) (fun q => K2 ?_)
  · rw [if0, ic_gt, z] at q; exact of_decide_eq_true q
  · rw [if0, ic_gt, z] at q; have := of_decide_eq_false q; omega
theorem Run.if_le (F : Fx p c meth bytes ml ret nm) {x : Int32} {o : Int} {t : Nat} (d : Dc bytes pc (.ifCond .le o) 3 nx) (ht : (pc : Int) + o = (t : Int)) {xi : Int} (hx : x.toInt = xi)
    (K1 : xi ≤ 0 → Run Z n0 p l e R s own m args below meth c Q h k n Ls t L st) (K2 : 0 < xi → Run Z n0 p l e R s own m args below meth c Q h k n Ls nx L st) : Run Z n0 p l e R s own m args below meth c Q h k n Ls pc L (.int x :: st) := by
  subst hx
  have z : (0 : Int32).toInt = 0 := rfl
  refine Run.if_ F d ht (fun q => K1 ?_) (fun q => K2 ?_)
  · rw [if0, ic_le, z] at q; exact of_decide_eq_true q
  · rw [if0, ic_le, z] at q; have := of_decide_eq_false q; omega
theorem Run.if_eq (F : Fx p c meth bytes ml ret nm) {x : Int32} {o : Int} {t : Nat} (d : Dc bytes pc (.ifCond .eq o) 3 nx) (ht : (pc : Int) + o = (t : Int)) {xi : Int} (hx : x.toInt = xi)
    (K1 : xi = 0 → Run Z n0 p l e R s own m args below meth c Q h k n Ls t L st) (K2 : xi ≠ 0 → Run Z n0 p l e R s own m args below meth c Q h k n Ls nx L st) : Run Z n0 p l e R s own m args below meth c Q h k n Ls pc L (.int x :: st) := by
  subst hx
  have z : (0 : Int32).toInt = 0 := rfl
  refine Run.if_ F d ht (fun q => K1 ?_) (fun q => K2 ?_)
  · rw [if0, ic_eq, z] at q; exact of_decide_eq_true q
  · rw [if0, ic_eq, z] at q; have := of_decide_eq_false q; omega
theorem Run.if_ne (F : Fx p c meth bytes ml ret nm) {x : Int32} {o : Int} {t : Nat} (d : Dc bytes pc (.ifCond .ne o) 3 nx) (ht : (pc : Int) + o = (t : Int)) {xi : Int} (hx : x.toInt = xi)
    (K1 : xi ≠ 0 → Run Z n0 p l e R s own m args below meth c Q h k n Ls t L st) (K2 : xi = 0 → Run Z n0 p l e R s own m args below meth c Q h k n Ls nx L st) : Run Z n0 p l e R s own m args below meth c Q h k n Ls pc L (.int x :: st) := by
  subst hx
  have z : (0 : Int32).toInt = 0 := rfl
  refine Run.if_ F d ht (fun q => K1 ?_) (fun q => K2 ?_)
  · rw [if0, ic_ne, z] at q; exact of_decide_eq_true q
  · rw [if0, ic_ne, z] at q; have := of_decide_eq_false q; omega
theorem Run.ifB_eq (F : Fx p c meth bytes ml ret nm) {b : Bool} {o : Int} {t : Nat} (d : Dc bytes pc (.ifCond .eq o) 3 nx) (ht : (pc : Int) + o = (t : Int))
    (K1 : b = false → Run Z n0 p l e R s own m args below meth c Q h k n Ls t L st) (K2 : b = true → Run Z n0 p l e R s own m args below meth c Q h k n Ls nx L st) : Run Z n0 p l e R s own m args below meth c Q h k n Ls pc L (.int (b2i b) :: st) := by
  cases b
  · exact Run.ifYes F d ht rfl (K1 rfl)
  · exact Run.ifNo F d rfl (K2 rfl)
theorem Run.ifB_ne (F : Fx p c meth bytes ml ret nm) {b : Bool} {o : Int} {t : Nat} (d : Dc bytes pc (.ifCond .ne o) 3 nx) (ht : (pc : Int) + o = (t : Int))
    (K1 : b = true → Run Z n0 p l e R s own m args below meth c Q h k n Ls t L st) (K2 : b = false → Run Z n0 p l e R s own m args below meth c Q h k n Ls nx L st) : Run Z n0 p l e R s own m args below meth c Q h k n Ls pc L (.int (b2i b) :: st) := by
  cases b
  · exact Run.ifNo F d rfl (K2 rfl)
  · exact Run.ifYes F d ht rfl (K1 rfl)
theorem Run.icmpB_eq (F : Fx p c meth bytes ml ret nm) {b b' : Bool} {o : Int} {t : Nat} (d : Dc bytes pc (.if_icmp .eq o) 3 nx) (ht : (pc : Int) + o = (t : Int))
    (K1 : b = b' → Run Z n0 p l e R s own m args below meth c Q h k n Ls t L st) (K2 : b ≠ b' → Run Z n0 p l e R s own m args below meth c Q h k n Ls nx L st) : Run Z n0 p l e R s own m args below meth c Q h k n Ls pc L (.int (b2i b') :: .int (b2i b) :: st) := by
  cases b <;> cases b'
  · exact Run.icmpYes F d ht rfl (K1 rfl)
  · exact Run.icmpNo F d rfl (K2 (by decide))
  · exact Run.icmpNo F d rfl (K2 (by decide))
  · exact Run.icmpYes F d ht rfl (K1 rfl)
theorem Run.icmpB_ne (F : Fx p c meth bytes ml ret nm) {b b' : Bool} {o : Int} {t : Nat} (d : Dc bytes pc (.if_icmp .ne o) 3 nx) (ht : (pc : Int) + o = (t : Int))
    (K1 : b ≠ b' → Run Z n0 p l e R s own m args below meth c Q h k n Ls t L st) (K2 : b = b' → Run Z n0 p l e R s own m args below meth c Q h k n Ls nx L st) : Run Z n0 p l e R s own m args below meth c Q h k n Ls pc L (.int (b2i b') :: .int (b2i b) :: st) := by
  cases b <;> cases b'
  · exact Run.icmpNo F d rfl (K2 rfl)
  · exact Run.icmpYes F d ht rfl (K1 (by decide))
  · exact Run.icmpYes F d ht rfl (K1 (by decide))
  · exact Run.icmpNo F d rfl (K2 rfl)
/-- a loop's head: P r .. with r the turns left -/
theorem Run.rec (P : Nat → Heap → Nat → Nat → Lits → List Slot → List Value → Prop)
    (step : ∀ r h k n Ls L st, P r h k n Ls L st → (∀ r' h' k' n' Ls' L' st', r' < r → P r' h' k' n' Ls' L' st' → Run Z n0 p l e R s own m args below meth c Q h' k' n' Ls' pc L' st') → Run Z n0 p l e R s own m args below meth c Q h k n Ls pc L st) :
    ∀ r h k n Ls L st, P r h k n Ls L st → Run Z n0 p l e R s own m args below meth c Q h k n Ls pc L st := fun r => by
  induction r using Nat.strongRecOn with
  | ind r ih => exact fun h k n Ls L st hP => step r h k n Ls L st hP fun r' h' k' n' Ls' L' st' hr hP' => ih r' hr h' k' n' Ls' L' st' hP'
/-- a place where roads meet -/
theorem Run.via {pcJ : Nat} (P : Heap → Nat → Nat → Lits → List Slot → List Value → Prop)
    (J : ∀ h k n Ls L st, P h k n Ls L st → Run Z n0 p l e R s own m args below meth c Q h k n Ls pcJ L st) (K : (∀ h k n Ls L st, P h k n Ls L st → Run Z n0 p l e R s own m args below meth c Q h k n Ls pcJ L st) → Run Z n0 p l e R s own m args below meth c Q h k n Ls pc L st) : Run Z n0 p l e R s own m args below meth c Q h k n Ls pc L st := K J
/-- .. the same, only the stack told -/
theorem Run.viaS {pcJ : Nat} (P : List Value → Prop)
    (J : ∀ st', P st' → Run Z n0 p l e R s own m args below meth c Q h k n Ls pcJ L st') (K : (∀ st', P st' → Run Z n0 p l e R s own m args below meth c Q h k n Ls pcJ L st') → Run Z n0 p l e R s own m args below meth c Q h k n Ls pc L st) : Run Z n0 p l e R s own m args below meth c Q h k n Ls pc L st := K J
/-- as if more had been made -/
theorem Run.more {k' n' : Nat} (hk : k ≤ k') (hn : n ≤ n') (K : Run Z n0 p l e R s own m args below meth c Q h k' n' Ls pc L st) : Run Z n0 p l e R s own m args below meth c Q h k n Ls pc L st := fun T W => by
  obtain ⟨vm0, locs, k0, X, r⟩ := W
  exact K T ⟨vm0, locs, k0, X.mono hk hn, r⟩
end Branch
end Jvm.Own
namespace Jvm.Own
open Sem ClassFile Op Lib Jvm.Stand Jvm.Free Jvm.LawKit Jvm.RoadKit
theorem i32_nn {i : Nat} (h : i < 2 ^ 31) : ¬ Int32.ofNat i < 0 := by
  rw [Int32.lt_iff_toInt_lt, Int32.toInt_ofNat_small h]
  have z : (0 : Int32).toInt = 0 := rfl
  omega
theorem i32_tn {i : Nat} (h : i < 2 ^ 31) : (Int32.ofNat i).toNatClampNeg = i := Jvm.Free.XT.n32 h
theorem i32_ti {i : Nat} (h : i < 2 ^ 31) : (Int32.ofNat i).toInt = i := Int32.toInt_ofNat_small h
theorem i32_eq {x : Int32} {i : Nat} (h : x.toInt = i) : x = Int32.ofNat i := by
  apply Int32.toInt_inj.mp
  have := x.toInt_lt
  rw [h, Int32.toInt_ofNat_small (by omega)]
theorem i32_nneg {x : Int32} (h : 0 ≤ x.toInt) : ¬ x < 0 := by
  rw [Int32.lt_iff_toInt_lt]; have z : (0 : Int32).toInt = 0 := rfl; omega
theorem i32_nat {x : Int32} {i : Nat} (h : x.toInt = i) : x.toNatClampNeg = i := by show x.toInt.toNat = i; omega
/-- the byte that holds a char -/
def lb (c : Int32) : Value := .int c.toInt8.toInt32
theorem chr_toInt (x : Int32) : (chr x).toInt = x.toInt % 65536 := by
  have e : (chr x).toBitVec.toNat = x.toBitVec.toNat % 65536 := by
    show x.toUInt32.toUInt16.toUInt32.toNat = _
    rw [UInt16.toNat_toUInt32, UInt32.toNat_toUInt16]; rfl
  have h1 : (chr x).toInt = (chr x).toBitVec.toInt := rfl
  have h2 : x.toInt = x.toBitVec.toInt := rfl
  rw [h1, h2, BitVec.toInt_eq_toNat_cond, BitVec.toInt_eq_toNat_cond, e]
  have := x.toBitVec.isLt
  split <;> split <;> omega
theorem chr_id {x : Int32} (h0 : 0 ≤ x.toInt) (h1 : x.toInt < 65536) : chr x = x := Int32.toInt_inj.mp (by rw [chr_toInt]; omega)
theorem chr_chr (x : Int32) : chr (chr x) = chr x := chr_id (by rw [chr_toInt]; omega) (by rw [chr_toInt]; omega)
theorem nar_char (x : Int32) : nar .char x = chr x := rfl
theorem narrow_chr (x : Int32) : narrow .char (.int (chr x)) = .int (chr x) := by
  have : narrow .char (.int (chr x)) = .int (chr (chr x)) := rfl
  rw [this, chr_chr]
theorem narrow_char {x : Int32} (h0 : 0 ≤ x.toInt) (h1 : x.toInt < 65536) : narrow .char (.int x) = .int x := by rw [← chr_id h0 h1]; exact narrow_chr x
theorem and255 (x : Int32) : (x &&& 255).toInt = x.toInt % 256 := c_mask x 255 8 (by decide) (by decide)
theorem low8 {c : Int32} (h0 : 0 ≤ c.toInt) (h1 : c.toInt < 256) : chr (c.toInt8.toInt32 &&& 255) = c := by
  apply Int32.toInt_inj.mp
  have := c_i2b c
  rw [chr_toInt, and255]; omega
theorem narB (c : Int32) : nar .byte c.toInt8.toInt32 = c.toInt8.toInt32 := by
  show c.toInt8.toInt32.toInt8.toInt32 = _
  simp
theorem b2i_narrow (b : Bool) : narrow .boolean (.int (b2i b)) = .int (b2i b) := by cases b <;> rfl
theorem take_set {cs : List Int32} {i r : Nat} {c : Int32} (hi : i + (r + 1) = cs.length) (hc : cs[i]? = some c) :
    ((cs.take i).map lb ++ List.replicate (r + 1) (Value.int 0)).set i (lb c) = (cs.take (i + 1)).map lb ++ List.replicate r (Value.int 0) := by
  have hl : ((cs.take i).map lb).length = i := by simp; omega
  rw [List.set_append_right _ _ (by omega), hl, Nat.sub_self, List.replicate_succ, List.set_cons_zero, List.take_succ, hc]
  simp
theorem mapInt_get {cs : List Int32} {i : Nat} {c : Int32} (h : cs[i]? = some c) : (cs.map Value.int)[i]? = some (.int c) := by simp [h]
theorem lb_get {cs : List Int32} {i : Nat} {c : Int32} (h : cs[i]? = some c) : (cs.map lb)[i]? = some (.int c.toInt8.toInt32) := by simp [h, lb]
theorem coder0 (n : Nat) : ((XT.ushr (Int32.ofNat n - Int32.ofNat n) 31).toInt8.toInt32) = 0 := by
  rw [Int32.sub_self]; decide
theorem i32_pred {i : Nat} (h : i < 2 ^ 31) : (Int32.ofNat i - 1).toInt = (i : Int) - 1 := by
  have h1 := c_isub (Int32.ofNat i) 1
  have h2 := rng32 (Int32.ofNat i - 1)
  have h3 : (1 : Int32).toInt = 1 := rfl
  rw [i32_ti h, h3] at h1
  omega
theorem chr255 (x : Int32) : 0 ≤ (chr (x &&& 255)).toInt ∧ (chr (x &&& 255)).toInt < 256 := by rw [chr_toInt, and255]; omega
theorem i32_mod {x y : Int32} (hx : 0 ≤ x.toInt) (hy : 0 < y.toInt) : (x % y).toInt = x.toInt % y.toInt := by
  rw [Int32.toInt_mod, Int.tmod_eq_emod_of_nonneg hx]
theorem mask31 (x : Int32) : (x &&& 2147483647).toInt = x.toInt % 2147483648 := c_mask x 2147483647 31 (by decide) (by decide)
theorem ltE {Z : State} {h : Heap} {a : Nat} {C : String} (E : Exa Z h a C) : a < h.size := E.lt
theorem mem1 {x : Nat} : x ∈ [x] := List.mem_singleton.mpr rfl
theorem mem2 {x y : Nat} : x ∈ [x, y] := List.mem_cons_self ..
theorem mem3 {x y : Nat} : y ∈ [x, y] := List.mem_cons_of_mem _ mem1
end Jvm.Own
namespace Jvm.Own
open Sem ClassFile Op Lib Jvm.Stand Jvm.Free Jvm.LawKit Jvm.RoadKit Jvm.Free.SB Jvm.Free.SBG
/-- a String and its bytes -/
def Str (Z : State) (h : Heap) (a b : Nat) (co : Int32) (vs : List Value) : Prop :=
  Exa Z h a "java/lang/String" ∧ Fld Z h a "java/lang/String" "coder" "B" (.int co) ∧ Fld Z h a "java/lang/String" "value" "[B" (.ref b) ∧ Av Z h b .byte vs
theorem Str.keep {Z : State} {h h' : Heap} {ws : List Addr} {a b : Nat} {co : Int32} {vs : List Value} (S : Str Z h a b co vs) (K : Keep h h' ws) (q : a ∉ ws) (q' : b ∉ ws) : Str Z h' a b co vs :=
  ⟨S.1.keep K, S.2.1.keep K q, S.2.2.1.keep K q, S.2.2.2.keep K q'⟩
theorem Str.la {Z : State} {h : Heap} {a b : Nat} {co : Int32} {vs : List Value} (S : Str Z h a b co vs) : a < h.size := S.1.lt
theorem Str.lb {Z : State} {h : Heap} {a b : Nat} {co : Int32} {vs : List Value} (S : Str Z h a b co vs) : b < h.size := S.2.2.2.lt
def litB (text : String) : List Value := text.toList.map fun c => Value.int (Jvm.Lit.byteI c.toNat.toUInt16)
theorem slStr {Z U : State} {q : SQ} {cS : ClassId} {units : Array UInt16} {text : String} (hal : Z.vm.Alike U.vm) (htext : utf16ToString? units = some text) (ht : ∀ c ∈ text.toList, c.toNat < 256) (S : Sl q cS U)
    (hk : ∃ kS : Class, U.vm.classes[cS]? = some kS ∧ kS.kind = .ordinary ∧ q.sC.slots.size = kS.instanceTypes.size) (hB : U.vm.findClass "[B" = some q.SA.cls) (hb : q.SA.slots = stringBytes units) : Str Z U.heap q.sa q.sd 0 (litB text) := by
  obtain ⟨⟨s1, s2, s3, ⟨cv, kv, iv, s4, s4'⟩, ⟨cc, kc, ic, s5, s5'⟩, s6, s7, s8, s9, s10, s11, s12, s13, s14, s15, s16⟩, hf, hc⟩ := S
  obtain ⟨kv', z4⟩ := ff_back hal s4
  obtain ⟨kc', z5⟩ := ff_back hal s5
  obtain ⟨kS, k1, -, k3⟩ := hk
  have hfZ : Z.vm.findClass "java/lang/String" = some q.sC.cls := by rw [← hal.findClass, hc]; exact hf
  obtain ⟨kz, hkz, -⟩ := Vm.findClass_spec hfZ
  obtain ⟨kz', hkz', ekz⟩ := hal.2.2 _ _ hkz
  have e1 : kz' = kS := Option.some.inj (hkz'.symm.trans (hc ▸ k1))
  have hlat := Jvm.ClassFile.lat_of_text htext ht
  have hsl : q.SA.slots = units.map fun u => Value.int (Jvm.Lit.byteI u) := by rw [hb, SBG.stringBytes_lat hlat]; rfl
  have hl : q.SA.slots.toList = litB text := by
    rw [hsl, Array.toList_map, Jvm.ClassFile.units_of_text htext ht, List.map_map]; rfl
  obtain ⟨hst, k9, hk9, comp, hkind⟩ := s11
  have hBZ : Z.vm.findClass "[B" = some q.SA.cls := by rw [← hal.findClass]; exact hB
  obtain ⟨kb, hkb, -⟩ := Vm.findClass_spec hBZ
  obtain ⟨kb', hkb', ekb⟩ := hal.2.2 _ _ hkb
  have e9 : k9 = kb' := Option.some.inj (hk9.symm.trans hkb')
  refine ⟨⟨q.sC, kz, s1, hfZ, hkz, s3, fun _ => by rw [k3, ← e1, ekz]⟩, ⟨q.sC, cc, kc', ic, q.fSC, s1, z5, s7, s2, s3, by rw [← hal.assignable]; exact s5', s9⟩,
    ⟨q.sC, cv, kv', iv, q.fSV, s1, z4, s6, s2, s3, by rw [← hal.assignable]; exact s4', s8⟩, q.SA, ⟨s10, ⟨hst, kb, hkb, comp, by rw [e9, ekb] at hkind; exact hkind⟩, s12⟩, hl, ?_, fun v hv => ?_⟩
  · rw [← hl]; simpa [s13] using s14
  · rw [← hl] at hv
    obtain ⟨j, hj, rfl⟩ := List.mem_iff_getElem.mp hv
    have hj' : j < q.SA.slots.size := by simpa using hj
    have := s16 j hj'
    rw [getD_of (Array.getElem?_eq_getElem hj')] at this
    simpa using this
section Lit
variable {Z : State} {n0 : Nat} {p : Program} {l : Launch} {e : Env} {R : Room} {s : State} {own : String} {m : MethodId} {args : Array Value} {below : List Frame} {meth : Method} {c : Code} {Q : Option Value → Heap → Lits → Prop} {h : Heap} {k n : Nat} {pc nx : Nat} {L : List Slot} {st : List Value}
variable {bytes : ByteArray} {ml : Nat} {ret : Option FieldType} {nm : String} {a0 : Array Value} {T : State} {locs : List Loc} {cells slots : Nat}
/-- the walk's own place taken for a start: nothing written, nothing made yet -/
theorem anew (X : Stand p l e R s m args below meth c T locs cells slots) (hc : cells ≤ R.cells) (hn : slots ≤ R.slots) :
    ∃ s2 : State, s2.heap = T.heap ∧ s2.vm = T.vm ∧ T = s2.setFrames T.frames ∧ Stand p l e { R with cells := R.cells - cells, slots := R.slots - slots } s2 m args below meth c T [] 0 0 := by
  have X1 : Stand p l e R (s.setVm T.vm) m args below meth c T locs cells slots := X.retabled X.warmed.wide
  have e1 : T = { (s.setVm T.vm).setFrames T.frames with heap := T.heap, slotsUsed := T.slotsUsed } := X1.same.1
  refine ⟨{ s.setVm T.vm with heap := T.heap, slotsUsed := T.slotsUsed }, rfl, rfl, e1, X1.admits, X1.cas, X1.clock, X1.frames, ?_, X1.hears, X1.method, X1.code, X1.here, X1.tail, State.WarmedH.refl _, X1.limits, X1.bytes, ?_⟩
  · have r := X1.room
    have hb : T.slotsTrue = true := X1.book
    have h1 := X1.heapSize
    have h2 := X1.used
    simp only [State.hasRoom, Bool.and_eq_true, decide_eq_true_eq] at r ⊢
    obtain ⟨⟨⟨⟨r1, r2⟩, r3⟩, r4⟩, r5⟩ := r
    refine ⟨⟨⟨⟨r1, r2⟩, ?_⟩, ?_⟩, hb⟩
    · show T.heap.size + (R.cells - cells) ≤ _; omega
    · show T.slotsUsed + (R.slots - slots) ≤ _; omega
  · refine ⟨e1, Nat.le_refl _, Nat.le_refl _, ?_, ?_, fun a cl ha => ⟨cl, ha, rfl, rfl, fun _ _ => rfl⟩⟩
    · show T.slotsUsed = T.slotsUsed + ((T.heap.toList.drop T.heap.size).map (·.slots.size)).sum
      rw [List.drop_eq_nil_of_le (by simp)]; rfl
    · show ((T.heap.toList.drop T.heap.size).map (·.slots.size)).sum ≤ 0
      rw [List.drop_eq_nil_of_le (by simp)]; exact Nat.le_refl _
/-- .. and back: what was made from there is made from the true start -/
theorem ofAnew (X : Stand p l e R s m args below meth c T locs cells slots) {s2 T2 : State} {R2 : Room} {k2 n2 : Nat} (hT : T = s2.setFrames T.frames) (X0 : Stand p l e R2 s2 m args below meth c T [] 0 0)
    (X2 : Stand p l e R2 (s2.setVm T2.vm) m args below meth c T2 [] k2 n2) (hS : s2.Since T2.vm T2.heap.size) :
    Stand p l e R (s.setVm T2.vm) m args below meth c T2 locs (cells + k2) (slots + n2) ∧ s.Since T2.vm T2.heap.size := by
  have hW : T.Warmed39 T2.vm := by rw [hT]; exact hS.1
  have hB : T.Booked T2.vm T2.heap.size := by rw [hT]; exact hS.2
  have q : s2.sameButNew (T2.setVm s2.vm) [] k2 n2 := X2.same.setVm s2.vm
  have q' : T.sameButNew (T2.setVm T.vm) [] k2 n2 := by
    rw [hT]
    obtain ⟨q1, q2⟩ := q
    refine ⟨?_, q2⟩
    rw [State.setFrames_setFrames]
    exact q1
  have r := X.movedW X2.here X2.tail (X2.limits.trans X0.limits.symm) (X2.bytes.trans X0.bytes.symm) hW hB q'
  rw [List.append_nil] at r
  exact r
/-- a String constant, whatever the table holds of it -/
theorem Run.ldcS {lt : List (String × Addr)} {text : String} {P : Addr → Addr → Prop} (F : Fx p c meth bytes ml ret nm) {i : Nat} (w : (Cond.stringLink own i text).before a0 Z = true) (wS : ∀ a ∈ Bundle.stringAtoms, a.before a0 Z = true) (hh : Jvm.Lit.constHeld Z own i) (hcw : Jvm.Lit.compactW.before a0 Z = true)
    (ht : ∀ c ∈ text.toList, c.toNat < 256) (hLs : ∀ t ∈ lt, t.1 = text → ∃ b, Str Z h t.2 b 0 (litB text) ∧ P t.2 b) (cap : Nat) (hcap : 4 * text.toList.length ≤ cap) (hbig0 : Nat.ble cap 536870912 = true) (hc : k + 2 ≤ R.cells) (hl : n + (cap + 4) ≤ R.slots) (d : Dc bytes pc (.ldc i) 2 nx)
    (K : ∀ h' a b, Keep h h' [] → Str Z h' a b 0 (litB text) → ((a < n0 ∧ b < n0) ∨ (h.size ≤ a ∧ h.size ≤ b) ∨ P a b) → Run Z n0 p l e R s own m args below meth c Q h' (k + 2) (n + (cap + 4)) (some ((text, a) :: lt)) nx L (.ref a :: st)) :
    Run Z n0 p l e R s own m args below meth c Q h k n (some lt) pc L st := fun T W => by
  have hbig : cap ≤ 536870912 := Nat.le_of_ble_eq_true hbig0
  have hd := hbD F d; obtain ⟨-, rfl⟩ := d
  obtain ⟨vm0, locs, k0, X, eT, hS, hk, hZ, hown, N, hO, I, kn⟩ := W
  have hi : T.vm.interned = vm0.interned := X.warmed.interned_eq
  have X1 : Stand p l e R (s.setVm T.vm) m args below meth c T locs k n := X.retabled X.warmed.wide
  have hW0 : (s.setVm vm0).Warmed39 T.vm := X.warmed.wide
  have hS1 : s.Since T.vm h.size := hS.trans (X.warmed.since h.size) hk
  have hZ1 : Z.Warmed39 T.vm := State.Warmed39.trans hZ hW0
  have hown1 : T.vm.findClass own = some m.cls := (hW0.alike.findClass _ _).trans hown
  have I1 : Itn Z T.vm (some lt) := I.eq hi
  have wi : (Cond.instantiable "java/lang/String" 4).before a0 Z = true := wS _ (by simp [Bundle.stringAtoms, Bundle.sN])
  have wa : (Cond.arrayClass .byte).before a0 Z = true := wS _ (by simp [Bundle.stringAtoms])
  have hH : ConstHeldL Z own i := heldStart hh w ht hcw wa wi
  have w1 : (Cond.stringLink own i text).before args (s.setVm T.vm) = true := mvS hZ1 w
  obtain ⟨kk, cf, si, units, hkk, hcf, hcp, hu, hnm, htext, hres⟩ := Cond.stringLink_spec (s := s.setVm T.vm) hown1 w1
  have hkk' : T.vm.classes[m.cls]? = some kk := hkk
  -- the class at the start of the law
  have hownZ : Z.vm.findClass own = some m.cls := by rw [← hZ1.alike.findClass]; exact hown1
  obtain ⟨kz, cz, iz, uz, hkz, hcfz, hcpz, huz, hnmz, htextz, hresz⟩ := Cond.stringLink_spec hownZ w
  obtain ⟨kk2, hkk2, ekk, -, eent, -⟩ := hZ1.2.2.2 _ kz hkz
  cases hkk'.symm.trans hkk2
  have ecf : cz = cf := by have q : kk.cf = kz.cf := by rw [ekk]
                           rw [hcf, hcfz] at q; exact (Option.some.inj q).symm
  subst ecf
  cases hcpz.symm.trans hcp
  cases huz.symm.trans hu
  -- what is held where the walk stands
  have held : ∀ a, (kk.resolved[i]? = some (some (.string a)) ∨ (kk.resolved[i]? = some none ∧ T.vm.interned.find? (fun p => p.1 == units) = some (units, a))) → ∃ b, Str Z h a b 0 (litB text) ∧ ((a < n0 ∧ b < n0) ∨ P a b) := by
    intro a ha
    have fromZ : SlOf Z a units → ∃ b, Str Z h a b 0 (litB text) ∧ ((a < n0 ∧ b < n0) ∨ P a b) := by
      rintro ⟨q, cS, rfl, S, hkS, hB, hb⟩
      have R0 := slStr (Vm.Alike.refl _) htext ht S hkS hB hb
      refine ⟨q.sd, R0.keep (Keep.ofExt hO.2) nin0 nin0, Or.inl ⟨?_, ?_⟩⟩
      · have := R0.la; rw [hO.1] at this; exact this
      · have := R0.lb; rw [hO.1] at this; exact this
    have fromI : kz.resolved[i]? = some none → T.vm.interned.find? (fun p => p.1 == units) = some (units, a) → ∃ b, Str Z h a b 0 (litB text) ∧ ((a < n0 ∧ b < n0) ∨ P a b) := by
      intro hop hf
      obtain ⟨more, em, hm⟩ := I1 lt rfl
      rw [em, Array.find?_append] at hf
      cases hs : Z.vm.interned.find? (fun p => p.1 == units) with
      | some pr =>
        rw [hs] at hf
        exact fromZ (hH _ kz cz si units a hownZ hkz hcfz hcpz huz (Or.inr ⟨hop, by rw [hs]; simpa using hf⟩))
      | none =>
        rw [hs, Option.none_or] at hf
        obtain ⟨t, htm, h1, h2⟩ := hm _ (Array.mem_of_find?_eq_some hf)
        have e1 : t.1 = text := Option.some.inj (h1.symm.trans htext)
        obtain ⟨b, hb, hp⟩ := hLs t htm e1
        have e2 : t = (text, a) := Prod.ext e1 h2.symm
        subst e2
        exact ⟨b, hb, Or.inr hp⟩
    rcases eent i with e0 | ⟨hop, r, e1, hr | ⟨a3, t, si', us, rfl, -, q3, q4, q5⟩⟩
    · rcases ha with h0 | ⟨h0, hf⟩
      · exact fromZ (hH _ kz cz si units a hownZ hkz hcfz hcpz huz (Or.inl (e0 ▸ h0)))
      · exact fromI (e0 ▸ h0) hf
    · exfalso
      cases r <;> simp [State.rightAt, hkz, hcfz, hnmz] at hr
    · rw [hcfz] at q3 q4
      have e3 : si' = si := by have := q3.symm.trans hcpz; simpa using this
      subst e3
      have e4 : us = units := by simpa [ConstantPool.utf8?, huz] using q4.symm
      subst e4
      rcases ha with h0 | ⟨h0, hf⟩
      · have ea : a3 = a := by have := e1.symm.trans h0; simpa using this
        subst ea
        exact fromI hop q5
      · have := e1.symm.trans h0; simp at this
  have more1 : ∀ a, Itn Z T.vm (some ((text, a) :: lt)) := fun a lt' hlt' => by
    obtain ⟨more, em, hm⟩ := I1 lt rfl
    cases hlt'
    exact ⟨more, em, fun q hq => by obtain ⟨t, h1, h2⟩ := hm q hq; exact ⟨t, List.mem_cons_of_mem _ h1, h2⟩⟩
  rcases hres with hopen | ⟨a, hra⟩
  · cases hf : T.vm.interned.find? (fun p => p.1 == units) with
    | some pr =>
      obtain ⟨u', a⟩ := pr
      have hu' : u' = units := by have := Array.find?_some hf; simpa using this
      subst hu'
      obtain ⟨b, S, hpos⟩ := held a (Or.inr ⟨hopen, hf⟩)
      have q2 : kk.cf.bind (namesOf? ·.constantPool i) = some (.string text) := by rw [hcf]; exact hnm
      have q3 : kk.cf.bind (·.constantPool[i]?) = some (.string si) := by rw [hcf]; exact hcp
      have q4 : kk.cf.bind (·.constantPool.utf8? si) = some u' := by rw [hcf]; simp [ConstantPool.utf8?, hu]
      have hW : (s.setVm T.vm).Warmed39 (T.vm.noted m.cls i (.string a)) := (State.Warmed39.refl (s.setVm T.vm)).notedString hkk (Or.inl hopen) q2 q3 q4 hf
      have X2 : Stand p l e R (s.setVm (T.vm.noted m.cls i (.string a))) m args below meth c (T.setVm (T.vm.noted m.cls i (.string a))) locs k n := X1.retabled hW
      have hS2 : s.Since (T.vm.noted m.cls i (.string a)) h.size := hS1.trans ⟨hW, fun j pp hj hp => by
        have : T.vm.interned[j]? = some pp := hp
        exact absurd (Array.getElem?_eq_some_iff.mp this).1 (Nat.not_lt.mpr hj)⟩ (Nat.le_refl _)
      obtain ⟨u, o, r1, r⟩ := K h a b (Keep.refl _ _) S (hpos.imp id Or.inr) _ ⟨_, locs, h.size, X2.mono (Nat.le_add_right _ _) (Nat.le_add_right _ _), eT, hS2, Nat.le_refl _, State.Warmed39.trans (t := s.setVm T.vm) hZ1 hW, (hW.alike.findClass _ _).trans hown1, N, hO, (more1 a).eq rfl, kn⟩
      refine ⟨u, o, ?_, r⟩
      show Steps p.tables e below (T.setTop { method := m, pc := pc, locals := L.toArray, stack := st, locked := none }) u
      jvm_step X.here [F.1, hd, ldc.wp_string_found (e := e) (s := T) (f := mkF m pc L.toArray st) X.here.top hkk' hcf hcp hu hopen hf]
      exact r1
    | none =>
      obtain ⟨s2, e2h, e2v, hT, X0⟩ := anew X1 (by omega) (by omega)
      have X0' : Stand p l e { R with cells := R.cells - k, slots := R.slots - n } s2 m args below meth c T [] 0 0 := X0
      have hown2 : s2.vm.findClass own = some m.cls := by rw [e2v]; exact hown1
      have hZ2 : Z.Warmed39 s2.vm := by rw [e2v]; exact hZ1
      have hkk2 : s2.vm.classes[m.cls]? = some kk := by rw [e2v]; exact hkk'
      have vac : ConstHeldL s2 own i := fun c' k' cf' i' us' a' h1 h2 h3 h4 h5 h6 => by
        exfalso
        cases hown2.symm.trans h1
        cases hkk2.symm.trans h2
        cases hcf.symm.trans h3
        cases hcp.symm.trans h4
        cases hu.symm.trans h5
        rcases h6 with h6 | ⟨-, h6⟩
        · have := hopen.symm.trans h6; simp at this
        · rw [e2v, hf] at h6; cases h6
      obtain ⟨a, T2, X2, hS2, ⟨k2, hk2, hr2⟩, hkeep, -, hint, ⟨us, hus, hin⟩, stp⟩ := X0'.ldcColdF (fun b cl hb => by rw [e2h] at hb; exact hb) F.1 (own := own) (text := text) hown2 (mvS (s := s2) hZ2 w) (fun dd hdd => by
        have q := wS dd hdd
        simp only [Bundle.stringAtoms, List.mem_cons, List.not_mem_nil, or_false] at hdd
        rcases hdd with rfl | rfl | rfl | rfl | rfl | rfl | rfl
        · exact mv (s := s2) hZ2 q
        · exact mv (s := s2) hZ2 q
        · exact mvA (s := s2) hZ2 q
        · exact mv (s := s2) hZ2 q
        · exact mv (s := s2) hZ2 q
        · exact mv (s := s2) hZ2 q
        · exact mv (s := s2) hZ2 q) vac (fun us hus => Jvm.ClassFile.lat_of_text hus ht) (g := mkF m pc L.toArray st) rfl hd (n := cap) hcap hbig (by show 0 + 2 ≤ R.cells - k; omega) (by show 0 + (cap + 4) ≤ R.slots - n; omega)
      obtain ⟨X3, hS3⟩ := ofAnew X1 hT X0' X2 hS2
      -- the pair that came is this constant's
      obtain ⟨k2', hk2', -, -, ee2, -⟩ := hS2.1.2.2.2 _ kk hkk2
      cases hk2.symm.trans hk2'
      have hfind : T2.vm.interned.find? (fun p => p.1 == units) = some (units, a) := by
        rcases ee2 i with e0 | ⟨-, r, e1, hr | ⟨a3, t, si', us', rfl, -, q3, q4, q5⟩⟩
        · have := (e0.symm.trans hr2).symm.trans hopen; simp at this
        · exfalso
          cases e1.symm.trans hr2
          simp [State.rightAt, hkk2, hcf, hnm] at hr
        · rw [hcf] at q3 q4
          have e3 : si' = si := by have := q3.symm.trans hcp; simpa using this
          subst e3
          have e4 : us' = units := by simpa [ConstantPool.utf8?, hu] using q4.symm
          subst e4
          have ea : a3 = a := by have := e1.symm.trans hr2; simpa using this
          subst ea
          exact q5
      have hpush : T2.vm.interned = T.vm.interned.push (units, a) := by
        rcases hint with e0 | ⟨u2, a2, -, e0⟩
        · rw [e0, hf] at hfind; cases hfind
        · rw [e0, ← Array.append_singleton, Array.find?_append, hf, Option.none_or] at hfind
          have hmem := Array.mem_of_find?_eq_some hfind
          have : (units, a) = (u2, a2) := by simpa using hmem
          rw [this]; exact e0
      have hge : h.size ≤ a := by
        have := (hS2.2 T.vm.interned.size (units, a) (by rw [e2v]; exact Nat.le_refl _) (by rw [hpush]; simp)).1
        rw [e2h, eT] at this; exact this
      obtain ⟨q, cS, rfl, S, hkS, hB, hb, hpos⟩ := hin
      have hal2 : Z.vm.Alike T2.vm := (State.Warmed39.trans hZ2 hS2.1).alike
      have SS := slStr hal2 hus ht S hkS hB hb
      have hpos' : h.size ≤ q.sd := by
        rcases hpos with ⟨x, -⟩ | ⟨-, y⟩
        · rw [e2h, eT] at x; exact absurd x (Nat.not_lt.mpr hge)
        · rw [eT] at y; exact y
      have E : Ext h T2.heap := ext_of fun b hb => by rw [← eT] at hb ⊢; exact hkeep b hb
      obtain ⟨u, o, r1, r⟩ := K T2.heap q.sa q.sd (Keep.ofExt E) SS (Or.inr (Or.inl ⟨hge, hpos'⟩)) T2 ⟨T2.vm, locs, T2.heap.size, X3.mono (by omega) (by omega), rfl, hS1.trans hS3 E.1, Nat.le_refl _, State.Warmed39.trans hZ2 hS2.1, (hS2.1.alike.findClass _ _).trans hown2, N, hO.ext E, fun lt' hlt' => by
        cases hlt'
        obtain ⟨more, em, hm⟩ := I1 lt rfl
        refine ⟨more.push (units, q.sa), by rw [hpush, em]; simp, fun pp hpp => ?_⟩
        rcases Array.mem_push.mp hpp with y | y
        · obtain ⟨t, h1, h2⟩ := hm pp y; exact ⟨t, List.mem_cons_of_mem _ h1, h2⟩
        · subst y; exact ⟨(text, q.sa), List.mem_cons_self .., htext, rfl⟩, kn⟩
      exact ⟨u, o, stp _ r1, r⟩
  · obtain ⟨b, S, hpos⟩ := held a (Or.inl hra)
    have Lt : Lit (s.setVm T.vm) own i a := by
      have : (s.setVm T.vm).vm.findClass own = some m.cls := hown1
      have k1 : T.vm.findClass own = some m.cls := hown1
      show State.resolvedAt? _ _ _ = _
      simp [State.resolvedAt?, k1, hkk', hra]
    obtain ⟨u, o, r1, r⟩ := K h a b (Keep.refl _ _) S (hpos.imp id Or.inr) T ⟨T.vm, locs, h.size, X1.mono (Nat.le_add_right _ _) (Nat.le_add_right _ _), eT, hS1, Nat.le_refl _, hZ1, hown1, N, hO, more1 a, kn⟩
    exact ⟨u, o, ldcAgain (s := s) (vm0 := T.vm) X1 F.1 hZ1 hown1 w Lt (g := mkF m pc L.toArray st) rfl hd u r1, r⟩
end Lit
end Jvm.Own
namespace Jvm.Own
open Sem ClassFile Op Lib Jvm.Stand Jvm.Free Jvm.LawKit Jvm.RoadKit
theorem decl_of {a : Array Value} {U : State} {y : MethodName} {by' : ByteArray} {ml' : Nat} {ret' : Option FieldType} (w : (Cond.instanceMethod y).before a U = true) (wc : (Cond.code y by' ml' ret').before a U = true) : (Cond.declares y).before a U = true := by
  obtain ⟨mk, meth, h1, h2, h3, h4⟩ := Cond.instanceMethod_spec w
  obtain ⟨m2, cM, q1, -, -, -, -, -, -, hsig⟩ := Cond.code_spec h1 wc
  cases h2.symm.trans q1
  simp [Cond.before, Cond.holds, Cond.value, h1, h2, h3, hsig]
theorem nf_cls {a : Array Value} {U : State} {x y : MethodName} {C : String} (wsel : (Cond.selects C x x).before a U = true) (wd : (Cond.declares x).before a U = true) (hc : x.cls = y.cls) : NotFace U y := fun r0 h0 => by
  obtain ⟨m, meth, hn, -⟩ := Cond.declares_spec wd
  obtain ⟨kr, h1, h2⟩ := notFace_of_selects wsel m hn
  have e1 := findClass_of_methodNamed hn
  have e2 := findClass_of_methodNamed h0
  rw [hc] at e1
  have e3 : m.cls = r0.cls := Option.some.inj (e1.symm.trans e2)
  rw [← e3]
  exact ⟨kr, h1, h2⟩
theorem same_own {a : Array Value} {U : State} {y : MethodName} (wd : (Cond.declares y).before a U = true) (nf : NotFace U y) (hy : (y.cls == "java/lang/invoke/MethodHandle" || y.cls == "java/lang/invoke/VarHandle") = false) : (Cond.sameMethod y.cls y.cls y.name y.desc).before a U = true := by
  obtain ⟨m, meth, hn, -⟩ := Cond.declares_spec wd
  obtain ⟨kr, h1, h2⟩ := nf m hn
  have hc := findClass_of_methodNamed hn
  have hf := State.methodFound?_of_named hn (hyOf hy)
  have hn' : U.methodNamed? ⟨y.cls, y.name, y.desc⟩ = some m := hn
  simp [Cond.before, Cond.holds, Cond.value, hc, hf, hn', h1, h2]
theorem stretch_eq {vs : List Value} {sp n : Nat} {dv : Value} (h : sp + n ≤ vs.length) : ((List.range n).map fun i => vs.getD (sp + i) dv) = (vs.drop sp).take n := by
  apply List.ext_getElem?
  intro i
  by_cases hi : i < n
  · rw [List.getElem?_map, List.getElem?_range hi, List.getElem?_take_of_lt hi, List.getElem?_drop, Option.map_some, List.getD_eq_getElem?_getD, List.getElem?_eq_getElem (show sp + i < vs.length by omega)]; rfl
  · rw [List.getElem?_eq_none (by simp; omega), List.getElem?_eq_none (by simp; omega)]
theorem Av.arv {Z : State} {h : Heap} {a : Nat} {ty : FieldType} {vs : List Value} (A : Av Z h a ty vs) (dv : Value) : ∃ k, Arv Z h a k ty (Int32.ofNat vs.length) vs dv := by
  obtain ⟨c, A, rfl, q, f⟩ := A
  have hs : c.slots.toList.length = c.slots.size := by simp
  rw [hs] at q ⊢
  refine ⟨c.cls, c, A, rfl, (i32_tn q).symm, i32_nn q, ?_, ?_⟩
  · intro i hi
    rw [List.getD_eq_getElem?_getD, Array.getElem?_toList, Array.getElem?_eq_getElem hi]; rfl
  · intro i hi
    rw [List.getD_eq_getElem?_getD, List.getElem?_eq_getElem (show i < c.slots.toList.length by rw [hs]; exact hi)]
    exact f _ (List.getElem_mem _)
theorem avOf {Z : State} {h : Heap} {a : Nat} {k : ClassId} {ty : FieldType} {z : Int32} {vs : List Value} {dv : Value} (A : Arv Z h a k ty z vs dv) (hl : vs.length = z.toNatClampNeg) : Av Z h a ty vs := by
  obtain ⟨c, A, -, q, q0, H, G⟩ := A
  have e : c.slots.toList = vs := by
    apply List.ext_getElem?
    intro i
    by_cases hi : i < c.slots.size
    · rw [Array.getElem?_toList, H i hi, List.getD_eq_getElem?_getD, List.getElem?_eq_getElem (show i < vs.length by omega)]; rfl
    · rw [List.getElem?_eq_none (by simp; omega), List.getElem?_eq_none (by omega)]
  refine ⟨c, A, e, ?_, ?_⟩
  · rw [hl]; have := z.toInt_lt; simp only [Int32.toNatClampNeg]; omega
  · intro v hv
    obtain ⟨i, hi, rfl⟩ := List.mem_iff_getElem.mp hv
    have := G i (by omega)
    rw [List.getD_eq_getElem?_getD, List.getElem?_eq_getElem hi] at this
    exact this
section Jdk
variable {Z : State} {n0 : Nat} {p : Program} {l : Launch} {e : Env} {R : Room} {s : State} {own : String} {m : MethodId} {args : Array Value} {below : List Frame} {meth : Method} {c : Code} {Q : Option Value → Heap → Lits → Prop} {h : Heap} {k n : Nat} {Ls : Lits} {pc nx : Nat} {L : List Slot} {st : List Value}
variable {bytes : ByteArray} {ml : Nat} {ret : Option FieldType} {nm : String} {a0 : Array Value}
/-- super.m(..) -/
theorem Run.callSuper (F : Fx p c meth bytes ml ret nm) {i : Nat} {y : MethodName} {K0 : String} {by' : ByteArray} {ml' : Nat} {ret' : Option FieldType} {rm : Room} {a : Nat} {as : List Value} {Qy : Option Value → Heap → Lits → Prop} {sig : MethodDescriptor}
    (wl : (Cond.methodLink own i y).before a0 Z = true) (wm : (Cond.sameMethod y.cls y.cls y.name y.desc).before a0 Z = true) (ws : (Cond.instanceMethod y).before a0 Z = true) (wu : (Cond.superclass own y.cls).before a0 Z = true) (wz : (Cond.initialized y.cls).before a0 Z = true) (wc : (Cond.code y by' ml' ret').before a0 Z = true) (E : Ins Z h a K0 true)
    (C : Con l Z n0 y by' ml' ret' rm (.ref a :: as) h Ls [] Qy) (hn : y.name ≠ "<init>") (hsig : parseMethodDescriptor y.desc = some sig) (hlen : as.length = sig.parameters.length) (hsz : L.length = ml)
    (hf : Nat.ble (rm.frames + 1) R.frames = true) (hl : Nat.ble ((st.map fun v => v.category).sum + (ml' + 11) + rm.locals) R.locals = true) (hc : k + rm.cells ≤ R.cells) (hs : n + rm.slots ≤ R.slots) {st0 : List Value} (hst : st0 = as.reverse ++ .ref a :: st) (d : Dc bytes pc (.invokespecial i) 3 nx)
    (K : ∀ v h' Ls', Qy v h' Ls' → Old Z n0 h' → h.size ≤ h'.size → Run Z n0 p l e R s own m args below meth c Q h' (k + rm.cells) (n + rm.slots) Ls' nx L (v.toList ++ st)) : Run Z n0 p l e R s own m args below meth c Q h k n Ls pc L st0 := fun T W => by
  have hd := hbD F d; obtain ⟨-, rfl⟩ := d
  obtain ⟨vm0, locs, k0, X, eT, hS, hk, hZ, hown, N, hO, I, kn⟩ := W
  subst hst
  obtain ⟨v, vm1, B, -, X', hS', hg, ⟨L1, Ls', q1, q2, q3, q4, q5, q6, q7⟩, st'⟩ := superBackS X F.1 hZ hown wl wm ws wu hn (C.back hZ I (kn.alike hS.1.alike) wc wz (Nat.le_of_ble_eq_true hf) (Nat.le_of_ble_eq_true hl)) eT E (g := mkF m pc L.toArray (as.reverse ++ .ref a :: st)) rfl (by show L.toArray.size = _; rw [F.2.2.1, ← hsz]; simp) wc (argsL := as) (rest := st) (lenOf hsig hlen) rfl (by show 2 * 0 + _ ≤ _; omega) hd (fun _ _ => ⟨rfl, eT, hc, hs⟩)
  dsimp only [Pt.U, Pt.locs, Pt.cells, Pt.slots] at X' hS' hg q1 q2 q3 q5 q6 q7 st'
  rw [q5, q6, q7] at X'
  rw [eT] at hg
  obtain ⟨u, o, r1, r⟩ := K v _ Ls' q1 q2 hg B.1 ⟨B.1.vm, _, _, X', rfl, hS.trans hS' (Nat.le_trans hk hg), Nat.le_refl _, State.Warmed39.trans hZ hS'.1, (hS'.1.alike.findClass _ _).trans hown, N.app q4, q2, q3, kn⟩
  exact ⟨u, o, st'.trans r1, r⟩
theorem Run.lookHit (F : Fx p c meth bytes ml ret nm) {x : Int32} {df : Int} {pairs : Array (Int × Int)} {ln t : Nat} {ky off : Int} (d : Dc bytes pc (.lookupswitch df pairs) ln nx) (hs : (pairs.toList.zip (pairs.toList.drop 1)).all (fun (a, next) => a.1 < next.1) = true) (hfind : pairs.find? (·.1 == x.toInt) = some (ky, off)) (ht : (pc : Int) + off = t)
    (K : Run Z n0 p l e R s own m args below meth c Q h k n Ls t L st) : Run Z n0 p l e R s own m args below meth c Q h k n Ls pc L (.int x :: st) := by
  have hd := hbD F d; obtain ⟨-, rfl⟩ := d
  have ht' : ((pc : Int) + off).toNat = t := by omega
  subst ht'
  exact Run.still (fun T vm0 locs X eT hZ hown u s => X.lookupswitchHit F.1 (g := mkF m pc L.toArray (.int x :: st)) rfl rfl hd hs hfind (by show 0 ≤ (pc : Int) + off; omega) u s) K
theorem Run.lookMiss (F : Fx p c meth bytes ml ret nm) {x : Int32} {df : Int} {pairs : Array (Int × Int)} {ln t : Nat} (d : Dc bytes pc (.lookupswitch df pairs) ln nx) (hs : (pairs.toList.zip (pairs.toList.drop 1)).all (fun (a, next) => a.1 < next.1) = true) (hfind : pairs.find? (·.1 == x.toInt) = none) (ht : (pc : Int) + df = t)
    (K : Run Z n0 p l e R s own m args below meth c Q h k n Ls t L st) : Run Z n0 p l e R s own m args below meth c Q h k n Ls pc L (.int x :: st) := by
  have hd := hbD F d; obtain ⟨-, rfl⟩ := d
  have ht' : ((pc : Int) + df).toNat = t := by omega
  subst ht'
  exact Run.still (fun T vm0 locs X eT hZ hown u s => X.lookupswitchMiss F.1 (g := mkF m pc L.toArray (.int x :: st)) rfl rfl hd hs hfind (by show 0 ≤ (pc : Int) + df; omega) u s) K
/-- System.arraycopy between arrays of one primitive kind -/
theorem Run.arraycopy (F : Fx p c meth bytes ml ret nm) {i : Nat} {a b : Nat} {ty : FieldType} {vs vd us : List Value} {sp dp nn : Nat} {x y z : Int32}
    (w1 : (Cond.methodLink own i Jvm.Stand.acN).before a0 Z = true) (w2 : (Cond.native Jvm.Stand.acN).before a0 Z = true) (w3 : (Cond.static Jvm.Stand.acN).before a0 Z = true) (w4 : (Cond.initialized "java/lang/System").before a0 Z = true)
    (A : Av Z h a ty vs) (B : Av Z h b ty vd) (hty : refKind ty = false) (g : n0 ≤ b) (hx : x.toInt = sp) (hy : y.toInt = dp) (hz : z.toInt = nn) (h4 : sp + nn ≤ vs.length) (h5 : dp + nn ≤ vd.length) (hus : (vs.drop sp).take nn = us) (hsz : L.length = ml)
    (hf : Nat.ble 1 R.frames = true) (hl : Nat.ble ((st.map fun v => v.category).sum + 18) R.locals = true) (d : Dc bytes pc (.invokestatic i) 3 nx)
    (K : ∀ h', Keep h h' [b] → Av Z h' b ty (vd.take dp ++ us ++ vd.drop (dp + nn)) → Run Z n0 p l e R s own m args below meth c Q h' k n Ls nx L st) : Run Z n0 p l e R s own m args below meth c Q h k n Ls pc L (.int z :: .int y :: .ref b :: .int x :: .ref a :: st) := fun T W => by
  have hd := hbD F d; obtain ⟨-, rfl⟩ := d
  obtain ⟨vm0, locs, k0, X, eT, hS, hk, hZ, hown, N, hO, I, kn⟩ := W
  have lA := A.len
  have lB := B.len
  obtain ⟨kA, A'⟩ := A.arv .null
  obtain ⟨kB, B'⟩ := B.arv .null
  have e1 := i32_nat hx
  have e2 := i32_nat hy
  have e3 := i32_nat hz
  have ew : nativeFrameWords "java/lang/System" "arraycopy" 5 = 7 := by first | decide | simp [nativeFrameWords]
  subst hus
  obtain ⟨T', h', L', X', e', N', K', B2, st'⟩ := cpA X F.1 hZ hown w1 w2 w3 w4 eT A' B' (us := (vs.drop sp).take nn) (Or.inl ⟨rfl, hty⟩) (sp := x) (dp := y) (nn := z) (i32_nneg (by omega)) (i32_nneg (by omega)) (i32_nneg (by omega)) (by rw [e1, e3, i32_tn lA]; exact h4) (by rw [e2, e3, i32_tn lB]; exact h5) (by rw [e1, e3]; exact (stretch_eq h4).symm) (by rw [e2, e3]; exact h5) N g (g := mkF m pc L.toArray (.int z :: .int y :: .ref b :: .int x :: .ref a :: st)) rfl (by show L.toArray.size = _; rw [F.2.2.1, ← hsz]; simp) (rest := st) rfl hd (Nat.le_of_ble_eq_true hf) (W := (st.map fun v => v.category).sum) (by show 2 * 0 + _ ≤ _; omega) (by rw [ew]; exact Nat.le_of_ble_eq_true hl)
  rw [e2, e3] at B2
  have B3 := avOf B2 (by rw [i32_tn lB]; simp; omega)
  obtain ⟨u, o, r1, r⟩ := K h' K' B3 T' ⟨vm0, L', k0, X', e', hS, Nat.le_trans hk K'.1, hZ, hown, N', hO.keep K' (allS g all0), I, kn⟩
  exact ⟨u, o, st' _ r1, r⟩
/-- array.clone() -/
theorem Run.clone (F : Fx p c meth bytes ml ret nm) {i : Nat} {ad : String} {a : Nat} {ty : FieldType} {vs : List Value}
    (w1 : (Cond.methodLink own i ⟨ad, "clone", "()Ljava/lang/Object;"⟩).before a0 Z = true) (w2 : (Cond.sameMethod ad "java/lang/Object" "clone" "()Ljava/lang/Object;").before a0 Z = true) (w3 : (Cond.native ⟨"java/lang/Object", "clone", "()Ljava/lang/Object;"⟩).before a0 Z = true) (w4 : (Cond.instanceMethod ⟨"java/lang/Object", "clone", "()Ljava/lang/Object;"⟩).before a0 Z = true) (w5 : (Cond.selects ad ⟨ad, "clone", "()Ljava/lang/Object;"⟩ ⟨"java/lang/Object", "clone", "()Ljava/lang/Object;"⟩).before a0 Z = true) (w6 : (Cond.castable ad "java/lang/Cloneable").before a0 Z = true)
    (A : Av Z h a ty vs) (E : Exa Z h a ad) (hsz : L.length = ml) (hf : Nat.ble 1 R.frames = true) (hl : Nat.ble ((st.map fun v => v.category).sum + 14) R.locals = true) (cap : Nat) (hcap : vs.length ≤ cap) (hc : k + 1 ≤ R.cells) (hs : n + cap ≤ R.slots) (d : Dc bytes pc (.invokevirtual i) 3 nx)
    (K : ∀ h' b, b = h.size → Keep h h' [] → Av Z h' b ty vs → Exa Z h' b ad → Run Z n0 p l e R s own m args below meth c Q h' (k + 1) (n + cap) Ls nx L (.ref b :: st)) : Run Z n0 p l e R s own m args below meth c Q h k n Ls pc L (.ref a :: st) := fun T W => by
  have hd := hbD F d; obtain ⟨-, rfl⟩ := d
  obtain ⟨vm0, locs, k0, X, eT, hS, hk, hZ, hown, N, hO, I, kn⟩ := W
  have lA := A.len
  obtain ⟨kA, A'⟩ := A.arv .null
  obtain ⟨T', h', X', e', E', A2, E2, st'⟩ := cloneH X F.1 hZ hown w1 w2 w3 w4 w5 w6 eT (Arv.arh A') E (g := mkF m pc L.toArray (.ref a :: st)) rfl (by show L.toArray.size = _; rw [F.2.2.1, ← hsz]; simp) (rest := st) rfl hd (Nat.le_of_ble_eq_true hf) (W := (st.map fun v => v.category).sum) (cap := cap) (by show 2 * 0 + _ ≤ _; omega) (Nat.le_of_ble_eq_true hl) (by rw [i32_tn lA]; exact hcap) hc hs
  have A3 : Av Z h' h.size ty vs := avOf (show Arv Z h' h.size kA ty _ vs .null from A2) (by rw [i32_tn lA])
  obtain ⟨u, o, r1, r⟩ := K h' h.size rfl (Keep.ofExt E') A3 E2 T' ⟨vm0, locs, k0, X', e', hS, Nat.le_trans hk E'.1, hZ, hown, N, hO.ext E', I, kn⟩
  exact ⟨u, o, st' _ r1, r⟩
/-- newarray, with the name of the array's class -/
theorem Run.newarrayE (F : Fx p c meth bytes ml ret nm) {aty : ArrayType} {z : Int32} {len : Nat} {ad : String} (w : (Cond.arrayClass (newarray.typeOf aty)).before a0 Z = true) (had : "[" ++ (newarray.typeOf aty).toString = ad) (hz : ¬ z < 0) (hlen : z.toNatClampNeg = len) (cap : Nat) (hcap : len ≤ cap) (hb : Nat.ble (cap * 8) 536870912 = true) (hc : k + 1 ≤ R.cells) (hl : n + cap ≤ R.slots) (d : Dc bytes pc (.newarray aty) 2 nx)
    (K : ∀ h' a, a = h.size → Keep h h' [] → a < h'.size → Av Z h' a (newarray.typeOf aty) (List.replicate len (defaultValue (newarray.typeOf aty))) → Exa Z h' a ad → Run Z n0 p l e R s own m args below meth c Q h' (k + 1) (n + cap) Ls nx L (.ref a :: st)) : Run Z n0 p l e R s own m args below meth c Q h k n Ls pc L (.int z :: st) := fun T W => by
  have hd := hbD F d; obtain ⟨-, rfl⟩ := d
  obtain ⟨vm0, locs, k0, X, eT, hS, hk, hZ, hown, N, hO, I, kn⟩ := W
  subst hlen
  obtain ⟨T', h', cA, X', e', E', A', E2, st'⟩ := newPE X F.1 hZ w eT (g := mkF m pc L.toArray (.int z :: st)) rfl hd rfl hz hcap (Nat.le_of_ble_eq_true hb) hc hl had
  obtain ⟨u, o, r1, r⟩ := K h' h.size rfl (Keep.ofExt E') A'.lt ⟨_, A', by simp [newA], by simpa using (back32 hz).2, fun v hv => by rw [List.eq_of_mem_replicate hv]; cases aty <;> rfl⟩ E2 T' ⟨vm0, locs, k0, X', e', hS, Nat.le_trans hk E'.1, hZ, hown, N, hO.ext E', I, kn⟩
  exact ⟨u, o, st' _ r1, r⟩
end Jdk
end Jvm.Own
namespace Jvm.Pilot.@@N@@
open Jvm Jvm.ClassFile Sem Op Lib Jvm.Free Jvm.Stand Jvm.LawKit Jvm.RoadKit Bundle Jvm.Own Jvm.Pilot.@@N@@.Jvm.D
theorem pn0 : plainName "java/lang/String" = true := by first | (simp [plainName, overriddenIn]; done) | decide +kernel
theorem pn1 : plainName "jdk/internal/util/Preconditions" = true := by first | (simp [plainName, overriddenIn]; done) | decide +kernel
theorem pn2 : plainName "java/lang/StringLatin1" = true := by first | (simp [plainName, overriddenIn]; done) | decide +kernel
theorem pn3 : plainName "java/lang/StringUTF16" = true := by first | (simp [plainName, overriddenIn]; done) | decide +kernel
theorem pn4 : plainName "com/example/error_catalog/errorcatalog/render/JsonApiResponse" = true := by first | (simp [plainName, overriddenIn]; done) | decide +kernel
theorem pn5 : plainName "com/example/error_catalog/errorcatalog/render/JsonApiResponseIsMemberNamePinLaw" = true := by first | (simp [plainName, overriddenIn]; done) | decide +kernel
theorem pd0 : parseMethodDescriptor "()B" = some ⟨[], some .byte⟩ := by decide +kernel
theorem pd1 : parseMethodDescriptor "(IILjava/util/function/BiFunction;)I" = some ⟨[.int, .int, (.object "java/util/function/BiFunction")], some .int⟩ := by decide +kernel
theorem pd2 : parseMethodDescriptor "(II)V" = some ⟨[.int, .int], none⟩ := by decide +kernel
theorem pd3 : parseMethodDescriptor "([BI)C" = some ⟨[(.array .byte), .int], some .char⟩ := by decide +kernel
theorem pd4 : parseMethodDescriptor "()Z" = some ⟨[], some .boolean⟩ := by decide +kernel
theorem pd5 : parseMethodDescriptor "([CI[BII)I" = some ⟨[(.array .char), .int, (.array .byte), .int, .int], some .int⟩ := by decide +kernel
theorem pd6 : parseMethodDescriptor "([CII)[B" = some ⟨[(.array .char), .int, .int], some (.array .byte)⟩ := by decide +kernel
theorem pd7 : parseMethodDescriptor "([BI)B" = some ⟨[(.array .byte), .int], some .byte⟩ := by decide +kernel
theorem pd8 : parseMethodDescriptor "([CIILjava/lang/Void;)V" = some ⟨[(.array .char), .int, .int, (.object "java/lang/Void")], none⟩ := by decide +kernel
theorem pd9 : parseMethodDescriptor "(C)Z" = some ⟨[.char], some .boolean⟩ := by decide +kernel
theorem pd10 : parseMethodDescriptor "()I" = some ⟨[], some .int⟩ := by decide +kernel
theorem pd11 : parseMethodDescriptor "(I)C" = some ⟨[.int], some .char⟩ := by decide +kernel
theorem pd12 : parseMethodDescriptor "([C)V" = some ⟨[(.array .char)], none⟩ := by decide +kernel
theorem pd13 : parseMethodDescriptor "(Ljava/lang/String;)Z" = some ⟨[(.object "java/lang/String")], some .boolean⟩ := by decide +kernel
theorem d6_0 : Dc jdk_42_method_152_code 0 (.getstatic 38) 3 3 := ⟨by decide +kernel, rfl⟩
theorem d6_3 : Dc jdk_42_method_152_code 3 (.ifCond .eq 10) 3 6 := ⟨by decide +kernel, rfl⟩
theorem d6_6 : Dc jdk_42_method_152_code 6 (.aload_n 0) 1 7 := ⟨by decide +kernel, rfl⟩
theorem d6_7 : Dc jdk_42_method_152_code 7 (.getfield 15) 3 10 := ⟨by decide +kernel, rfl⟩
theorem d6_10 : Dc jdk_42_method_152_code 10 (.goto 4) 3 13 := ⟨by decide +kernel, rfl⟩
theorem d6_13 : Dc jdk_42_method_152_code 13 (.iconst 1) 1 14 := ⟨by decide +kernel, rfl⟩
theorem d6_14 : Dc jdk_42_method_152_code 14 (.ireturn) 1 15 := ⟨by decide +kernel, rfl⟩
theorem d5_0 : Dc jdk_42_method_54_code 0 (.aload_n 0) 1 1 := ⟨by decide +kernel, rfl⟩
theorem d5_1 : Dc jdk_42_method_54_code 1 (.getfield 9) 3 4 := ⟨by decide +kernel, rfl⟩
theorem d5_4 : Dc jdk_42_method_54_code 4 (.arraylength) 1 5 := ⟨by decide +kernel, rfl⟩
theorem d5_5 : Dc jdk_42_method_54_code 5 (.aload_n 0) 1 6 := ⟨by decide +kernel, rfl⟩
theorem d5_6 : Dc jdk_42_method_54_code 6 (.invokevirtual 335) 3 9 := ⟨by decide +kernel, rfl⟩
theorem d5_9 : Dc jdk_42_method_54_code 9 (.ishr) 1 10 := ⟨by decide +kernel, rfl⟩
theorem d5_10 : Dc jdk_42_method_54_code 10 (.ireturn) 1 11 := ⟨by decide +kernel, rfl⟩
theorem d12_0 : Dc jdk_42_method_154_code 0 (.getstatic 38) 3 3 := ⟨by decide +kernel, rfl⟩
theorem d12_3 : Dc jdk_42_method_154_code 3 (.ifCond .eq 14) 3 6 := ⟨by decide +kernel, rfl⟩
theorem d12_6 : Dc jdk_42_method_154_code 6 (.aload_n 0) 1 7 := ⟨by decide +kernel, rfl⟩
theorem d12_7 : Dc jdk_42_method_154_code 7 (.getfield 15) 3 10 := ⟨by decide +kernel, rfl⟩
theorem d12_10 : Dc jdk_42_method_154_code 10 (.ifCond .ne 7) 3 13 := ⟨by decide +kernel, rfl⟩
theorem d12_13 : Dc jdk_42_method_154_code 13 (.iconst 1) 1 14 := ⟨by decide +kernel, rfl⟩
theorem d12_14 : Dc jdk_42_method_154_code 14 (.goto 4) 3 17 := ⟨by decide +kernel, rfl⟩
theorem d12_17 : Dc jdk_42_method_154_code 17 (.iconst 0) 1 18 := ⟨by decide +kernel, rfl⟩
theorem d12_18 : Dc jdk_42_method_154_code 18 (.ireturn) 1 19 := ⟨by decide +kernel, rfl⟩
theorem d15_0 : Dc jdk_41_method_11_code 0 (.iload_n 0) 1 1 := ⟨by decide +kernel, rfl⟩
theorem d15_1 : Dc jdk_41_method_11_code 1 (.ifCond .lt 8) 3 4 := ⟨by decide +kernel, rfl⟩
theorem d15_4 : Dc jdk_41_method_11_code 4 (.iload_n 0) 1 5 := ⟨by decide +kernel, rfl⟩
theorem d15_5 : Dc jdk_41_method_11_code 5 (.iload_n 1) 1 6 := ⟨by decide +kernel, rfl⟩
theorem d15_6 : Dc jdk_41_method_11_code 6 (.if_icmp .lt 10) 3 9 := ⟨by decide +kernel, rfl⟩
theorem d15_9 : Dc jdk_41_method_11_code 9 (.aload_n 2) 1 10 := ⟨by decide +kernel, rfl⟩
theorem d15_10 : Dc jdk_41_method_11_code 10 (.iload_n 0) 1 11 := ⟨by decide +kernel, rfl⟩
theorem d15_11 : Dc jdk_41_method_11_code 11 (.iload_n 1) 1 12 := ⟨by decide +kernel, rfl⟩
theorem d15_12 : Dc jdk_41_method_11_code 12 (.invokestatic 95) 3 15 := ⟨by decide +kernel, rfl⟩
theorem d15_15 : Dc jdk_41_method_11_code 15 (.athrow) 1 16 := ⟨by decide +kernel, rfl⟩
theorem d15_16 : Dc jdk_41_method_11_code 16 (.iload_n 0) 1 17 := ⟨by decide +kernel, rfl⟩
theorem d15_17 : Dc jdk_41_method_11_code 17 (.ireturn) 1 18 := ⟨by decide +kernel, rfl⟩
theorem d14_0 : Dc jdk_42_method_155_code 0 (.iload_n 0) 1 1 := ⟨by decide +kernel, rfl⟩
theorem d14_1 : Dc jdk_42_method_155_code 1 (.iload_n 1) 1 2 := ⟨by decide +kernel, rfl⟩
theorem d14_2 : Dc jdk_42_method_155_code 2 (.getstatic 1053) 3 5 := ⟨by decide +kernel, rfl⟩
theorem d14_5 : Dc jdk_42_method_155_code 5 (.invokestatic 1059) 3 8 := ⟨by decide +kernel, rfl⟩
theorem d14_8 : Dc jdk_42_method_155_code 8 (.pop) 1 9 := ⟨by decide +kernel, rfl⟩
theorem d14_9 : Dc jdk_42_method_155_code 9 (.return_) 1 10 := ⟨by decide +kernel, rfl⟩
theorem d13_0 : Dc jdk_43_method_2_code 0 (.iload_n 1) 1 1 := ⟨by decide +kernel, rfl⟩
theorem d13_1 : Dc jdk_43_method_2_code 1 (.aload_n 0) 1 2 := ⟨by decide +kernel, rfl⟩
theorem d13_2 : Dc jdk_43_method_2_code 2 (.arraylength) 1 3 := ⟨by decide +kernel, rfl⟩
theorem d13_3 : Dc jdk_43_method_2_code 3 (.invokestatic 9) 3 6 := ⟨by decide +kernel, rfl⟩
theorem d13_6 : Dc jdk_43_method_2_code 6 (.aload_n 0) 1 7 := ⟨by decide +kernel, rfl⟩
theorem d13_7 : Dc jdk_43_method_2_code 7 (.iload_n 1) 1 8 := ⟨by decide +kernel, rfl⟩
theorem d13_8 : Dc jdk_43_method_2_code 8 (.baload) 1 9 := ⟨by decide +kernel, rfl⟩
theorem d13_9 : Dc jdk_43_method_2_code 9 (.sipush 255) 3 12 := ⟨by decide +kernel, rfl⟩
theorem d13_12 : Dc jdk_43_method_2_code 12 (.iand) 1 13 := ⟨by decide +kernel, rfl⟩
theorem d13_13 : Dc jdk_43_method_2_code 13 (.i2c) 1 14 := ⟨by decide +kernel, rfl⟩
theorem d13_14 : Dc jdk_43_method_2_code 14 (.ireturn) 1 15 := ⟨by decide +kernel, rfl⟩
theorem d11_0 : Dc jdk_42_method_56_code 0 (.aload_n 0) 1 1 := ⟨by decide +kernel, rfl⟩
theorem d11_1 : Dc jdk_42_method_56_code 1 (.invokevirtual 492) 3 4 := ⟨by decide +kernel, rfl⟩
theorem d11_4 : Dc jdk_42_method_56_code 4 (.ifCond .eq 12) 3 7 := ⟨by decide +kernel, rfl⟩
theorem d11_7 : Dc jdk_42_method_56_code 7 (.aload_n 0) 1 8 := ⟨by decide +kernel, rfl⟩
theorem d11_8 : Dc jdk_42_method_56_code 8 (.getfield 9) 3 11 := ⟨by decide +kernel, rfl⟩
theorem d11_11 : Dc jdk_42_method_56_code 11 (.iload_n 1) 1 12 := ⟨by decide +kernel, rfl⟩
theorem d11_12 : Dc jdk_42_method_56_code 12 (.invokestatic 495) 3 15 := ⟨by decide +kernel, rfl⟩
theorem d11_15 : Dc jdk_42_method_56_code 15 (.ireturn) 1 16 := ⟨by decide +kernel, rfl⟩
theorem d11_16 : Dc jdk_42_method_56_code 16 (.aload_n 0) 1 17 := ⟨by decide +kernel, rfl⟩
theorem d11_17 : Dc jdk_42_method_56_code 17 (.getfield 9) 3 20 := ⟨by decide +kernel, rfl⟩
theorem d11_20 : Dc jdk_42_method_56_code 20 (.iload_n 1) 1 21 := ⟨by decide +kernel, rfl⟩
theorem d11_21 : Dc jdk_42_method_56_code 21 (.invokestatic 498) 3 24 := ⟨by decide +kernel, rfl⟩
theorem d11_24 : Dc jdk_42_method_56_code 24 (.ireturn) 1 25 := ⟨by decide +kernel, rfl⟩
theorem d8_0 : Dc jdk_52_method_21_code 0 (.iconst 0) 1 1 := ⟨by decide +kernel, rfl⟩
theorem d8_1 : Dc jdk_52_method_21_code 1 (.istore 5) 2 3 := ⟨by decide +kernel, rfl⟩
theorem d8_3 : Dc jdk_52_method_21_code 3 (.iload 5) 2 5 := ⟨by decide +kernel, rfl⟩
theorem d8_5 : Dc jdk_52_method_21_code 5 (.iload 4) 2 7 := ⟨by decide +kernel, rfl⟩
theorem d8_7 : Dc jdk_52_method_21_code 7 (.if_icmp .ge 37) 3 10 := ⟨by decide +kernel, rfl⟩
theorem d8_10 : Dc jdk_52_method_21_code 10 (.aload_n 0) 1 11 := ⟨by decide +kernel, rfl⟩
theorem d8_11 : Dc jdk_52_method_21_code 11 (.iload_n 1) 1 12 := ⟨by decide +kernel, rfl⟩
theorem d8_12 : Dc jdk_52_method_21_code 12 (.caload) 1 13 := ⟨by decide +kernel, rfl⟩
theorem d8_13 : Dc jdk_52_method_21_code 13 (.istore 6) 2 15 := ⟨by decide +kernel, rfl⟩
theorem d8_15 : Dc jdk_52_method_21_code 15 (.iload 6) 2 17 := ⟨by decide +kernel, rfl⟩
theorem d8_17 : Dc jdk_52_method_21_code 17 (.sipush 255) 3 20 := ⟨by decide +kernel, rfl⟩
theorem d8_20 : Dc jdk_52_method_21_code 20 (.if_icmp .le 6) 3 23 := ⟨by decide +kernel, rfl⟩
theorem d8_23 : Dc jdk_52_method_21_code 23 (.iload 5) 2 25 := ⟨by decide +kernel, rfl⟩
theorem d8_25 : Dc jdk_52_method_21_code 25 (.ireturn) 1 26 := ⟨by decide +kernel, rfl⟩
theorem d8_26 : Dc jdk_52_method_21_code 26 (.aload_n 2) 1 27 := ⟨by decide +kernel, rfl⟩
theorem d8_27 : Dc jdk_52_method_21_code 27 (.iload_n 3) 1 28 := ⟨by decide +kernel, rfl⟩
theorem d8_28 : Dc jdk_52_method_21_code 28 (.iload 6) 2 30 := ⟨by decide +kernel, rfl⟩
theorem d8_30 : Dc jdk_52_method_21_code 30 (.i2b) 1 31 := ⟨by decide +kernel, rfl⟩
theorem d8_31 : Dc jdk_52_method_21_code 31 (.bastore) 1 32 := ⟨by decide +kernel, rfl⟩
theorem d8_32 : Dc jdk_52_method_21_code 32 (.iinc 1 1) 3 35 := ⟨by decide +kernel, rfl⟩
theorem d8_35 : Dc jdk_52_method_21_code 35 (.iinc 3 1) 3 38 := ⟨by decide +kernel, rfl⟩
theorem d8_38 : Dc jdk_52_method_21_code 38 (.iinc 5 1) 3 41 := ⟨by decide +kernel, rfl⟩
theorem d8_41 : Dc jdk_52_method_21_code 41 (.goto (-38)) 3 44 := ⟨by decide +kernel, rfl⟩
theorem d8_44 : Dc jdk_52_method_21_code 44 (.iload 4) 2 46 := ⟨by decide +kernel, rfl⟩
theorem d8_46 : Dc jdk_52_method_21_code 46 (.ireturn) 1 47 := ⟨by decide +kernel, rfl⟩
theorem d7_0 : Dc jdk_52_method_16_code 0 (.iload_n 2) 1 1 := ⟨by decide +kernel, rfl⟩
theorem d7_1 : Dc jdk_52_method_16_code 1 (.newarray .byte) 2 3 := ⟨by decide +kernel, rfl⟩
theorem d7_3 : Dc jdk_52_method_16_code 3 (.astore_n 3) 1 4 := ⟨by decide +kernel, rfl⟩
theorem d7_4 : Dc jdk_52_method_16_code 4 (.aload_n 0) 1 5 := ⟨by decide +kernel, rfl⟩
theorem d7_5 : Dc jdk_52_method_16_code 5 (.iload_n 1) 1 6 := ⟨by decide +kernel, rfl⟩
theorem d7_6 : Dc jdk_52_method_16_code 6 (.aload_n 3) 1 7 := ⟨by decide +kernel, rfl⟩
theorem d7_7 : Dc jdk_52_method_16_code 7 (.iconst 0) 1 8 := ⟨by decide +kernel, rfl⟩
theorem d7_8 : Dc jdk_52_method_16_code 8 (.iload_n 2) 1 9 := ⟨by decide +kernel, rfl⟩
theorem d7_9 : Dc jdk_52_method_16_code 9 (.invokestatic 115) 3 12 := ⟨by decide +kernel, rfl⟩
theorem d7_12 : Dc jdk_52_method_16_code 12 (.istore 4) 2 14 := ⟨by decide +kernel, rfl⟩
theorem d7_14 : Dc jdk_52_method_16_code 14 (.iload 4) 2 16 := ⟨by decide +kernel, rfl⟩
theorem d7_16 : Dc jdk_52_method_16_code 16 (.iload_n 2) 1 17 := ⟨by decide +kernel, rfl⟩
theorem d7_17 : Dc jdk_52_method_16_code 17 (.if_icmp .eq 40) 3 20 := ⟨by decide +kernel, rfl⟩
theorem d7_20 : Dc jdk_52_method_16_code 20 (.aload_n 0) 1 21 := ⟨by decide +kernel, rfl⟩
theorem d7_21 : Dc jdk_52_method_16_code 21 (.iload_n 1) 1 22 := ⟨by decide +kernel, rfl⟩
theorem d7_22 : Dc jdk_52_method_16_code 22 (.iload_n 2) 1 23 := ⟨by decide +kernel, rfl⟩
theorem d7_23 : Dc jdk_52_method_16_code 23 (.invokestatic 119) 3 26 := ⟨by decide +kernel, rfl⟩
theorem d7_26 : Dc jdk_52_method_16_code 26 (.astore 5) 2 28 := ⟨by decide +kernel, rfl⟩
theorem d7_28 : Dc jdk_52_method_16_code 28 (.aload 5) 2 30 := ⟨by decide +kernel, rfl⟩
theorem d7_30 : Dc jdk_52_method_16_code 30 (.iload 4) 2 32 := ⟨by decide +kernel, rfl⟩
theorem d7_32 : Dc jdk_52_method_16_code 32 (.invokestatic 71) 3 35 := ⟨by decide +kernel, rfl⟩
theorem d7_35 : Dc jdk_52_method_16_code 35 (.sipush 255) 3 38 := ⟨by decide +kernel, rfl⟩
theorem d7_38 : Dc jdk_52_method_16_code 38 (.if_icmp .gt 16) 3 41 := ⟨by decide +kernel, rfl⟩
theorem d7_41 : Dc jdk_52_method_16_code 41 (.aload 5) 2 43 := ⟨by decide +kernel, rfl⟩
theorem d7_43 : Dc jdk_52_method_16_code 43 (.iconst 0) 1 44 := ⟨by decide +kernel, rfl⟩
theorem d7_44 : Dc jdk_52_method_16_code 44 (.aload_n 3) 1 45 := ⟨by decide +kernel, rfl⟩
theorem d7_45 : Dc jdk_52_method_16_code 45 (.iconst 0) 1 46 := ⟨by decide +kernel, rfl⟩
theorem d7_46 : Dc jdk_52_method_16_code 46 (.iload_n 2) 1 47 := ⟨by decide +kernel, rfl⟩
theorem d7_47 : Dc jdk_52_method_16_code 47 (.invokestatic 123) 3 50 := ⟨by decide +kernel, rfl⟩
theorem d7_50 : Dc jdk_52_method_16_code 50 (.iload_n 2) 1 51 := ⟨by decide +kernel, rfl⟩
theorem d7_51 : Dc jdk_52_method_16_code 51 (.if_icmp .eq 6) 3 54 := ⟨by decide +kernel, rfl⟩
theorem d7_54 : Dc jdk_52_method_16_code 54 (.aload 5) 2 56 := ⟨by decide +kernel, rfl⟩
theorem d7_56 : Dc jdk_52_method_16_code 56 (.areturn) 1 57 := ⟨by decide +kernel, rfl⟩
theorem d7_57 : Dc jdk_52_method_16_code 57 (.aload_n 3) 1 58 := ⟨by decide +kernel, rfl⟩
theorem d7_58 : Dc jdk_52_method_16_code 58 (.areturn) 1 59 := ⟨by decide +kernel, rfl⟩
theorem d9_0 : Dc jdk_52_method_15_code 0 (.iload_n 1) 1 1 := ⟨by decide +kernel, rfl⟩
theorem d9_1 : Dc jdk_52_method_15_code 1 (.aload_n 0) 1 2 := ⟨by decide +kernel, rfl⟩
theorem d9_2 : Dc jdk_52_method_15_code 2 (.arraylength) 1 3 := ⟨by decide +kernel, rfl⟩
theorem d9_3 : Dc jdk_52_method_15_code 3 (.isub) 1 4 := ⟨by decide +kernel, rfl⟩
theorem d9_4 : Dc jdk_52_method_15_code 4 (.bipush 31) 2 6 := ⟨by decide +kernel, rfl⟩
theorem d9_6 : Dc jdk_52_method_15_code 6 (.iushr) 1 7 := ⟨by decide +kernel, rfl⟩
theorem d9_7 : Dc jdk_52_method_15_code 7 (.i2b) 1 8 := ⟨by decide +kernel, rfl⟩
theorem d9_8 : Dc jdk_52_method_15_code 8 (.ireturn) 1 9 := ⟨by decide +kernel, rfl⟩
theorem d2_0 : Dc jdk_42_method_149_code 0 (.aload_n 0) 1 1 := ⟨by decide +kernel, rfl⟩
theorem d2_1 : Dc jdk_42_method_149_code 1 (.invokespecial 1) 3 4 := ⟨by decide +kernel, rfl⟩
theorem d2_4 : Dc jdk_42_method_149_code 4 (.iload_n 3) 1 5 := ⟨by decide +kernel, rfl⟩
theorem d2_5 : Dc jdk_42_method_149_code 5 (.ifCond .ne 22) 3 8 := ⟨by decide +kernel, rfl⟩
theorem d2_8 : Dc jdk_42_method_149_code 8 (.aload_n 0) 1 9 := ⟨by decide +kernel, rfl⟩
theorem d2_9 : Dc jdk_42_method_149_code 9 (.ldc 7) 2 11 := ⟨by decide +kernel, rfl⟩
theorem d2_11 : Dc jdk_42_method_149_code 11 (.getfield 9) 3 14 := ⟨by decide +kernel, rfl⟩
theorem d2_14 : Dc jdk_42_method_149_code 14 (.putfield 9) 3 17 := ⟨by decide +kernel, rfl⟩
theorem d2_17 : Dc jdk_42_method_149_code 17 (.aload_n 0) 1 18 := ⟨by decide +kernel, rfl⟩
theorem d2_18 : Dc jdk_42_method_149_code 18 (.ldc 7) 2 20 := ⟨by decide +kernel, rfl⟩
theorem d2_20 : Dc jdk_42_method_149_code 20 (.getfield 15) 3 23 := ⟨by decide +kernel, rfl⟩
theorem d2_23 : Dc jdk_42_method_149_code 23 (.putfield 15) 3 26 := ⟨by decide +kernel, rfl⟩
theorem d2_26 : Dc jdk_42_method_149_code 26 (.return_) 1 27 := ⟨by decide +kernel, rfl⟩
theorem d2_27 : Dc jdk_42_method_149_code 27 (.getstatic 38) 3 30 := ⟨by decide +kernel, rfl⟩
theorem d2_30 : Dc jdk_42_method_149_code 30 (.ifCond .eq 28) 3 33 := ⟨by decide +kernel, rfl⟩
theorem d2_33 : Dc jdk_42_method_149_code 33 (.aload_n 1) 1 34 := ⟨by decide +kernel, rfl⟩
theorem d2_34 : Dc jdk_42_method_149_code 34 (.iload_n 2) 1 35 := ⟨by decide +kernel, rfl⟩
theorem d2_35 : Dc jdk_42_method_149_code 35 (.iload_n 3) 1 36 := ⟨by decide +kernel, rfl⟩
theorem d2_36 : Dc jdk_42_method_149_code 36 (.invokestatic 177) 3 39 := ⟨by decide +kernel, rfl⟩
theorem d2_39 : Dc jdk_42_method_149_code 39 (.astore 5) 2 41 := ⟨by decide +kernel, rfl⟩
theorem d2_41 : Dc jdk_42_method_149_code 41 (.aload_n 0) 1 42 := ⟨by decide +kernel, rfl⟩
theorem d2_42 : Dc jdk_42_method_149_code 42 (.aload 5) 2 44 := ⟨by decide +kernel, rfl⟩
theorem d2_44 : Dc jdk_42_method_149_code 44 (.iload_n 3) 1 45 := ⟨by decide +kernel, rfl⟩
theorem d2_45 : Dc jdk_42_method_149_code 45 (.invokestatic 47) 3 48 := ⟨by decide +kernel, rfl⟩
theorem d2_48 : Dc jdk_42_method_149_code 48 (.putfield 15) 3 51 := ⟨by decide +kernel, rfl⟩
theorem d2_51 : Dc jdk_42_method_149_code 51 (.aload_n 0) 1 52 := ⟨by decide +kernel, rfl⟩
theorem d2_52 : Dc jdk_42_method_149_code 52 (.aload 5) 2 54 := ⟨by decide +kernel, rfl⟩
theorem d2_54 : Dc jdk_42_method_149_code 54 (.putfield 9) 3 57 := ⟨by decide +kernel, rfl⟩
theorem d2_57 : Dc jdk_42_method_149_code 57 (.return_) 1 58 := ⟨by decide +kernel, rfl⟩
theorem d2_58 : Dc jdk_42_method_149_code 58 (.aload_n 0) 1 59 := ⟨by decide +kernel, rfl⟩
theorem d2_59 : Dc jdk_42_method_149_code 59 (.iconst 1) 1 60 := ⟨by decide +kernel, rfl⟩
theorem d2_60 : Dc jdk_42_method_149_code 60 (.putfield 15) 3 63 := ⟨by decide +kernel, rfl⟩
theorem d2_63 : Dc jdk_42_method_149_code 63 (.aload_n 0) 1 64 := ⟨by decide +kernel, rfl⟩
theorem d2_64 : Dc jdk_42_method_149_code 64 (.aload_n 1) 1 65 := ⟨by decide +kernel, rfl⟩
theorem d2_65 : Dc jdk_42_method_149_code 65 (.iload_n 2) 1 66 := ⟨by decide +kernel, rfl⟩
theorem d2_66 : Dc jdk_42_method_149_code 66 (.iload_n 3) 1 67 := ⟨by decide +kernel, rfl⟩
theorem d2_67 : Dc jdk_42_method_149_code 67 (.invokestatic 180) 3 70 := ⟨by decide +kernel, rfl⟩
theorem d2_70 : Dc jdk_42_method_149_code 70 (.putfield 9) 3 73 := ⟨by decide +kernel, rfl⟩
theorem d2_73 : Dc jdk_42_method_149_code 73 (.return_) 1 74 := ⟨by decide +kernel, rfl⟩
theorem d1_0 : Dc jdk_42_method_3_code 0 (.aload_n 0) 1 1 := ⟨by decide +kernel, rfl⟩
theorem d1_1 : Dc jdk_42_method_3_code 1 (.aload_n 1) 1 2 := ⟨by decide +kernel, rfl⟩
theorem d1_2 : Dc jdk_42_method_3_code 2 (.iconst 0) 1 3 := ⟨by decide +kernel, rfl⟩
theorem d1_3 : Dc jdk_42_method_3_code 3 (.aload_n 1) 1 4 := ⟨by decide +kernel, rfl⟩
theorem d1_4 : Dc jdk_42_method_3_code 4 (.arraylength) 1 5 := ⟨by decide +kernel, rfl⟩
theorem d1_5 : Dc jdk_42_method_3_code 5 (.aconst_null) 1 6 := ⟨by decide +kernel, rfl⟩
theorem d1_6 : Dc jdk_42_method_3_code 6 (.invokespecial 27) 3 9 := ⟨by decide +kernel, rfl⟩
theorem d1_9 : Dc jdk_42_method_3_code 9 (.return_) 1 10 := ⟨by decide +kernel, rfl⟩
theorem d16_0 : Dc prog_50_method_8_code 0 (.iload_n 0) 1 1 := ⟨by decide +kernel, rfl⟩
theorem d16_1 : Dc prog_50_method_8_code 1 (.bipush 65) 2 3 := ⟨by decide +kernel, rfl⟩
theorem d16_3 : Dc prog_50_method_8_code 3 (.if_icmp .lt 9) 3 6 := ⟨by decide +kernel, rfl⟩
theorem d16_6 : Dc prog_50_method_8_code 6 (.iload_n 0) 1 7 := ⟨by decide +kernel, rfl⟩
theorem d16_7 : Dc prog_50_method_8_code 7 (.bipush 90) 2 9 := ⟨by decide +kernel, rfl⟩
theorem d16_9 : Dc prog_50_method_8_code 9 (.if_icmp .le 27) 3 12 := ⟨by decide +kernel, rfl⟩
theorem d16_12 : Dc prog_50_method_8_code 12 (.iload_n 0) 1 13 := ⟨by decide +kernel, rfl⟩
theorem d16_13 : Dc prog_50_method_8_code 13 (.bipush 97) 2 15 := ⟨by decide +kernel, rfl⟩
theorem d16_15 : Dc prog_50_method_8_code 15 (.if_icmp .lt 9) 3 18 := ⟨by decide +kernel, rfl⟩
theorem d16_18 : Dc prog_50_method_8_code 18 (.iload_n 0) 1 19 := ⟨by decide +kernel, rfl⟩
theorem d16_19 : Dc prog_50_method_8_code 19 (.bipush 122) 2 21 := ⟨by decide +kernel, rfl⟩
theorem d16_21 : Dc prog_50_method_8_code 21 (.if_icmp .le 15) 3 24 := ⟨by decide +kernel, rfl⟩
theorem d16_24 : Dc prog_50_method_8_code 24 (.iload_n 0) 1 25 := ⟨by decide +kernel, rfl⟩
theorem d16_25 : Dc prog_50_method_8_code 25 (.bipush 48) 2 27 := ⟨by decide +kernel, rfl⟩
theorem d16_27 : Dc prog_50_method_8_code 27 (.if_icmp .lt 13) 3 30 := ⟨by decide +kernel, rfl⟩
theorem d16_30 : Dc prog_50_method_8_code 30 (.iload_n 0) 1 31 := ⟨by decide +kernel, rfl⟩
theorem d16_31 : Dc prog_50_method_8_code 31 (.bipush 57) 2 33 := ⟨by decide +kernel, rfl⟩
theorem d16_33 : Dc prog_50_method_8_code 33 (.if_icmp .gt 7) 3 36 := ⟨by decide +kernel, rfl⟩
theorem d16_36 : Dc prog_50_method_8_code 36 (.iconst 1) 1 37 := ⟨by decide +kernel, rfl⟩
theorem d16_37 : Dc prog_50_method_8_code 37 (.goto 4) 3 40 := ⟨by decide +kernel, rfl⟩
theorem d16_40 : Dc prog_50_method_8_code 40 (.iconst 0) 1 41 := ⟨by decide +kernel, rfl⟩
theorem d16_41 : Dc prog_50_method_8_code 41 (.ireturn) 1 42 := ⟨by decide +kernel, rfl⟩
theorem d10_0 : Dc method_2_code 0 (.iload_n 0) 1 1 := ⟨by decide +kernel, rfl⟩
theorem d10_1 : Dc method_2_code 1 (.bipush 65) 2 3 := ⟨by decide +kernel, rfl⟩
theorem d10_3 : Dc method_2_code 3 (.if_icmp .lt 13) 3 6 := ⟨by decide +kernel, rfl⟩
theorem d10_6 : Dc method_2_code 6 (.iload_n 0) 1 7 := ⟨by decide +kernel, rfl⟩
theorem d10_7 : Dc method_2_code 7 (.bipush 90) 2 9 := ⟨by decide +kernel, rfl⟩
theorem d10_9 : Dc method_2_code 9 (.if_icmp .gt 7) 3 12 := ⟨by decide +kernel, rfl⟩
theorem d10_12 : Dc method_2_code 12 (.iconst 1) 1 13 := ⟨by decide +kernel, rfl⟩
theorem d10_13 : Dc method_2_code 13 (.goto 4) 3 16 := ⟨by decide +kernel, rfl⟩
theorem d10_16 : Dc method_2_code 16 (.iconst 0) 1 17 := ⟨by decide +kernel, rfl⟩
theorem d10_17 : Dc method_2_code 17 (.istore_n 1) 1 18 := ⟨by decide +kernel, rfl⟩
theorem d10_18 : Dc method_2_code 18 (.iload_n 0) 1 19 := ⟨by decide +kernel, rfl⟩
theorem d10_19 : Dc method_2_code 19 (.bipush 97) 2 21 := ⟨by decide +kernel, rfl⟩
theorem d10_21 : Dc method_2_code 21 (.if_icmp .lt 13) 3 24 := ⟨by decide +kernel, rfl⟩
theorem d10_24 : Dc method_2_code 24 (.iload_n 0) 1 25 := ⟨by decide +kernel, rfl⟩
theorem d10_25 : Dc method_2_code 25 (.bipush 122) 2 27 := ⟨by decide +kernel, rfl⟩
theorem d10_27 : Dc method_2_code 27 (.if_icmp .gt 7) 3 30 := ⟨by decide +kernel, rfl⟩
theorem d10_30 : Dc method_2_code 30 (.iconst 1) 1 31 := ⟨by decide +kernel, rfl⟩
theorem d10_31 : Dc method_2_code 31 (.goto 4) 3 34 := ⟨by decide +kernel, rfl⟩
theorem d10_34 : Dc method_2_code 34 (.iconst 0) 1 35 := ⟨by decide +kernel, rfl⟩
theorem d10_35 : Dc method_2_code 35 (.istore_n 2) 1 36 := ⟨by decide +kernel, rfl⟩
theorem d10_36 : Dc method_2_code 36 (.iload_n 0) 1 37 := ⟨by decide +kernel, rfl⟩
theorem d10_37 : Dc method_2_code 37 (.bipush 48) 2 39 := ⟨by decide +kernel, rfl⟩
theorem d10_39 : Dc method_2_code 39 (.if_icmp .lt 13) 3 42 := ⟨by decide +kernel, rfl⟩
theorem d10_42 : Dc method_2_code 42 (.iload_n 0) 1 43 := ⟨by decide +kernel, rfl⟩
theorem d10_43 : Dc method_2_code 43 (.bipush 57) 2 45 := ⟨by decide +kernel, rfl⟩
theorem d10_45 : Dc method_2_code 45 (.if_icmp .gt 7) 3 48 := ⟨by decide +kernel, rfl⟩
theorem d10_48 : Dc method_2_code 48 (.iconst 1) 1 49 := ⟨by decide +kernel, rfl⟩
theorem d10_49 : Dc method_2_code 49 (.goto 4) 3 52 := ⟨by decide +kernel, rfl⟩
theorem d10_52 : Dc method_2_code 52 (.iconst 0) 1 53 := ⟨by decide +kernel, rfl⟩
theorem d10_53 : Dc method_2_code 53 (.istore_n 3) 1 54 := ⟨by decide +kernel, rfl⟩
theorem d10_54 : Dc method_2_code 54 (.iload_n 1) 1 55 := ⟨by decide +kernel, rfl⟩
theorem d10_55 : Dc method_2_code 55 (.ifCond .ne 11) 3 58 := ⟨by decide +kernel, rfl⟩
theorem d10_58 : Dc method_2_code 58 (.iload_n 2) 1 59 := ⟨by decide +kernel, rfl⟩
theorem d10_59 : Dc method_2_code 59 (.ifCond .ne 7) 3 62 := ⟨by decide +kernel, rfl⟩
theorem d10_62 : Dc method_2_code 62 (.iload_n 3) 1 63 := ⟨by decide +kernel, rfl⟩
theorem d10_63 : Dc method_2_code 63 (.ifCond .eq 7) 3 66 := ⟨by decide +kernel, rfl⟩
theorem d10_66 : Dc method_2_code 66 (.iconst 1) 1 67 := ⟨by decide +kernel, rfl⟩
theorem d10_67 : Dc method_2_code 67 (.goto 4) 3 70 := ⟨by decide +kernel, rfl⟩
theorem d10_70 : Dc method_2_code 70 (.iconst 0) 1 71 := ⟨by decide +kernel, rfl⟩
theorem d10_71 : Dc method_2_code 71 (.ireturn) 1 72 := ⟨by decide +kernel, rfl⟩
theorem d17_0 : Dc method_3_code 0 (.iload_n 0) 1 1 := ⟨by decide +kernel, rfl⟩
theorem d17_1 : Dc method_3_code 1 (.invokestatic 7) 3 4 := ⟨by decide +kernel, rfl⟩
theorem d17_4 : Dc method_3_code 4 (.ifCond .ne 15) 3 7 := ⟨by decide +kernel, rfl⟩
theorem d17_7 : Dc method_3_code 7 (.iload_n 0) 1 8 := ⟨by decide +kernel, rfl⟩
theorem d17_8 : Dc method_3_code 8 (.bipush 95) 2 10 := ⟨by decide +kernel, rfl⟩
theorem d17_10 : Dc method_3_code 10 (.if_icmp .eq 9) 3 13 := ⟨by decide +kernel, rfl⟩
theorem d17_13 : Dc method_3_code 13 (.iload_n 0) 1 14 := ⟨by decide +kernel, rfl⟩
theorem d17_14 : Dc method_3_code 14 (.bipush 45) 2 16 := ⟨by decide +kernel, rfl⟩
theorem d17_16 : Dc method_3_code 16 (.if_icmp .ne 7) 3 19 := ⟨by decide +kernel, rfl⟩
theorem d17_19 : Dc method_3_code 19 (.iconst 1) 1 20 := ⟨by decide +kernel, rfl⟩
theorem d17_20 : Dc method_3_code 20 (.goto 4) 3 23 := ⟨by decide +kernel, rfl⟩
theorem d17_23 : Dc method_3_code 23 (.iconst 0) 1 24 := ⟨by decide +kernel, rfl⟩
theorem d17_24 : Dc method_3_code 24 (.ireturn) 1 25 := ⟨by decide +kernel, rfl⟩
theorem d4_0 : Dc prog_50_method_3_code 0 (.aload_n 0) 1 1 := ⟨by decide +kernel, rfl⟩
theorem d4_1 : Dc prog_50_method_3_code 1 (.invokevirtual 144) 3 4 := ⟨by decide +kernel, rfl⟩
theorem d4_4 : Dc prog_50_method_3_code 4 (.iconst 1) 1 5 := ⟨by decide +kernel, rfl⟩
theorem d4_5 : Dc prog_50_method_3_code 5 (.isub) 1 6 := ⟨by decide +kernel, rfl⟩
theorem d4_6 : Dc prog_50_method_3_code 6 (.istore_n 1) 1 7 := ⟨by decide +kernel, rfl⟩
theorem d4_7 : Dc prog_50_method_3_code 7 (.iload_n 1) 1 8 := ⟨by decide +kernel, rfl⟩
theorem d4_8 : Dc prog_50_method_3_code 8 (.ifCond .lt 29) 3 11 := ⟨by decide +kernel, rfl⟩
theorem d4_11 : Dc prog_50_method_3_code 11 (.aload_n 0) 1 12 := ⟨by decide +kernel, rfl⟩
theorem d4_12 : Dc prog_50_method_3_code 12 (.iconst 0) 1 13 := ⟨by decide +kernel, rfl⟩
theorem d4_13 : Dc prog_50_method_3_code 13 (.invokevirtual 147) 3 16 := ⟨by decide +kernel, rfl⟩
theorem d4_16 : Dc prog_50_method_3_code 16 (.invokestatic 151) 3 19 := ⟨by decide +kernel, rfl⟩
theorem d4_19 : Dc prog_50_method_3_code 19 (.ifCond .eq 18) 3 22 := ⟨by decide +kernel, rfl⟩
theorem d4_22 : Dc prog_50_method_3_code 22 (.aload_n 0) 1 23 := ⟨by decide +kernel, rfl⟩
theorem d4_23 : Dc prog_50_method_3_code 23 (.iload_n 1) 1 24 := ⟨by decide +kernel, rfl⟩
theorem d4_24 : Dc prog_50_method_3_code 24 (.invokevirtual 147) 3 27 := ⟨by decide +kernel, rfl⟩
theorem d4_27 : Dc prog_50_method_3_code 27 (.invokestatic 151) 3 30 := ⟨by decide +kernel, rfl⟩
theorem d4_30 : Dc prog_50_method_3_code 30 (.ifCond .eq 7) 3 33 := ⟨by decide +kernel, rfl⟩
theorem d4_33 : Dc prog_50_method_3_code 33 (.iconst 1) 1 34 := ⟨by decide +kernel, rfl⟩
theorem d4_34 : Dc prog_50_method_3_code 34 (.goto 4) 3 37 := ⟨by decide +kernel, rfl⟩
theorem d4_37 : Dc prog_50_method_3_code 37 (.iconst 0) 1 38 := ⟨by decide +kernel, rfl⟩
theorem d4_38 : Dc prog_50_method_3_code 38 (.istore_n 2) 1 39 := ⟨by decide +kernel, rfl⟩
theorem d4_39 : Dc prog_50_method_3_code 39 (.iconst 1) 1 40 := ⟨by decide +kernel, rfl⟩
theorem d4_40 : Dc prog_50_method_3_code 40 (.istore_n 3) 1 41 := ⟨by decide +kernel, rfl⟩
theorem d4_41 : Dc prog_50_method_3_code 41 (.iload_n 2) 1 42 := ⟨by decide +kernel, rfl⟩
theorem d4_42 : Dc prog_50_method_3_code 42 (.ifCond .eq 49) 3 45 := ⟨by decide +kernel, rfl⟩
theorem d4_45 : Dc prog_50_method_3_code 45 (.iload_n 3) 1 46 := ⟨by decide +kernel, rfl⟩
theorem d4_46 : Dc prog_50_method_3_code 46 (.iload_n 1) 1 47 := ⟨by decide +kernel, rfl⟩
theorem d4_47 : Dc prog_50_method_3_code 47 (.if_icmp .ge 44) 3 50 := ⟨by decide +kernel, rfl⟩
theorem d4_50 : Dc prog_50_method_3_code 50 (.aload_n 0) 1 51 := ⟨by decide +kernel, rfl⟩
theorem d4_51 : Dc prog_50_method_3_code 51 (.iload_n 3) 1 52 := ⟨by decide +kernel, rfl⟩
theorem d4_52 : Dc prog_50_method_3_code 52 (.invokevirtual 147) 3 55 := ⟨by decide +kernel, rfl⟩
theorem d4_55 : Dc prog_50_method_3_code 55 (.istore 4) 2 57 := ⟨by decide +kernel, rfl⟩
theorem d4_57 : Dc prog_50_method_3_code 57 (.iload 4) 2 59 := ⟨by decide +kernel, rfl⟩
theorem d4_59 : Dc prog_50_method_3_code 59 (.invokestatic 151) 3 62 := ⟨by decide +kernel, rfl⟩
theorem d4_62 : Dc prog_50_method_3_code 62 (.ifCond .ne 17) 3 65 := ⟨by decide +kernel, rfl⟩
theorem d4_65 : Dc prog_50_method_3_code 65 (.iload 4) 2 67 := ⟨by decide +kernel, rfl⟩
theorem d4_67 : Dc prog_50_method_3_code 67 (.bipush 95) 2 69 := ⟨by decide +kernel, rfl⟩
theorem d4_69 : Dc prog_50_method_3_code 69 (.if_icmp .eq 10) 3 72 := ⟨by decide +kernel, rfl⟩
theorem d4_72 : Dc prog_50_method_3_code 72 (.iload 4) 2 74 := ⟨by decide +kernel, rfl⟩
theorem d4_74 : Dc prog_50_method_3_code 74 (.bipush 45) 2 76 := ⟨by decide +kernel, rfl⟩
theorem d4_76 : Dc prog_50_method_3_code 76 (.if_icmp .ne 7) 3 79 := ⟨by decide +kernel, rfl⟩
theorem d4_79 : Dc prog_50_method_3_code 79 (.iconst 1) 1 80 := ⟨by decide +kernel, rfl⟩
theorem d4_80 : Dc prog_50_method_3_code 80 (.goto 4) 3 83 := ⟨by decide +kernel, rfl⟩
theorem d4_83 : Dc prog_50_method_3_code 83 (.iconst 0) 1 84 := ⟨by decide +kernel, rfl⟩
theorem d4_84 : Dc prog_50_method_3_code 84 (.istore_n 2) 1 85 := ⟨by decide +kernel, rfl⟩
theorem d4_85 : Dc prog_50_method_3_code 85 (.iinc 3 1) 3 88 := ⟨by decide +kernel, rfl⟩
theorem d4_88 : Dc prog_50_method_3_code 88 (.goto (-47)) 3 91 := ⟨by decide +kernel, rfl⟩
theorem d4_91 : Dc prog_50_method_3_code 91 (.iload_n 2) 1 92 := ⟨by decide +kernel, rfl⟩
theorem d4_92 : Dc prog_50_method_3_code 92 (.ireturn) 1 93 := ⟨by decide +kernel, rfl⟩
theorem d0_0 : Dc code 0 (.iload_n 0) 1 1 := ⟨by decide +kernel, rfl⟩
theorem d0_1 : Dc code 1 (.ldc 13) 2 3 := ⟨by decide +kernel, rfl⟩
theorem d0_3 : Dc code 3 (.iand) 1 4 := ⟨by decide +kernel, rfl⟩
theorem d0_4 : Dc code 4 (.bipush 6) 2 6 := ⟨by decide +kernel, rfl⟩
theorem d0_6 : Dc code 6 (.irem) 1 7 := ⟨by decide +kernel, rfl⟩
theorem d0_7 : Dc code 7 (.istore_n 3) 1 8 := ⟨by decide +kernel, rfl⟩
theorem d0_8 : Dc code 8 (.iload_n 1) 1 9 := ⟨by decide +kernel, rfl⟩
theorem d0_9 : Dc code 9 (.sipush 255) 3 12 := ⟨by decide +kernel, rfl⟩
theorem d0_12 : Dc code 12 (.iand) 1 13 := ⟨by decide +kernel, rfl⟩
theorem d0_13 : Dc code 13 (.i2c) 1 14 := ⟨by decide +kernel, rfl⟩
theorem d0_14 : Dc code 14 (.istore 4) 2 16 := ⟨by decide +kernel, rfl⟩
theorem d0_16 : Dc code 16 (.iload_n 1) 1 17 := ⟨by decide +kernel, rfl⟩
theorem d0_17 : Dc code 17 (.bipush 8) 2 19 := ⟨by decide +kernel, rfl⟩
theorem d0_19 : Dc code 19 (.iushr) 1 20 := ⟨by decide +kernel, rfl⟩
theorem d0_20 : Dc code 20 (.sipush 255) 3 23 := ⟨by decide +kernel, rfl⟩
theorem d0_23 : Dc code 23 (.iand) 1 24 := ⟨by decide +kernel, rfl⟩
theorem d0_24 : Dc code 24 (.i2c) 1 25 := ⟨by decide +kernel, rfl⟩
theorem d0_25 : Dc code 25 (.istore 5) 2 27 := ⟨by decide +kernel, rfl⟩
theorem d0_27 : Dc code 27 (.iload_n 1) 1 28 := ⟨by decide +kernel, rfl⟩
theorem d0_28 : Dc code 28 (.bipush 16) 2 30 := ⟨by decide +kernel, rfl⟩
theorem d0_30 : Dc code 30 (.iushr) 1 31 := ⟨by decide +kernel, rfl⟩
theorem d0_31 : Dc code 31 (.sipush 255) 3 34 := ⟨by decide +kernel, rfl⟩
theorem d0_34 : Dc code 34 (.iand) 1 35 := ⟨by decide +kernel, rfl⟩
theorem d0_35 : Dc code 35 (.i2c) 1 36 := ⟨by decide +kernel, rfl⟩
theorem d0_36 : Dc code 36 (.istore 6) 2 38 := ⟨by decide +kernel, rfl⟩
theorem d0_38 : Dc code 38 (.iload_n 1) 1 39 := ⟨by decide +kernel, rfl⟩
theorem d0_39 : Dc code 39 (.bipush 24) 2 41 := ⟨by decide +kernel, rfl⟩
theorem d0_41 : Dc code 41 (.iushr) 1 42 := ⟨by decide +kernel, rfl⟩
theorem d0_42 : Dc code 42 (.sipush 255) 3 45 := ⟨by decide +kernel, rfl⟩
theorem d0_45 : Dc code 45 (.iand) 1 46 := ⟨by decide +kernel, rfl⟩
theorem d0_46 : Dc code 46 (.i2c) 1 47 := ⟨by decide +kernel, rfl⟩
theorem d0_47 : Dc code 47 (.istore 7) 2 49 := ⟨by decide +kernel, rfl⟩
theorem d0_49 : Dc code 49 (.iload_n 2) 1 50 := ⟨by decide +kernel, rfl⟩
theorem d0_50 : Dc code 50 (.sipush 255) 3 53 := ⟨by decide +kernel, rfl⟩
theorem d0_53 : Dc code 53 (.iand) 1 54 := ⟨by decide +kernel, rfl⟩
theorem d0_54 : Dc code 54 (.i2c) 1 55 := ⟨by decide +kernel, rfl⟩
theorem d0_55 : Dc code 55 (.istore 8) 2 57 := ⟨by decide +kernel, rfl⟩
theorem d0_57 : Dc code 57 (.iload_n 3) 1 58 := ⟨by decide +kernel, rfl⟩
theorem d0_58 : Dc code 58 (.ifCond .ne 15) 3 61 := ⟨by decide +kernel, rfl⟩
theorem d0_61 : Dc code 61 (.iconst 0) 1 62 := ⟨by decide +kernel, rfl⟩
theorem d0_62 : Dc code 62 (.newarray .char) 2 64 := ⟨by decide +kernel, rfl⟩
theorem d0_64 : Dc code 64 (.astore 9) 2 66 := ⟨by decide +kernel, rfl⟩
theorem d0_66 : Dc code 66 (.iload 4) 2 68 := ⟨by decide +kernel, rfl⟩
theorem d0_68 : Dc code 68 (.istore 10) 2 70 := ⟨by decide +kernel, rfl⟩
theorem d0_70 : Dc code 70 (.goto 155) 3 73 := ⟨by decide +kernel, rfl⟩
theorem d0_73 : Dc code 73 (.iload_n 3) 1 74 := ⟨by decide +kernel, rfl⟩
theorem d0_74 : Dc code 74 (.iconst 1) 1 75 := ⟨by decide +kernel, rfl⟩
theorem d0_75 : Dc code 75 (.if_icmp .ne 20) 3 78 := ⟨by decide +kernel, rfl⟩
theorem d0_78 : Dc code 78 (.iconst 1) 1 79 := ⟨by decide +kernel, rfl⟩
theorem d0_79 : Dc code 79 (.newarray .char) 2 81 := ⟨by decide +kernel, rfl⟩
theorem d0_81 : Dc code 81 (.dup) 1 82 := ⟨by decide +kernel, rfl⟩
theorem d0_82 : Dc code 82 (.iconst 0) 1 83 := ⟨by decide +kernel, rfl⟩
theorem d0_83 : Dc code 83 (.iload 4) 2 85 := ⟨by decide +kernel, rfl⟩
theorem d0_85 : Dc code 85 (.castore) 1 86 := ⟨by decide +kernel, rfl⟩
theorem d0_86 : Dc code 86 (.astore 9) 2 88 := ⟨by decide +kernel, rfl⟩
theorem d0_88 : Dc code 88 (.iload 4) 2 90 := ⟨by decide +kernel, rfl⟩
theorem d0_90 : Dc code 90 (.istore 10) 2 92 := ⟨by decide +kernel, rfl⟩
theorem d0_92 : Dc code 92 (.goto 133) 3 95 := ⟨by decide +kernel, rfl⟩
theorem d0_95 : Dc code 95 (.iload_n 3) 1 96 := ⟨by decide +kernel, rfl⟩
theorem d0_96 : Dc code 96 (.iconst 2) 1 97 := ⟨by decide +kernel, rfl⟩
theorem d0_97 : Dc code 97 (.if_icmp .ne 25) 3 100 := ⟨by decide +kernel, rfl⟩
theorem d0_100 : Dc code 100 (.iconst 2) 1 101 := ⟨by decide +kernel, rfl⟩
theorem d0_101 : Dc code 101 (.newarray .char) 2 103 := ⟨by decide +kernel, rfl⟩
theorem d0_103 : Dc code 103 (.dup) 1 104 := ⟨by decide +kernel, rfl⟩
theorem d0_104 : Dc code 104 (.iconst 0) 1 105 := ⟨by decide +kernel, rfl⟩
theorem d0_105 : Dc code 105 (.iload 4) 2 107 := ⟨by decide +kernel, rfl⟩
theorem d0_107 : Dc code 107 (.castore) 1 108 := ⟨by decide +kernel, rfl⟩
theorem d0_108 : Dc code 108 (.dup) 1 109 := ⟨by decide +kernel, rfl⟩
theorem d0_109 : Dc code 109 (.iconst 1) 1 110 := ⟨by decide +kernel, rfl⟩
theorem d0_110 : Dc code 110 (.iload 5) 2 112 := ⟨by decide +kernel, rfl⟩
theorem d0_112 : Dc code 112 (.castore) 1 113 := ⟨by decide +kernel, rfl⟩
theorem d0_113 : Dc code 113 (.astore 9) 2 115 := ⟨by decide +kernel, rfl⟩
theorem d0_115 : Dc code 115 (.iload 5) 2 117 := ⟨by decide +kernel, rfl⟩
theorem d0_117 : Dc code 117 (.istore 10) 2 119 := ⟨by decide +kernel, rfl⟩
theorem d0_119 : Dc code 119 (.goto 106) 3 122 := ⟨by decide +kernel, rfl⟩
theorem d0_122 : Dc code 122 (.iload_n 3) 1 123 := ⟨by decide +kernel, rfl⟩
theorem d0_123 : Dc code 123 (.iconst 3) 1 124 := ⟨by decide +kernel, rfl⟩
theorem d0_124 : Dc code 124 (.if_icmp .ne 30) 3 127 := ⟨by decide +kernel, rfl⟩
theorem d0_127 : Dc code 127 (.iconst 3) 1 128 := ⟨by decide +kernel, rfl⟩
theorem d0_128 : Dc code 128 (.newarray .char) 2 130 := ⟨by decide +kernel, rfl⟩
theorem d0_130 : Dc code 130 (.dup) 1 131 := ⟨by decide +kernel, rfl⟩
theorem d0_131 : Dc code 131 (.iconst 0) 1 132 := ⟨by decide +kernel, rfl⟩
theorem d0_132 : Dc code 132 (.iload 4) 2 134 := ⟨by decide +kernel, rfl⟩
theorem d0_134 : Dc code 134 (.castore) 1 135 := ⟨by decide +kernel, rfl⟩
theorem d0_135 : Dc code 135 (.dup) 1 136 := ⟨by decide +kernel, rfl⟩
theorem d0_136 : Dc code 136 (.iconst 1) 1 137 := ⟨by decide +kernel, rfl⟩
theorem d0_137 : Dc code 137 (.iload 5) 2 139 := ⟨by decide +kernel, rfl⟩
theorem d0_139 : Dc code 139 (.castore) 1 140 := ⟨by decide +kernel, rfl⟩
theorem d0_140 : Dc code 140 (.dup) 1 141 := ⟨by decide +kernel, rfl⟩
theorem d0_141 : Dc code 141 (.iconst 2) 1 142 := ⟨by decide +kernel, rfl⟩
theorem d0_142 : Dc code 142 (.iload 6) 2 144 := ⟨by decide +kernel, rfl⟩
theorem d0_144 : Dc code 144 (.castore) 1 145 := ⟨by decide +kernel, rfl⟩
theorem d0_145 : Dc code 145 (.astore 9) 2 147 := ⟨by decide +kernel, rfl⟩
theorem d0_147 : Dc code 147 (.iload 6) 2 149 := ⟨by decide +kernel, rfl⟩
theorem d0_149 : Dc code 149 (.istore 10) 2 151 := ⟨by decide +kernel, rfl⟩
theorem d0_151 : Dc code 151 (.goto 74) 3 154 := ⟨by decide +kernel, rfl⟩
theorem d0_154 : Dc code 154 (.iload_n 3) 1 155 := ⟨by decide +kernel, rfl⟩
theorem d0_155 : Dc code 155 (.iconst 4) 1 156 := ⟨by decide +kernel, rfl⟩
theorem d0_156 : Dc code 156 (.if_icmp .ne 35) 3 159 := ⟨by decide +kernel, rfl⟩
theorem d0_159 : Dc code 159 (.iconst 4) 1 160 := ⟨by decide +kernel, rfl⟩
theorem d0_160 : Dc code 160 (.newarray .char) 2 162 := ⟨by decide +kernel, rfl⟩
theorem d0_162 : Dc code 162 (.dup) 1 163 := ⟨by decide +kernel, rfl⟩
theorem d0_163 : Dc code 163 (.iconst 0) 1 164 := ⟨by decide +kernel, rfl⟩
theorem d0_164 : Dc code 164 (.iload 4) 2 166 := ⟨by decide +kernel, rfl⟩
theorem d0_166 : Dc code 166 (.castore) 1 167 := ⟨by decide +kernel, rfl⟩
theorem d0_167 : Dc code 167 (.dup) 1 168 := ⟨by decide +kernel, rfl⟩
theorem d0_168 : Dc code 168 (.iconst 1) 1 169 := ⟨by decide +kernel, rfl⟩
theorem d0_169 : Dc code 169 (.iload 5) 2 171 := ⟨by decide +kernel, rfl⟩
theorem d0_171 : Dc code 171 (.castore) 1 172 := ⟨by decide +kernel, rfl⟩
theorem d0_172 : Dc code 172 (.dup) 1 173 := ⟨by decide +kernel, rfl⟩
theorem d0_173 : Dc code 173 (.iconst 2) 1 174 := ⟨by decide +kernel, rfl⟩
theorem d0_174 : Dc code 174 (.iload 6) 2 176 := ⟨by decide +kernel, rfl⟩
theorem d0_176 : Dc code 176 (.castore) 1 177 := ⟨by decide +kernel, rfl⟩
theorem d0_177 : Dc code 177 (.dup) 1 178 := ⟨by decide +kernel, rfl⟩
theorem d0_178 : Dc code 178 (.iconst 3) 1 179 := ⟨by decide +kernel, rfl⟩
theorem d0_179 : Dc code 179 (.iload 7) 2 181 := ⟨by decide +kernel, rfl⟩
theorem d0_181 : Dc code 181 (.castore) 1 182 := ⟨by decide +kernel, rfl⟩
theorem d0_182 : Dc code 182 (.astore 9) 2 184 := ⟨by decide +kernel, rfl⟩
theorem d0_184 : Dc code 184 (.iload 7) 2 186 := ⟨by decide +kernel, rfl⟩
theorem d0_186 : Dc code 186 (.istore 10) 2 188 := ⟨by decide +kernel, rfl⟩
theorem d0_188 : Dc code 188 (.goto 37) 3 191 := ⟨by decide +kernel, rfl⟩
theorem d0_191 : Dc code 191 (.iconst 5) 1 192 := ⟨by decide +kernel, rfl⟩
theorem d0_192 : Dc code 192 (.newarray .char) 2 194 := ⟨by decide +kernel, rfl⟩
theorem d0_194 : Dc code 194 (.dup) 1 195 := ⟨by decide +kernel, rfl⟩
theorem d0_195 : Dc code 195 (.iconst 0) 1 196 := ⟨by decide +kernel, rfl⟩
theorem d0_196 : Dc code 196 (.iload 4) 2 198 := ⟨by decide +kernel, rfl⟩
theorem d0_198 : Dc code 198 (.castore) 1 199 := ⟨by decide +kernel, rfl⟩
theorem d0_199 : Dc code 199 (.dup) 1 200 := ⟨by decide +kernel, rfl⟩
theorem d0_200 : Dc code 200 (.iconst 1) 1 201 := ⟨by decide +kernel, rfl⟩
theorem d0_201 : Dc code 201 (.iload 5) 2 203 := ⟨by decide +kernel, rfl⟩
theorem d0_203 : Dc code 203 (.castore) 1 204 := ⟨by decide +kernel, rfl⟩
theorem d0_204 : Dc code 204 (.dup) 1 205 := ⟨by decide +kernel, rfl⟩
theorem d0_205 : Dc code 205 (.iconst 2) 1 206 := ⟨by decide +kernel, rfl⟩
theorem d0_206 : Dc code 206 (.iload 6) 2 208 := ⟨by decide +kernel, rfl⟩
theorem d0_208 : Dc code 208 (.castore) 1 209 := ⟨by decide +kernel, rfl⟩
theorem d0_209 : Dc code 209 (.dup) 1 210 := ⟨by decide +kernel, rfl⟩
theorem d0_210 : Dc code 210 (.iconst 3) 1 211 := ⟨by decide +kernel, rfl⟩
theorem d0_211 : Dc code 211 (.iload 7) 2 213 := ⟨by decide +kernel, rfl⟩
theorem d0_213 : Dc code 213 (.castore) 1 214 := ⟨by decide +kernel, rfl⟩
theorem d0_214 : Dc code 214 (.dup) 1 215 := ⟨by decide +kernel, rfl⟩
theorem d0_215 : Dc code 215 (.iconst 4) 1 216 := ⟨by decide +kernel, rfl⟩
theorem d0_216 : Dc code 216 (.iload 8) 2 218 := ⟨by decide +kernel, rfl⟩
theorem d0_218 : Dc code 218 (.castore) 1 219 := ⟨by decide +kernel, rfl⟩
theorem d0_219 : Dc code 219 (.astore 9) 2 221 := ⟨by decide +kernel, rfl⟩
theorem d0_221 : Dc code 221 (.iload 8) 2 223 := ⟨by decide +kernel, rfl⟩
theorem d0_223 : Dc code 223 (.istore 10) 2 225 := ⟨by decide +kernel, rfl⟩
theorem d0_225 : Dc code 225 (.new 14) 3 228 := ⟨by decide +kernel, rfl⟩
theorem d0_228 : Dc code 228 (.dup) 1 229 := ⟨by decide +kernel, rfl⟩
theorem d0_229 : Dc code 229 (.aload 9) 2 231 := ⟨by decide +kernel, rfl⟩
theorem d0_231 : Dc code 231 (.invokespecial 16) 3 234 := ⟨by decide +kernel, rfl⟩
theorem d0_234 : Dc code 234 (.astore 11) 2 236 := ⟨by decide +kernel, rfl⟩
theorem d0_236 : Dc code 236 (.iload_n 3) 1 237 := ⟨by decide +kernel, rfl⟩
theorem d0_237 : Dc code 237 (.iconst 1) 1 238 := ⟨by decide +kernel, rfl⟩
theorem d0_238 : Dc code 238 (.if_icmp .lt 62) 3 241 := ⟨by decide +kernel, rfl⟩
theorem d0_241 : Dc code 241 (.iload 4) 2 243 := ⟨by decide +kernel, rfl⟩
theorem d0_243 : Dc code 243 (.invokestatic 7) 3 246 := ⟨by decide +kernel, rfl⟩
theorem d0_246 : Dc code 246 (.ifCond .eq 54) 3 249 := ⟨by decide +kernel, rfl⟩
theorem d0_249 : Dc code 249 (.iload 10) 2 251 := ⟨by decide +kernel, rfl⟩
theorem d0_251 : Dc code 251 (.invokestatic 7) 3 254 := ⟨by decide +kernel, rfl⟩
theorem d0_254 : Dc code 254 (.ifCond .eq 46) 3 257 := ⟨by decide +kernel, rfl⟩
theorem d0_257 : Dc code 257 (.iload_n 3) 1 258 := ⟨by decide +kernel, rfl⟩
theorem d0_258 : Dc code 258 (.iconst 3) 1 259 := ⟨by decide +kernel, rfl⟩
theorem d0_259 : Dc code 259 (.if_icmp .lt 11) 3 262 := ⟨by decide +kernel, rfl⟩
theorem d0_262 : Dc code 262 (.iload 5) 2 264 := ⟨by decide +kernel, rfl⟩
theorem d0_264 : Dc code 264 (.invokestatic 19) 3 267 := ⟨by decide +kernel, rfl⟩
theorem d0_267 : Dc code 267 (.ifCond .eq 33) 3 270 := ⟨by decide +kernel, rfl⟩
theorem d0_270 : Dc code 270 (.iload_n 3) 1 271 := ⟨by decide +kernel, rfl⟩
theorem d0_271 : Dc code 271 (.iconst 4) 1 272 := ⟨by decide +kernel, rfl⟩
theorem d0_272 : Dc code 272 (.if_icmp .lt 11) 3 275 := ⟨by decide +kernel, rfl⟩
theorem d0_275 : Dc code 275 (.iload 6) 2 277 := ⟨by decide +kernel, rfl⟩
theorem d0_277 : Dc code 277 (.invokestatic 19) 3 280 := ⟨by decide +kernel, rfl⟩
theorem d0_280 : Dc code 280 (.ifCond .eq 20) 3 283 := ⟨by decide +kernel, rfl⟩
theorem d0_283 : Dc code 283 (.iload_n 3) 1 284 := ⟨by decide +kernel, rfl⟩
theorem d0_284 : Dc code 284 (.iconst 5) 1 285 := ⟨by decide +kernel, rfl⟩
theorem d0_285 : Dc code 285 (.if_icmp .lt 11) 3 288 := ⟨by decide +kernel, rfl⟩
theorem d0_288 : Dc code 288 (.iload 7) 2 290 := ⟨by decide +kernel, rfl⟩
theorem d0_290 : Dc code 290 (.invokestatic 19) 3 293 := ⟨by decide +kernel, rfl⟩
theorem d0_293 : Dc code 293 (.ifCond .eq 7) 3 296 := ⟨by decide +kernel, rfl⟩
theorem d0_296 : Dc code 296 (.iconst 1) 1 297 := ⟨by decide +kernel, rfl⟩
theorem d0_297 : Dc code 297 (.goto 4) 3 300 := ⟨by decide +kernel, rfl⟩
theorem d0_300 : Dc code 300 (.iconst 0) 1 301 := ⟨by decide +kernel, rfl⟩
theorem d0_301 : Dc code 301 (.istore 12) 2 303 := ⟨by decide +kernel, rfl⟩
theorem d0_303 : Dc code 303 (.aload 11) 2 305 := ⟨by decide +kernel, rfl⟩
theorem d0_305 : Dc code 305 (.invokestatic 22) 3 308 := ⟨by decide +kernel, rfl⟩
theorem d0_308 : Dc code 308 (.iload 12) 2 310 := ⟨by decide +kernel, rfl⟩
theorem d0_310 : Dc code 310 (.if_icmp .ne 7) 3 313 := ⟨by decide +kernel, rfl⟩
theorem d0_313 : Dc code 313 (.iconst 1) 1 314 := ⟨by decide +kernel, rfl⟩
theorem d0_314 : Dc code 314 (.goto 4) 3 317 := ⟨by decide +kernel, rfl⟩
theorem d0_317 : Dc code 317 (.iconst 0) 1 318 := ⟨by decide +kernel, rfl⟩
theorem d0_318 : Dc code 318 (.ireturn) 1 319 := ⟨by decide +kernel, rfl⟩
def w0 {Z : State} {a0 : Array Value} (hw : ∀ d ∈ tables_1, d.before a0 Z = true) := hw _ (List.mem_of_getElem? (i := 0) rfl)
def w1 {Z : State} {a0 : Array Value} (hw : ∀ d ∈ tables_1, d.before a0 Z = true) := hw _ (List.mem_of_getElem? (i := 1) rfl)
def w2 {Z : State} {a0 : Array Value} (hw : ∀ d ∈ tables_1, d.before a0 Z = true) := hw _ (List.mem_of_getElem? (i := 2) rfl)
def w3 {Z : State} {a0 : Array Value} (hw : ∀ d ∈ tables_1, d.before a0 Z = true) := hw _ (List.mem_of_getElem? (i := 3) rfl)
def w4 {Z : State} {a0 : Array Value} (hw : ∀ d ∈ tables_1, d.before a0 Z = true) := hw _ (List.mem_of_getElem? (i := 4) rfl)
def w5 {Z : State} {a0 : Array Value} (hw : ∀ d ∈ tables_1, d.before a0 Z = true) := hw _ (List.mem_of_getElem? (i := 5) rfl)
def w6 {Z : State} {a0 : Array Value} (hw : ∀ d ∈ tables_1, d.before a0 Z = true) := hw _ (List.mem_of_getElem? (i := 6) rfl)
def w7 {Z : State} {a0 : Array Value} (hw : ∀ d ∈ tables_1, d.before a0 Z = true) := hw _ (List.mem_of_getElem? (i := 7) rfl)
def w8 {Z : State} {a0 : Array Value} (hw : ∀ d ∈ tables_1, d.before a0 Z = true) := hw _ (List.mem_of_getElem? (i := 8) rfl)
def w9 {Z : State} {a0 : Array Value} (hw : ∀ d ∈ tables_1, d.before a0 Z = true) := hw _ (List.mem_of_getElem? (i := 9) rfl)
def w11 {Z : State} {a0 : Array Value} (hw : ∀ d ∈ tables_1, d.before a0 Z = true) := hw _ (List.mem_of_getElem? (i := 11) rfl)
def w12 {Z : State} {a0 : Array Value} (hw : ∀ d ∈ tables_1, d.before a0 Z = true) := hw _ (List.mem_of_getElem? (i := 12) rfl)
def w13 {Z : State} {a0 : Array Value} (hw : ∀ d ∈ tables_1, d.before a0 Z = true) := hw _ (List.mem_of_getElem? (i := 13) rfl)
def w14 {Z : State} {a0 : Array Value} (hw : ∀ d ∈ tables_1, d.before a0 Z = true) := hw _ (List.mem_of_getElem? (i := 14) rfl)
def w15 {Z : State} {a0 : Array Value} (hw : ∀ d ∈ tables_1, d.before a0 Z = true) := hw _ (List.mem_of_getElem? (i := 15) rfl)
def w16 {Z : State} {a0 : Array Value} (hw : ∀ d ∈ tables_1, d.before a0 Z = true) := hw _ (List.mem_of_getElem? (i := 16) rfl)
def w17 {Z : State} {a0 : Array Value} (hw : ∀ d ∈ tables_1, d.before a0 Z = true) := hw _ (List.mem_of_getElem? (i := 17) rfl)
def w18 {Z : State} {a0 : Array Value} (hw : ∀ d ∈ tables_1, d.before a0 Z = true) := hw _ (List.mem_of_getElem? (i := 18) rfl)
def w19 {Z : State} {a0 : Array Value} (hw : ∀ d ∈ tables_1, d.before a0 Z = true) := hw _ (List.mem_of_getElem? (i := 19) rfl)
def w20 {Z : State} {a0 : Array Value} (hw : ∀ d ∈ tables_1, d.before a0 Z = true) := hw _ (List.mem_of_getElem? (i := 20) rfl)
def w21 {Z : State} {a0 : Array Value} (hw : ∀ d ∈ tables_1, d.before a0 Z = true) := hw _ (List.mem_of_getElem? (i := 21) rfl)
def w22 {Z : State} {a0 : Array Value} (hw : ∀ d ∈ tables_1, d.before a0 Z = true) := hw _ (List.mem_of_getElem? (i := 22) rfl)
def w23 {Z : State} {a0 : Array Value} (hw : ∀ d ∈ tables_1, d.before a0 Z = true) := hw _ (List.mem_of_getElem? (i := 23) rfl)
def w24 {Z : State} {a0 : Array Value} (hw : ∀ d ∈ tables_1, d.before a0 Z = true) := hw _ (List.mem_of_getElem? (i := 24) rfl)
def w25 {Z : State} {a0 : Array Value} (hw : ∀ d ∈ tables_1, d.before a0 Z = true) := hw _ (List.mem_of_getElem? (i := 25) rfl)
def w26 {Z : State} {a0 : Array Value} (hw : ∀ d ∈ tables_1, d.before a0 Z = true) := hw _ (List.mem_of_getElem? (i := 26) rfl)
def w27 {Z : State} {a0 : Array Value} (hw : ∀ d ∈ tables_1, d.before a0 Z = true) := hw _ (List.mem_of_getElem? (i := 27) rfl)
def w28 {Z : State} {a0 : Array Value} (hw : ∀ d ∈ tables_1, d.before a0 Z = true) := hw _ (List.mem_of_getElem? (i := 28) rfl)
def w29 {Z : State} {a0 : Array Value} (hw : ∀ d ∈ tables_1, d.before a0 Z = true) := hw _ (List.mem_of_getElem? (i := 29) rfl)
def w30 {Z : State} {a0 : Array Value} (hw : ∀ d ∈ tables_1, d.before a0 Z = true) := hw _ (List.mem_of_getElem? (i := 30) rfl)
def w31 {Z : State} {a0 : Array Value} (hw : ∀ d ∈ tables_1, d.before a0 Z = true) := hw _ (List.mem_of_getElem? (i := 31) rfl)
def w32 {Z : State} {a0 : Array Value} (hw : ∀ d ∈ tables_1, d.before a0 Z = true) := hw _ (List.mem_of_getElem? (i := 32) rfl)
def w33 {Z : State} {a0 : Array Value} (hw : ∀ d ∈ tables_1, d.before a0 Z = true) := hw _ (List.mem_of_getElem? (i := 33) rfl)
def w34 {Z : State} {a0 : Array Value} (hw : ∀ d ∈ tables_1, d.before a0 Z = true) := hw _ (List.mem_of_getElem? (i := 34) rfl)
def w35 {Z : State} {a0 : Array Value} (hw : ∀ d ∈ tables_1, d.before a0 Z = true) := hw _ (List.mem_of_getElem? (i := 35) rfl)
def w36 {Z : State} {a0 : Array Value} (hw : ∀ d ∈ tables_1, d.before a0 Z = true) := hw _ (List.mem_of_getElem? (i := 36) rfl)
def w37 {Z : State} {a0 : Array Value} (hw : ∀ d ∈ tables_1, d.before a0 Z = true) := hw _ (List.mem_of_getElem? (i := 37) rfl)
def w38 {Z : State} {a0 : Array Value} (hw : ∀ d ∈ tables_1, d.before a0 Z = true) := hw _ (List.mem_of_getElem? (i := 38) rfl)
def w39 {Z : State} {a0 : Array Value} (hw : ∀ d ∈ tables_1, d.before a0 Z = true) := hw _ (List.mem_of_getElem? (i := 39) rfl)
def w40 {Z : State} {a0 : Array Value} (hw : ∀ d ∈ tables_1, d.before a0 Z = true) := hw _ (List.mem_of_getElem? (i := 40) rfl)
def w41 {Z : State} {a0 : Array Value} (hw : ∀ d ∈ tables_1, d.before a0 Z = true) := hw _ (List.mem_of_getElem? (i := 41) rfl)
def w42 {Z : State} {a0 : Array Value} (hw : ∀ d ∈ tables_1, d.before a0 Z = true) := hw _ (List.mem_of_getElem? (i := 42) rfl)
def w43 {Z : State} {a0 : Array Value} (hw : ∀ d ∈ tables_1, d.before a0 Z = true) := hw _ (List.mem_of_getElem? (i := 43) rfl)
def w44 {Z : State} {a0 : Array Value} (hw : ∀ d ∈ tables_1, d.before a0 Z = true) := hw _ (List.mem_of_getElem? (i := 44) rfl)
def w45 {Z : State} {a0 : Array Value} (hw : ∀ d ∈ tables_1, d.before a0 Z = true) := hw _ (List.mem_of_getElem? (i := 45) rfl)
def w46 {Z : State} {a0 : Array Value} (hw : ∀ d ∈ tables_1, d.before a0 Z = true) := hw _ (List.mem_of_getElem? (i := 46) rfl)
def w47 {Z : State} {a0 : Array Value} (hw : ∀ d ∈ tables_1, d.before a0 Z = true) := hw _ (List.mem_of_getElem? (i := 47) rfl)
def w48 {Z : State} {a0 : Array Value} (hw : ∀ d ∈ tables_1, d.before a0 Z = true) := hw _ (List.mem_of_getElem? (i := 48) rfl)
def w49 {Z : State} {a0 : Array Value} (hw : ∀ d ∈ tables_1, d.before a0 Z = true) := hw _ (List.mem_of_getElem? (i := 49) rfl)
def w50 {Z : State} {a0 : Array Value} (hw : ∀ d ∈ tables_1, d.before a0 Z = true) := hw _ (List.mem_of_getElem? (i := 50) rfl)
def w51 {Z : State} {a0 : Array Value} (hw : ∀ d ∈ tables_1, d.before a0 Z = true) := hw _ (List.mem_of_getElem? (i := 51) rfl)
def w52 {Z : State} {a0 : Array Value} (hw : ∀ d ∈ tables_1, d.before a0 Z = true) := hw _ (List.mem_of_getElem? (i := 52) rfl)
def w53 {Z : State} {a0 : Array Value} (hw : ∀ d ∈ tables_1, d.before a0 Z = true) := hw _ (List.mem_of_getElem? (i := 53) rfl)
def w54 {Z : State} {a0 : Array Value} (hw : ∀ d ∈ tables_1, d.before a0 Z = true) := hw _ (List.mem_of_getElem? (i := 54) rfl)
def w55 {Z : State} {a0 : Array Value} (hw : ∀ d ∈ tables_1, d.before a0 Z = true) := hw _ (List.mem_of_getElem? (i := 55) rfl)
def w56 {Z : State} {a0 : Array Value} (hw : ∀ d ∈ tables_1, d.before a0 Z = true) := hw _ (List.mem_of_getElem? (i := 56) rfl)
def w57 {Z : State} {a0 : Array Value} (hw : ∀ d ∈ tables_1, d.before a0 Z = true) := hw _ (List.mem_of_getElem? (i := 57) rfl)
def w58 {Z : State} {a0 : Array Value} (hw : ∀ d ∈ tables_1, d.before a0 Z = true) := hw _ (List.mem_of_getElem? (i := 58) rfl)
def w59 {Z : State} {a0 : Array Value} (hw : ∀ d ∈ tables_1, d.before a0 Z = true) := hw _ (List.mem_of_getElem? (i := 59) rfl)
def w60 {Z : State} {a0 : Array Value} (hw : ∀ d ∈ tables_1, d.before a0 Z = true) := hw _ (List.mem_of_getElem? (i := 60) rfl)
def w61 {Z : State} {a0 : Array Value} (hw : ∀ d ∈ tables_1, d.before a0 Z = true) := hw _ (List.mem_of_getElem? (i := 61) rfl)
def w62 {Z : State} {a0 : Array Value} (hw : ∀ d ∈ tables_1, d.before a0 Z = true) := hw _ (List.mem_of_getElem? (i := 62) rfl)
def w63 {Z : State} {a0 : Array Value} (hw : ∀ d ∈ tables_1, d.before a0 Z = true) := hw _ (List.mem_of_getElem? (i := 63) rfl)
def w64 {Z : State} {a0 : Array Value} (hw : ∀ d ∈ tables_1, d.before a0 Z = true) := hw _ (List.mem_of_getElem? (i := 64) rfl)
def w65 {Z : State} {a0 : Array Value} (hw : ∀ d ∈ tables_1, d.before a0 Z = true) := hw _ (List.mem_of_getElem? (i := 65) rfl)
def w66 {Z : State} {a0 : Array Value} (hw : ∀ d ∈ tables_1, d.before a0 Z = true) := hw _ (List.mem_of_getElem? (i := 66) rfl)
def w67 {Z : State} {a0 : Array Value} (hw : ∀ d ∈ tables_1, d.before a0 Z = true) := hw _ (List.mem_of_getElem? (i := 67) rfl)
def w68 {Z : State} {a0 : Array Value} (hw : ∀ d ∈ tables_1, d.before a0 Z = true) := hw _ (List.mem_of_getElem? (i := 68) rfl)
def w69 {Z : State} {a0 : Array Value} (hw : ∀ d ∈ tables_1, d.before a0 Z = true) := hw _ (List.mem_of_getElem? (i := 69) rfl)
def w70 {Z : State} {a0 : Array Value} (hw : ∀ d ∈ tables_1, d.before a0 Z = true) := hw _ (List.mem_of_getElem? (i := 70) rfl)
def w71 {Z : State} {a0 : Array Value} (hw : ∀ d ∈ tables_1, d.before a0 Z = true) := hw _ (List.mem_of_getElem? (i := 71) rfl)
def w72 {Z : State} {a0 : Array Value} (hw : ∀ d ∈ tables_1, d.before a0 Z = true) := hw _ (List.mem_of_getElem? (i := 72) rfl)
def w73 {Z : State} {a0 : Array Value} (hw : ∀ d ∈ tables_1, d.before a0 Z = true) := hw _ (List.mem_of_getElem? (i := 73) rfl)
def w74 {Z : State} {a0 : Array Value} (hw : ∀ d ∈ tables_1, d.before a0 Z = true) := hw _ (List.mem_of_getElem? (i := 74) rfl)
def w75 {Z : State} {a0 : Array Value} (hw : ∀ d ∈ tables_1, d.before a0 Z = true) := hw _ (List.mem_of_getElem? (i := 75) rfl)
def w76 {Z : State} {a0 : Array Value} (hw : ∀ d ∈ tables_1, d.before a0 Z = true) := hw _ (List.mem_of_getElem? (i := 76) rfl)
def w77 {Z : State} {a0 : Array Value} (hw : ∀ d ∈ tables_1, d.before a0 Z = true) := hw _ (List.mem_of_getElem? (i := 77) rfl)
def w78 {Z : State} {a0 : Array Value} (hw : ∀ d ∈ tables_1, d.before a0 Z = true) := hw _ (List.mem_of_getElem? (i := 78) rfl)
def w79 {Z : State} {a0 : Array Value} (hw : ∀ d ∈ tables_1, d.before a0 Z = true) := hw _ (List.mem_of_getElem? (i := 79) rfl)
set_option maxRecDepth 65536 in
set_option maxHeartbeats 4000000 in
theorem c_coder (l : Launch) (Z : State) (n0 : Nat) (a0 : Array Value) (hw : ∀ d ∈ tables_1, d.before a0 Z = true) (x : Nat) (co : Int32) {cz : Int32} (SC : Sta Z Z.heap "java/lang/String" "COMPACT_STRINGS" "Z" (.int cz)) (hcz : cz.toInt ≠ 0) (h : Heap) (Ls : Lits) (hO : Old Z n0 h) (Fc : Fld Z h x "java/lang/String" "coder" "B" (.int co)) (hco : narrow .byte (.int co) = .int co) :
    Con l Z n0 (⟨"java/lang/String", "coder", "()B"⟩ : MethodName) jdk_42_method_152_code 1 (some .byte) ({ frames := 0, cells := 0, slots := 0, locals := 0 } : Room) [.ref x] h Ls [] (RV fun v h' Ls' => v = .int co ∧ h = h' ∧ Ls = Ls') := by
  refine Con.of_run pn0 hO ?_
  intro p e s m below meth c F hs
  refine ⟨[.val (.ref x)], by first | rfl | (simp [entryFrame, mkF, argsToLocals, Value.category]; done) | (rcases ref_cases hv with rfl | ⟨va, rfl⟩ <;> rfl), ?_⟩
  refine Run.getstatic F (w37 hw) Via.refl SC d6_0 ?_
  refine Run.if_eq F d6_3 (t := 13) rfl rfl (fun q => absurd q hcz) (fun _ => ?_)
  refine Run.aloadN F d6_6 rfl rfl ?_
  refine Run.getfield F (host := "") (Or.inl (w22 hw)) Via.refl Fc d6_7 ?_
  refine Run.goto F d6_10 (t := 14) rfl ?_
  exact Run.ireturn F (by simp) hco (by decide) (by decide) d6_14 ⟨rfl, rfl, rfl⟩
set_option maxRecDepth 65536 in
set_option maxHeartbeats 4000000 in
theorem c_length (l : Launch) (Z : State) (n0 : Nat) (a0 : Array Value) (hw : ∀ d ∈ tables_1, d.before a0 Z = true) (x b : Nat) (co ln : Int32) (vs : List Value) {cz : Int32} (SC : Sta Z Z.heap "java/lang/String" "COMPACT_STRINGS" "Z" (.int cz)) (hcz : cz.toInt ≠ 0) (h : Heap) (Ls : Lits) (hO : Old Z n0 h) (S : Str Z h x b co vs) (hco : narrow .byte (.int co) = .int co) (hln : Int32.ofNat vs.length >>> (co &&& 31) = ln) :
    Con l Z n0 (⟨"java/lang/String", "length", "()I"⟩ : MethodName) jdk_42_method_54_code 1 (some .int) ({ frames := 1, cells := 0, slots := 0, locals := 13 } : Room) [.ref x] h Ls [] (RV fun v h' Ls' => v = .int ln ∧ h = h' ∧ Ls = Ls') := by
  refine Con.of_run pn0 hO ?_
  intro p e s m below meth c F hs
  refine ⟨[.val (.ref x)], by first | rfl | (simp [entryFrame, mkF, argsToLocals, Value.category]; done) | (rcases ref_cases hv with rfl | ⟨va, rfl⟩ <;> rfl), ?_⟩
  subst hln
  refine Run.aloadN F d5_0 rfl rfl ?_
  refine Run.getfield F (host := "") (Or.inl (w21 hw)) Via.refl S.2.2.1 d5_1 ?_
  refine Run.arrlen F S.2.2.2 d5_4 ?_
  refine Run.aloadN F d5_5 rfl rfl ?_
  refine Run.callVirtual F (w32 hw) (w33 hw) (fun U hU => notFace_of_selects (args := #[]) (mvT hU (w35 hw))) (w35 hw) (w34 hw) (w4 hw) (w36 hw) S.1 (c_coder l Z n0 a0 hw x co SC hcz h Ls hO S.2.1 hco) rfl pd0 rfl rfl rfl rfl (by decide) (by decide) rfl d5_6 ?_
  rintro _ _ _ ⟨_, rfl, rfl, rfl, rfl⟩ _ _
  refine Run.ishr F d5_9 ?_
  exact Run.ireturn F (by simp) rfl (by decide) (by decide) d5_10 ⟨rfl, rfl, rfl⟩
set_option maxRecDepth 65536 in
set_option maxHeartbeats 4000000 in
theorem c_isLatin1 (l : Launch) (Z : State) (n0 : Nat) (a0 : Array Value) (hw : ∀ d ∈ tables_1, d.before a0 Z = true) (x : Nat) (co : Int32) {cz : Int32} (SC : Sta Z Z.heap "java/lang/String" "COMPACT_STRINGS" "Z" (.int cz)) (hcz : cz.toInt ≠ 0) (h : Heap) (Ls : Lits) (hO : Old Z n0 h) (Fc : Fld Z h x "java/lang/String" "coder" "B" (.int co)) :
    Con l Z n0 (⟨"java/lang/String", "isLatin1", "()Z"⟩ : MethodName) jdk_42_method_154_code 1 (some .boolean) ({ frames := 0, cells := 0, slots := 0, locals := 0 } : Room) [.ref x] h Ls [] (RV fun v h' Ls' => v = .int (b2i (decide (co.toInt = 0))) ∧ h = h' ∧ Ls = Ls') := by
  refine Con.of_run pn0 hO ?_
  intro p e s m below meth c F hs
  refine ⟨[.val (.ref x)], by first | rfl | (simp [entryFrame, mkF, argsToLocals, Value.category]; done) | (rcases ref_cases hv with rfl | ⟨va, rfl⟩ <;> rfl), ?_⟩
  refine Run.getstatic F (w37 hw) Via.refl SC d12_0 ?_
  refine Run.if_eq F d12_3 (t := 17) rfl rfl (fun q => absurd q hcz) (fun _ => ?_)
  refine Run.aloadN F d12_6 rfl rfl ?_
  refine Run.getfield F (host := "") (Or.inl (w22 hw)) Via.refl Fc d12_7 ?_
  refine Run.if_ne F d12_10 (t := 17) rfl rfl (fun q => ?_) (fun q => ?_)
  · refine Run.iconst F d12_17 (z := 0) rfl ?_
    exact Run.ireturn F (by simp) rfl (by decide) (by decide) d12_18 ⟨by simp [q, b2i], rfl, rfl⟩
  · refine Run.iconst F d12_13 (z := 1) rfl ?_
    refine Run.goto F d12_14 (t := 18) rfl ?_
    exact Run.ireturn F (by simp) rfl (by decide) (by decide) d12_18 ⟨by simp [q, b2i], rfl, rfl⟩
set_option maxRecDepth 65536 in
set_option maxHeartbeats 4000000 in
theorem c_pcheck (l : Launch) (Z : State) (n0 : Nat) (a0 : Array Value) (hw : ∀ d ∈ tables_1, d.before a0 Z = true) (i j : Int32) (v : Value) (h : Heap) (Ls : Lits) (hO : Old Z n0 h) (hv : v.isRef = true) (h0 : 0 ≤ i.toInt) (h1 : i.toInt < j.toInt) :
    Con l Z n0 (⟨"jdk/internal/util/Preconditions", "checkIndex", "(IILjava/util/function/BiFunction;)I"⟩ : MethodName) jdk_41_method_11_code 3 (some .int) ({ frames := 0, cells := 0, slots := 0, locals := 0 } : Room) [.int i, .int j, v] h Ls [] (RV fun w h' Ls' => w = .int i ∧ h = h' ∧ Ls = Ls') := by
  refine Con.of_run pn1 hO ?_
  intro p e s m below meth c F hs
  refine ⟨[.val (.int i), .val (.int j), .val v], by first | rfl | (simp [entryFrame, mkF, argsToLocals, Value.category]; done) | (rcases ref_cases hv with rfl | ⟨va, rfl⟩ <;> rfl), ?_⟩
  refine Run.iloadN F d15_0 rfl ?_
  refine Run.if_lt F d15_1 (t := 9) rfl rfl (fun q => by omega) (fun _ => ?_)
  refine Run.iloadN F d15_4 rfl ?_
  refine Run.iloadN F d15_5 rfl ?_
  refine Run.icmp_lt F d15_6 (t := 16) rfl rfl rfl (fun _ => ?_) (fun q => by omega)
  refine Run.iloadN F d15_16 rfl ?_
  exact Run.ireturn F (by simp) rfl (by decide) (by decide) d15_17 ⟨rfl, rfl, rfl⟩
set_option maxRecDepth 65536 in
set_option maxHeartbeats 4000000 in
theorem c_checkIndex (l : Launch) (Z : State) (n0 : Nat) (a0 : Array Value) (hw : ∀ d ∈ tables_1, d.before a0 Z = true) (i j : Int32) {sf : Value} (SF : Sta Z Z.heap "jdk/internal/util/Preconditions" "SIOOBE_FORMATTER" "Ljava/util/function/BiFunction;" sf) (hsf : sf.isRef = true) (h : Heap) (Ls : Lits) (hO : Old Z n0 h) (h0 : 0 ≤ i.toInt) (h1 : i.toInt < j.toInt) :
    Con l Z n0 (⟨"java/lang/String", "checkIndex", "(II)V"⟩ : MethodName) jdk_42_method_155_code 2 none ({ frames := 1, cells := 0, slots := 0, locals := 14 } : Room) [.int i, .int j] h Ls [] (RN fun h' Ls' => h = h' ∧ Ls = Ls') := by
  refine Con.of_run pn0 hO ?_
  intro p e s m below meth c F hs
  refine ⟨[.val (.int i), .val (.int j)], by first | rfl | (simp [entryFrame, mkF, argsToLocals, Value.category]; done) | (rcases ref_cases hv with rfl | ⟨va, rfl⟩ <;> rfl), ?_⟩
  refine Run.iloadN F d14_0 rfl ?_
  refine Run.iloadN F d14_1 rfl ?_
  refine Run.getstatic F (w69 hw) Via.refl SF d14_2 ?_
  refine Run.callStatic F (w71 hw) (w72 hw) (w70 hw) (w73 hw) (c_pcheck l Z n0 a0 hw i j sf h Ls hO hsf h0 h1) rfl pd1 rfl rfl rfl rfl (by decide) (by decide) rfl d14_5 ?_
  rintro _ _ _ ⟨_, rfl, rfl, rfl, rfl⟩ _ _
  refine Run.pop F d14_8 rfl ?_
  exact Run.return_ F (by decide) (by decide) d14_9 ⟨rfl, rfl⟩
set_option maxRecDepth 65536 in
set_option maxHeartbeats 4000000 in
theorem c_l1charAt (l : Launch) (Z : State) (n0 : Nat) (a0 : Array Value) (hw : ∀ d ∈ tables_1, d.before a0 Z = true) (b : Nat) (i w : Int32) (j : Nat) (vs : List Value) {sf : Value} (SF : Sta Z Z.heap "jdk/internal/util/Preconditions" "SIOOBE_FORMATTER" "Ljava/util/function/BiFunction;" sf) (hsf : sf.isRef = true) (h : Heap) (Ls : Lits) (hO : Old Z n0 h) (A : Av Z h b .byte vs) (hi : i.toInt = j) (hv : vs[j]? = some (.int w)) :
    Con l Z n0 (⟨"java/lang/StringLatin1", "charAt", "([BI)C"⟩ : MethodName) jdk_43_method_2_code 2 (some .char) ({ frames := 2, cells := 0, slots := 0, locals := 27 } : Room) [.ref b, .int i] h Ls [] (RV fun v h' Ls' => v = .int (chr (w &&& 255)) ∧ h = h' ∧ Ls = Ls') := by
  refine Con.of_run pn2 hO ?_
  intro p e s m below meth c F hs
  refine ⟨[.val (.ref b), .val (.int i)], by first | rfl | (simp [entryFrame, mkF, argsToLocals, Value.category]; done) | (rcases ref_cases hv with rfl | ⟨va, rfl⟩ <;> rfl), ?_⟩
  have hlen := A.len
  have hj := (List.getElem?_eq_some_iff.mp hv).1
  refine Run.iloadN F d13_0 rfl ?_
  refine Run.aloadN F d13_1 rfl rfl ?_
  refine Run.arrlen F A d13_2 ?_
  refine Run.callStatic F (w66 hw) (w67 hw) (w4 hw) (w68 hw) (c_checkIndex l Z n0 a0 hw i (Int32.ofNat vs.length) SF hsf h Ls hO (by omega) (by rw [i32_ti hlen]; omega)) rfl pd2 rfl rfl rfl rfl (by decide) (by decide) rfl d13_3 ?_
  rintro _ _ _ ⟨rfl, rfl, rfl⟩ _ _
  show Run _ _ _ _ _ _ _ _ _ _ _ _ _ _ _ _ _ _ _ _ []
  refine Run.aloadN F d13_6 rfl rfl ?_
  refine Run.iloadN F d13_7 rfl ?_
  refine Run.baload F A (i32_nneg (by omega)) (i32_nat hi) hv d13_8 ?_
  refine Run.sipush F d13_9 (z := 255) rfl ?_
  refine Run.iand F d13_12 ?_
  refine Run.i2c F d13_13 ?_
  exact Run.ireturn F (by simp) (narrow_chr _) (by decide) (by decide) d13_14 ⟨rfl, rfl, rfl⟩
set_option maxRecDepth 65536 in
set_option maxHeartbeats 4000000 in
theorem c_charAt (l : Launch) (Z : State) (n0 : Nat) (a0 : Array Value) (hw : ∀ d ∈ tables_1, d.before a0 Z = true) (x b : Nat) (i w : Int32) (j : Nat) (vs : List Value) {cz : Int32} (SC : Sta Z Z.heap "java/lang/String" "COMPACT_STRINGS" "Z" (.int cz)) (hcz : cz.toInt ≠ 0) {sf : Value} (SF : Sta Z Z.heap "jdk/internal/util/Preconditions" "SIOOBE_FORMATTER" "Ljava/util/function/BiFunction;" sf) (hsf : sf.isRef = true) (h : Heap) (Ls : Lits) (hO : Old Z n0 h) (S : Str Z h x b 0 vs) (hi : i.toInt = j) (hv : vs[j]? = some (.int w)) :
    Con l Z n0 (⟨"java/lang/String", "charAt", "(I)C"⟩ : MethodName) jdk_42_method_56_code 2 (some .char) ({ frames := 3, cells := 0, slots := 0, locals := 40 } : Room) [.ref x, .int i] h Ls [] (RV fun v h' Ls' => v = .int (chr (w &&& 255)) ∧ h = h' ∧ Ls = Ls') := by
  refine Con.of_run pn0 hO ?_
  intro p e s m below meth c F hs
  refine ⟨[.val (.ref x), .val (.int i)], by first | rfl | (simp [entryFrame, mkF, argsToLocals, Value.category]; done) | (rcases ref_cases hv with rfl | ⟨va, rfl⟩ <;> rfl), ?_⟩
  refine Run.aloadN F d11_0 rfl rfl ?_
  refine Run.callVirtual F (w57 hw) (w58 hw) (fun U hU => notFace_of_selects (args := #[]) (mvT hU (w60 hw))) (w60 hw) (w59 hw) (w4 hw) (w61 hw) S.1 (c_isLatin1 l Z n0 a0 hw x 0 SC hcz h Ls hO S.2.1) rfl pd4 rfl rfl rfl rfl (by decide) (by decide) rfl d11_1 ?_
  rintro _ _ _ ⟨_, rfl, rfl, rfl, rfl⟩ _ _
  refine Run.ifB_eq F d11_4 (t := 16) rfl (fun q => absurd q (by decide)) (fun _ => ?_)
  refine Run.aloadN F d11_7 rfl rfl ?_
  refine Run.getfield F (host := "") (Or.inl (w21 hw)) Via.refl S.2.2.1 d11_8 ?_
  refine Run.iloadN F d11_11 rfl ?_
  refine Run.callStatic F (w62 hw) (w63 hw) (w64 hw) (w65 hw) (c_l1charAt l Z n0 a0 hw b i w j vs SF hsf h Ls hO S.2.2.2 hi hv) rfl pd3 rfl rfl rfl rfl (by decide) (by decide) rfl d11_12 ?_
  rintro _ _ _ ⟨_, rfl, rfl, rfl, rfl⟩ _ _
  exact Run.ireturn F (by simp) (narrow_chr _) (by decide) (by decide) d11_15 ⟨rfl, rfl, rfl⟩
set_option maxRecDepth 65536 in
set_option maxHeartbeats 4000000 in
theorem c_cmpL (l : Launch) (Z : State) (n0 : Nat) (a0 : Array Value) (hw : ∀ d ∈ tables_1, d.before a0 Z = true) (t b : Nat) (cs : List Int32) (h : Heap) (Ls : Lits) (hO : Old Z n0 h) (At : Av Z h t .char (cs.map Value.int)) (Ab : Av Z h b .byte (List.replicate cs.length (.int 0))) (g : n0 ≤ b) (htb : t ≠ b) (hcs : ∀ c ∈ cs, 0 ≤ c.toInt ∧ c.toInt < 256) :
    Con l Z n0 (⟨"java/lang/StringUTF16", "compress", "([CI[BII)I"⟩ : MethodName) jdk_52_method_21_code 7 (some .int) ({ frames := 0, cells := 0, slots := 0, locals := 0 } : Room) [.ref t, .int 0, .ref b, .int 0, .int (Int32.ofNat cs.length)] h Ls [] (RV fun v h' Ls' => v = .int (Int32.ofNat cs.length) ∧ Keep h h' [b] ∧ h'.size = h.size ∧ Av Z h' b .byte (cs.map lb) ∧ Ls = Ls') := by
  refine Con.of_run pn3 hO ?_
  intro p e s m below meth c F hs
  refine ⟨[.val (.ref t), .val (.int 0), .val (.ref b), .val (.int 0), .val (.int (Int32.ofNat cs.length)), .unset, .unset], by first | rfl | (simp [entryFrame, mkF, argsToLocals, Value.category]; done) | (rcases ref_cases hv with rfl | ⟨va, rfl⟩ <;> rfl), ?_⟩
  have hlen : cs.length < 2 ^ 31 := by simpa using At.len
  refine Run.iconst F d8_0 (z := 0) rfl ?_
  refine Run.istore F d8_1 rfl ?_
  dsimp only [List.set]
  refine Run.rec (fun r h' k n Ls' L st => ∃ i x6, i + r = cs.length ∧ okSlot x6 = true ∧ k = 0 ∧ n = 0 ∧ Ls = Ls' ∧ Keep h h' [b] ∧ h'.size = h.size ∧ Av Z h' b .byte ((cs.take i).map lb ++ List.replicate r (.int 0)) ∧ L = [.val (.ref t), .val (.int (Int32.ofNat i)), .val (.ref b), .val (.int (Int32.ofNat i)), .val (.int (Int32.ofNat cs.length)), .val (.int (Int32.ofNat i)), x6] ∧ st = []) ?_ cs.length _ _ _ _ _ _ ⟨0, .unset, by omega, rfl, rfl, rfl, rfl, Keep.refl _ _, rfl, by simpa using Ab, rfl, rfl⟩
  rintro r h' k n Ls' L st ⟨i, x6, hi, hx, rfl, rfl, rfl, K, hsz, A, rfl, rfl⟩ ih
  refine Run.iload F d8_3 rfl ?_
  refine Run.iload F d8_5 rfl ?_
  refine Run.icmp_ge F d8_7 (t := 44) rfl (i32_ti (by omega)) (i32_ti hlen) (fun q => ?_) (fun q => ?_)
  · refine Run.iload F d8_44 rfl ?_
    have hr : r = 0 := by omega
    have hi' : i = cs.length := by omega
    subst hr hi'
    exact Run.ireturn F (by simp) rfl (by decide) (by decide) d8_46 ⟨rfl, K, hsz, by simpa using A, rfl⟩
  · obtain ⟨r, rfl⟩ : ∃ r', r = r' + 1 := ⟨r - 1, by omega⟩
    have hlt : i < cs.length := by omega
    obtain ⟨c1, hc1⟩ : ∃ c1, cs[i]? = some c1 := ⟨_, List.getElem?_eq_getElem hlt⟩
    have hc2 := hcs c1 (List.mem_of_getElem? hc1)
    refine Run.aloadN F d8_10 rfl rfl ?_
    refine Run.iloadN F d8_11 rfl ?_
    refine Run.caload F (At.keep K (ninS htb nin0)) (i32_nn (by omega)) (i32_tn (by omega)) (mapInt_get hc1) d8_12 ?_
    refine Run.istore F d8_13 (by simp [hx]) ?_
    dsimp only [List.set]
    refine Run.iload F d8_15 rfl ?_
    refine Run.sipush F d8_17 (z := 255) rfl ?_
    refine Run.icmp_le F d8_20 (t := 26) rfl rfl (yi := 255) rfl (fun _ => ?_) (fun q => by omega)
    refine Run.aloadN F d8_26 rfl rfl ?_
    refine Run.iloadN F d8_27 rfl ?_
    refine Run.iload F d8_28 rfl ?_
    refine Run.i2b F d8_30 ?_
    refine Run.bastore F A g (i32_nn (by omega)) (i32_tn (by omega)) (by simp; omega) (narB c1) d8_31 ?_
    intro h2 W2 K2 hs2 A2
    refine Run.iinc F d8_32 (z := 1) rfl rfl ?_
    dsimp only [List.set]
    refine Run.iinc F d8_35 (z := 1) rfl rfl ?_
    dsimp only [List.set]
    refine Run.iinc F d8_38 (z := 1) rfl rfl ?_
    dsimp only [List.set]
    refine Run.goto F d8_41 (t := 3) rfl ?_
    refine ih r _ _ _ _ _ _ (by omega) ⟨i + 1, .val (.int c1), by omega, rfl, rfl, rfl, rfl, K.trans K2 (allS (Or.inl (List.mem_singleton.mpr rfl)) all0), hs2.trans hsz, ?_, ?_, rfl⟩
    · rw [← take_set hi hc1]; exact A2
    · simp only [Jvm.Free.XT.succ32]
set_option maxRecDepth 65536 in
set_option maxHeartbeats 4000000 in
theorem c_cmpArrL (l : Launch) (Z : State) (n0 : Nat) (a0 : Array Value) (hw : ∀ d ∈ tables_1, d.before a0 Z = true) (t : Nat) (cs : List Int32) (h : Heap) (Ls : Lits) (hO : Old Z n0 h) (At : Av Z h t .char (cs.map Value.int)) (hcap : cs.length ≤ 5) (hcs : ∀ c ∈ cs, 0 ≤ c.toInt ∧ c.toInt < 256) :
    Con l Z n0 (⟨"java/lang/StringUTF16", "compress", "([CII)[B"⟩ : MethodName) jdk_52_method_16_code 6 (some (.array .byte)) ({ frames := 1, cells := 1, slots := 5, locals := 18 } : Room) [.ref t, .int 0, .int (Int32.ofNat cs.length)] h Ls [] (RV fun v h' Ls' => ∃ b : Nat, v = .ref b ∧ Keep h h' [] ∧ h.size ≤ b ∧ Av Z h' b .byte (cs.map lb) ∧ Ls = Ls') := by
  refine Con.of_run pn3 hO ?_
  intro p e s m below meth c F hs
  refine ⟨[.val (.ref t), .val (.int 0), .val (.int (Int32.ofNat cs.length)), .unset, .unset, .unset], by first | rfl | (simp [entryFrame, mkF, argsToLocals, Value.category]; done) | (rcases ref_cases hv with rfl | ⟨va, rfl⟩ <;> rfl), ?_⟩
  have hlen : cs.length < 2 ^ 31 := by simpa using At.len
  refine Run.iloadN F d7_0 rfl ?_
  refine Run.newarray (aty := .byte) F (w16 hw) (i32_nn hlen) (i32_tn hlen) 5 hcap rfl (by decide) (by decide) d7_1 ?_
  intro h1 b hb K1 lt1 A1
  have hn : n0 ≤ b := by rw [hb, ← hO.1]; exact hO.2.1
  have htb : t ≠ b := by have := At.lt; omega
  have hO1 : Old Z n0 h1 := hO.keep K1 all0
  refine Run.astoreN F d7_3 rfl rfl ?_
  dsimp only [List.set]
  refine Run.aloadN F d7_4 rfl rfl ?_
  refine Run.iloadN F d7_5 rfl ?_
  refine Run.aloadN F d7_6 rfl rfl ?_
  refine Run.iconst F d7_7 (z := 0) rfl ?_
  refine Run.iloadN F d7_8 rfl ?_
  refine Run.callStatic F (w42 hw) (w43 hw) (w40 hw) (w44 hw) (c_cmpL l Z n0 a0 hw t b cs h1 Ls hO1 (At.keep K1 nin0) A1 hn htb hcs) rfl pd5 rfl rfl rfl rfl (by decide) (by decide) rfl d7_9 ?_
  rintro _ h2 _ ⟨_, rfl, rfl, K2, hs2, A2, rfl⟩ _ _
  refine Run.istore F d7_12 rfl ?_
  dsimp only [List.set]
  refine Run.iload F d7_14 rfl ?_
  refine Run.iloadN F d7_16 rfl ?_
  refine Run.icmp_eq F d7_17 (t := 57) rfl rfl rfl (fun _ => ?_) (fun q => absurd rfl q)
  refine Run.aloadN F d7_57 rfl rfl ?_
  exact Run.areturn F rfl rfl (by decide) (by decide) d7_58 ⟨b, rfl, (K1.trans K2 (allS (Or.inr (by omega)) all0)), by omega, A2, rfl⟩
set_option maxRecDepth 65536 in
set_option maxHeartbeats 4000000 in
theorem c_coderLen (l : Launch) (Z : State) (n0 : Nat) (a0 : Array Value) (hw : ∀ d ∈ tables_1, d.before a0 Z = true) (b : Nat) (z r : Int32) (vs : List Value) (h : Heap) (Ls : Lits) (hO : Old Z n0 h) (A : Av Z h b .byte vs) (hr : (XT.ushr (z - Int32.ofNat vs.length) 31).toInt8.toInt32 = r) (hn : narrow .byte (.int r) = .int r) :
    Con l Z n0 (⟨"java/lang/StringUTF16", "coderFromArrayLen", "([BI)B"⟩ : MethodName) jdk_52_method_15_code 2 (some .byte) ({ frames := 0, cells := 0, slots := 0, locals := 0 } : Room) [.ref b, .int z] h Ls [] (RV fun v h' Ls' => v = .int r ∧ h = h' ∧ Ls = Ls') := by
  refine Con.of_run pn3 hO ?_
  intro p e s m below meth c F hs
  refine ⟨[.val (.ref b), .val (.int z)], by first | rfl | (simp [entryFrame, mkF, argsToLocals, Value.category]; done) | (rcases ref_cases hv with rfl | ⟨va, rfl⟩ <;> rfl), ?_⟩
  subst hr
  refine Run.iloadN F d9_0 rfl ?_
  refine Run.aloadN F d9_1 rfl rfl ?_
  refine Run.arrlen F A d9_2 ?_
  refine Run.isub F d9_3 ?_
  refine Run.bipush F d9_4 (z := 31) rfl ?_
  refine Run.iushr F d9_6 ?_
  refine Run.i2b F d9_7 ?_
  exact Run.ireturn F (by simp) hn (by decide) (by decide) d9_8 ⟨rfl, rfl, rfl⟩
set_option maxRecDepth 65536 in
set_option maxHeartbeats 4000000 in
theorem c_initL (l : Launch) (Z : State) (n0 : Nat) (a0 : Array Value) (hw : ∀ d ∈ tables_1, d.before a0 Z = true) (x t : Nat) (cs : List Int32) {cz : Int32} (SC : Sta Z Z.heap "java/lang/String" "COMPACT_STRINGS" "Z" (.int cz)) (hcz : cz.toInt ≠ 0) (h : Heap) (Ls : Lits) (hO : Old Z n0 h) (E : Exa Z h x "java/lang/String") (Fv : Fld Z h x "java/lang/String" "value" "[B" .null) (Fc : Fld Z h x "java/lang/String" "coder" "B" (.int 0)) (g : n0 ≤ x) (At : Av Z h t .char (cs.map Value.int)) (hpos : 0 < cs.length) (hcap : cs.length ≤ 5) (hcs : ∀ c ∈ cs, 0 ≤ c.toInt ∧ c.toInt < 256) :
    Con l Z n0 (⟨"java/lang/String", "<init>", "([CIILjava/lang/Void;)V"⟩ : MethodName) jdk_42_method_149_code 6 none ({ frames := 2, cells := 1, slots := 5, locals := 35 } : Room) [.ref x, .ref t, .int 0, .int (Int32.ofNat cs.length), .null] h Ls [] (RN fun h' Ls' => ∃ b : Nat, Keep h h' [x] ∧ h.size ≤ b ∧ Str Z h' x b 0 (cs.map lb) ∧ Ls = Ls') := by
  refine Con.of_run pn0 hO ?_
  intro p e s m below meth c F hs
  refine ⟨[.val (.ref x), .val (.ref t), .val (.int 0), .val (.int (Int32.ofNat cs.length)), .val .null, .unset], by first | rfl | (simp [entryFrame, mkF, argsToLocals, Value.category]; done) | (rcases ref_cases hv with rfl | ⟨va, rfl⟩ <;> rfl), ?_⟩
  have hlen : cs.length < 2 ^ 31 := by simpa using At.len
  have hne : Jvm.RoadKit.slotOf Z "java/lang/String" "coder" "B" ≠ Jvm.RoadKit.slotOf Z "java/lang/String" "value" "[B" := slot_ne (a0 := a0) (C := "java/lang/String") (Or.inr (w18 hw)) (Or.inr (w17 hw)) (by decide) (t := .byte) (t' := .array .byte) (by decide) (by decide)
  refine Run.aloadN F d2_0 rfl rfl ?_
  refine Run.objInit F (w12 hw) (w13 hw) (w14 hw) rfl rfl rfl d2_1 ?_
  refine Run.iloadN F d2_4 rfl ?_
  refine Run.if_ne F d2_5 (t := 27) rfl (i32_ti hlen) (fun _ => ?_) (fun q => by omega)
  refine Run.getstatic F (w37 hw) Via.refl SC d2_27 ?_
  refine Run.if_eq F d2_30 (t := 58) rfl rfl (fun q => absurd q hcz) (fun _ => ?_)
  refine Run.aloadN F d2_33 rfl rfl ?_
  refine Run.iloadN F d2_34 rfl ?_
  refine Run.iloadN F d2_35 rfl ?_
  refine Run.callStatic F (w38 hw) (w39 hw) (w40 hw) (w41 hw) (c_cmpArrL l Z n0 a0 hw t cs h Ls hO At hcap hcs) rfl pd6 rfl rfl rfl rfl (by decide) (by decide) rfl d2_36 ?_
  rintro _ h1 _ ⟨_, rfl, b, rfl, K1, hb, A1, rfl⟩ hO1 _
  refine Run.astore F d2_39 rfl rfl ?_
  dsimp only [List.set]
  refine Run.aloadN F d2_41 rfl rfl ?_
  refine Run.aload F d2_42 rfl rfl ?_
  refine Run.iloadN F d2_44 rfl ?_
  refine Run.callStatic F (w45 hw) (w46 hw) (w40 hw) (w47 hw) (c_coderLen l Z n0 a0 hw b (Int32.ofNat cs.length) 0 (cs.map lb) h1 Ls hO1 A1 (by rw [List.length_map]; exact coder0 _) rfl) rfl pd7 rfl rfl rfl rfl (by decide) (by decide) rfl d2_45 ?_
  rintro _ _ _ ⟨_, rfl, rfl, rfl, rfl⟩ _ _
  refine Run.putfield F (w22 hw) Via.refl (Fc.keep K1 nin0) (E.keep K1) g (Or.inr ⟨(w18 hw), rfl, rfl⟩) (w3 hw) (ty := .byte) (by decide) (v' := .int 0) rfl rfl d2_48 ?_
  intro h2 W2 K2 hs2 F2
  refine Run.aloadN F d2_51 rfl rfl ?_
  refine Run.aload F d2_52 rfl rfl ?_
  have hxb : b ≠ x := by have := (ltE E); omega
  have Fv2 : Fld Z h2 x "java/lang/String" "value" "[B" .null := (Fv.keep K1 nin0).other W2 (Or.inr (Ne.symm hne))
  have E2 : Exa Z h2 x "java/lang/String" := (E.keep K1).keep K2
  refine Run.putfield F (w21 hw) Via.refl Fv2 E2 g (Or.inr ⟨(w17 hw), rfl, rfl⟩) (w3 hw) (ty := (.array .byte)) (by decide) (v' := .ref b) rfl rfl d2_54 ?_
  intro h3 W3 K3 hs3 F3
  have K13 : Keep h h3 [x] := ((K1.mono (ws' := [x]) (by simp)).trans K2 (allS (Or.inl (List.mem_singleton.mpr rfl)) all0)).trans K3 (allS (Or.inl (List.mem_singleton.mpr rfl)) all0)
  exact Run.return_ F (by decide) (by decide) d2_57 ⟨b, K13, hb, ⟨E2.keep K3, F2.other W3 (Or.inr hne), F3, (A1.keep K2 (ninS hxb nin0)).keep K3 (ninS hxb nin0)⟩, rfl⟩
set_option maxRecDepth 65536 in
set_option maxHeartbeats 4000000 in
theorem c_initE (l : Launch) (Z : State) (n0 : Nat) (a0 : Array Value) (hw : ∀ d ∈ tables_1, d.before a0 Z = true) (x t : Nat) (lt : List (String × Addr)) (wS : ∀ a ∈ Bundle.stringAtoms, a.before a0 Z = true) (hh : Jvm.Lit.constHeld Z "java/lang/String" 7) (hcw : Jvm.Lit.compactW.before a0 Z = true) (h : Heap) (Ls : Lits) (hO : Old Z n0 h) (E : Exa Z h x "java/lang/String") (Fv : Fld Z h x "java/lang/String" "value" "[B" .null) (Fc : Fld Z h x "java/lang/String" "coder" "B" (.int 0)) (g : n0 ≤ x) (hLs : Ls = some lt) (hlt : ∀ t ∈ lt, t.1 = "" → ∃ b : Nat, Str Z h t.2 b 0 [] ∧ t.2 ≠ x ∧ b ≠ x) :
    Con l Z n0 (⟨"java/lang/String", "<init>", "([CIILjava/lang/Void;)V"⟩ : MethodName) jdk_42_method_149_code 6 none ({ frames := 1, cells := 4, slots := 8, locals := 12 } : Room) [.ref x, .ref t, .int 0, .int 0, .null] h Ls [] (RN fun h' Ls' => ∃ b a1 b1 a2 b2 : Nat, Keep h h' [x] ∧ Str Z h' x b 0 [] ∧ Ls' = some (("", a2) :: ("", a1) :: lt) ∧ Str Z h' a1 b1 0 [] ∧ Str Z h' a2 b2 0 [] ∧ (b ≠ x ∧ a1 ≠ x ∧ b1 ≠ x ∧ a2 ≠ x ∧ b2 ≠ x)) := by
  refine Con.of_run pn0 hO ?_
  intro p e s m below meth c F hs
  refine ⟨[.val (.ref x), .val (.ref t), .val (.int 0), .val (.int 0), .val .null, .unset], by first | rfl | (simp [entryFrame, mkF, argsToLocals, Value.category]; done) | (rcases ref_cases hv with rfl | ⟨va, rfl⟩ <;> rfl), ?_⟩
  subst hLs
  have e0 : litB "" = [] := by simp [litB]
  have hne : Jvm.RoadKit.slotOf Z "java/lang/String" "coder" "B" ≠ Jvm.RoadKit.slotOf Z "java/lang/String" "value" "[B" := slot_ne (a0 := a0) (C := "java/lang/String") (Or.inr (w18 hw)) (Or.inr (w17 hw)) (by decide) (t := .byte) (t' := .array .byte) (by decide) (by decide)
  refine Run.aloadN F d2_0 rfl rfl ?_
  refine Run.objInit F (w12 hw) (w13 hw) (w14 hw) rfl rfl rfl d2_1 ?_
  refine Run.iloadN F d2_4 rfl ?_
  refine Run.if_ne F d2_5 (t := 27) rfl rfl (fun q => absurd rfl q) (fun _ => ?_)
  refine Run.aloadN F d2_8 rfl rfl ?_
  refine Run.ldcS (P := fun a b => a ≠ x ∧ b ≠ x) F (w15 hw) wS hh hcw (by simp) (by rw [e0]; exact hlt) 0 (by simp) rfl (by decide) (by decide) d2_9 ?_
  intro h1 a1 b1 K1 S1 p1
  rw [e0] at S1
  have lx := (ltE E)
  have p1' : a1 ≠ x ∧ b1 ≠ x := by rcases p1 with ⟨u, v⟩ | ⟨u, v⟩ | ⟨u, v⟩ <;> first | exact ⟨u, v⟩ | (constructor <;> omega)
  refine Run.getfield F (host := "") (Or.inl (w21 hw)) Via.refl S1.2.2.1 d2_11 ?_
  refine Run.putfield F (w21 hw) Via.refl (Fv.keep K1 nin0) (E.keep K1) g (Or.inr ⟨(w17 hw), rfl, rfl⟩) (w3 hw) (ty := (.array .byte)) (by decide) (v' := .ref b1) rfl rfl d2_14 ?_
  intro h2 W2 K2 hs2 F2
  have S1' : Str Z h2 a1 b1 0 [] := S1.keep K2 (ninS p1'.1 nin0) (ninS p1'.2 nin0)
  have E2 : Exa Z h2 x "java/lang/String" := (E.keep K1).keep K2
  refine Run.aloadN F d2_17 rfl rfl ?_
  refine Run.ldcS (P := fun a b => a ≠ x ∧ b ≠ x) F (w15 hw) wS hh hcw (by simp) (by
    rw [e0]; intro t ht he
    rcases List.mem_cons.mp ht with rfl | ht
    · exact ⟨b1, S1', p1'⟩
    · obtain ⟨b, q1, q2, q3⟩ := hlt t ht he
      exact ⟨b, (q1.keep K1 nin0 nin0).keep K2 (ninS q2 nin0) (ninS q3 nin0), q2, q3⟩) 0 (by simp) (by decide) (by decide) (by decide) d2_18 ?_
  intro h3 a2 b2 K3 S2 p2
  rw [e0] at S2
  have l2 := (ltE E2)
  have p2' : a2 ≠ x ∧ b2 ≠ x := by rcases p2 with ⟨u, v⟩ | ⟨u, v⟩ | ⟨u, v⟩ <;> first | exact ⟨u, v⟩ | (constructor <;> omega)
  refine Run.getfield F (host := "") (Or.inl (w22 hw)) Via.refl S2.2.1 d2_20 ?_
  refine Run.putfield F (w22 hw) Via.refl (((Fc.keep K1 nin0).other W2 (Or.inr hne)).keep K3 nin0) (E2.keep K3) g (Or.inr ⟨(w18 hw), rfl, rfl⟩) (w3 hw) (ty := .byte) (by decide) (v' := .int 0) rfl rfl d2_23 ?_
  intro h4 W4 K4 hs4 F4
  have K04 : Keep h h4 [x] := ((((K1.mono (ws' := [x]) (by simp)).trans K2 (allS (Or.inl (List.mem_singleton.mpr rfl)) all0)).trans K3 all0).trans K4 (allS (Or.inl (List.mem_singleton.mpr rfl)) all0))
  have Fx4 : Fld Z h4 x "java/lang/String" "value" "[B" (.ref b1) := (F2.keep K3 nin0).other W4 (Or.inr (Ne.symm hne))
  exact Run.return_ F (by decide) (by decide) d2_26 ⟨b1, a1, b1, a2, b2, K04, ⟨(E2.keep K3).keep K4, F4, Fx4, (S1'.2.2.2.keep K3 nin0).keep K4 (ninS p1'.2 nin0)⟩, rfl, (S1'.keep K3 nin0 nin0).keep K4 (ninS p1'.1 nin0) (ninS p1'.2 nin0), S2.keep K4 (ninS p2'.1 nin0) (ninS p2'.2 nin0), p1'.2, p1'.1, p1'.2, p2'.1, p2'.2⟩
set_option maxRecDepth 65536 in
set_option maxHeartbeats 4000000 in
theorem c_newL (l : Launch) (Z : State) (n0 : Nat) (a0 : Array Value) (hw : ∀ d ∈ tables_1, d.before a0 Z = true) (x t : Nat) (cs : List Int32) {cz : Int32} (SC : Sta Z Z.heap "java/lang/String" "COMPACT_STRINGS" "Z" (.int cz)) (hcz : cz.toInt ≠ 0) (h : Heap) (Ls : Lits) (hO : Old Z n0 h) (E : Exa Z h x "java/lang/String") (Fv : Fld Z h x "java/lang/String" "value" "[B" .null) (Fc : Fld Z h x "java/lang/String" "coder" "B" (.int 0)) (g : n0 ≤ x) (At : Av Z h t .char (cs.map Value.int)) (hpos : 0 < cs.length) (hcap : cs.length ≤ 5) (hcs : ∀ c ∈ cs, 0 ≤ c.toInt ∧ c.toInt < 256) :
    Con l Z n0 (⟨"java/lang/String", "<init>", "([C)V"⟩ : MethodName) jdk_42_method_3_code 2 none ({ frames := 3, cells := 1, slots := 5, locals := 52 } : Room) [.ref x, .ref t] h Ls [] (RN fun h' Ls' => ∃ b : Nat, Keep h h' [x] ∧ h.size ≤ b ∧ Str Z h' x b 0 (cs.map lb) ∧ Ls = Ls') := by
  refine Con.of_run pn0 hO ?_
  intro p e s m below meth c F hs
  refine ⟨[.val (.ref x), .val (.ref t)], by first | rfl | (simp [entryFrame, mkF, argsToLocals, Value.category]; done) | (rcases ref_cases hv with rfl | ⟨va, rfl⟩ <;> rfl), ?_⟩
  refine Run.aloadN F d1_0 rfl rfl ?_
  refine Run.aloadN F d1_1 rfl rfl ?_
  refine Run.iconst F d1_2 (z := 0) rfl ?_
  refine Run.aloadN F d1_3 rfl rfl ?_
  refine Run.arrlen F At d1_4 ?_
  rw [List.length_map]
  refine Run.aconstNull F d1_5 ?_
  refine Run.callInit F (w8 hw) (w9 hw) (w4 hw) (w11 hw) (c_initL l Z n0 a0 hw x t cs SC hcz h Ls hO E Fv Fc g At hpos hcap hcs) rfl rfl pd8 rfl rfl rfl rfl (by decide) (by decide) rfl d1_6 ?_
  rintro _ h1 _ ⟨rfl, b, K1, hb, S1, rfl⟩ _ _
  exact Run.return_ F (by decide) (by decide) d1_9 ⟨b, K1, hb, S1, rfl⟩
set_option maxRecDepth 65536 in
set_option maxHeartbeats 4000000 in
theorem c_newE (l : Launch) (Z : State) (n0 : Nat) (a0 : Array Value) (hw : ∀ d ∈ tables_1, d.before a0 Z = true) (x t : Nat) (lt : List (String × Addr)) (wS : ∀ a ∈ Bundle.stringAtoms, a.before a0 Z = true) (hh : Jvm.Lit.constHeld Z "java/lang/String" 7) (hcw : Jvm.Lit.compactW.before a0 Z = true) (h : Heap) (Ls : Lits) (hO : Old Z n0 h) (E : Exa Z h x "java/lang/String") (Fv : Fld Z h x "java/lang/String" "value" "[B" .null) (Fc : Fld Z h x "java/lang/String" "coder" "B" (.int 0)) (g : n0 ≤ x) (At : Av Z h t .char []) (hLs : Ls = some lt) (hlt : ∀ t ∈ lt, t.1 = "" → ∃ b : Nat, Str Z h t.2 b 0 [] ∧ t.2 ≠ x ∧ b ≠ x) :
    Con l Z n0 (⟨"java/lang/String", "<init>", "([C)V"⟩ : MethodName) jdk_42_method_3_code 2 none ({ frames := 2, cells := 4, slots := 8, locals := 29 } : Room) [.ref x, .ref t] h Ls [] (RN fun h' Ls' => ∃ b a1 b1 a2 b2 : Nat, Keep h h' [x] ∧ Str Z h' x b 0 [] ∧ Ls' = some (("", a2) :: ("", a1) :: lt) ∧ Str Z h' a1 b1 0 [] ∧ Str Z h' a2 b2 0 [] ∧ (b ≠ x ∧ a1 ≠ x ∧ b1 ≠ x ∧ a2 ≠ x ∧ b2 ≠ x)) := by
  refine Con.of_run pn0 hO ?_
  intro p e s m below meth c F hs
  refine ⟨[.val (.ref x), .val (.ref t)], by first | rfl | (simp [entryFrame, mkF, argsToLocals, Value.category]; done) | (rcases ref_cases hv with rfl | ⟨va, rfl⟩ <;> rfl), ?_⟩
  refine Run.aloadN F d1_0 rfl rfl ?_
  refine Run.aloadN F d1_1 rfl rfl ?_
  refine Run.iconst F d1_2 (z := 0) rfl ?_
  refine Run.aloadN F d1_3 rfl rfl ?_
  refine Run.arrlen F At d1_4 ?_
  refine Run.aconstNull F d1_5 ?_
  refine Run.callInit F (w8 hw) (w9 hw) (w4 hw) (w11 hw) (c_initE l Z n0 a0 hw x t lt wS hh hcw h Ls hO E Fv Fc g hLs hlt) rfl rfl pd8 rfl rfl rfl rfl (by decide) (by decide) rfl d1_6 ?_
  rintro _ h1 _ ⟨rfl, hq⟩ _ _
  exact Run.return_ F (by decide) (by decide) d1_9 hq

def al (c : Int32) : Bool := decide ((65 ≤ c.toInt ∧ c.toInt ≤ 90) ∨ (97 ≤ c.toInt ∧ c.toInt ≤ 122) ∨ (48 ≤ c.toInt ∧ c.toInt ≤ 57))
def inn (c : Int32) : Bool := al c || decide (c.toInt = 95) || decide (c.toInt = 45)
theorem al_t {c : Int32} (h : (65 ≤ c.toInt ∧ c.toInt ≤ 90) ∨ (97 ≤ c.toInt ∧ c.toInt ≤ 122) ∨ (48 ≤ c.toInt ∧ c.toInt ≤ 57)) : Value.int 1 = .int (b2i (al c)) := by
  rw [show al c = true from decide_eq_true h]; rfl
theorem al_f {c : Int32} (h : ¬ ((65 ≤ c.toInt ∧ c.toInt ≤ 90) ∨ (97 ≤ c.toInt ∧ c.toInt ≤ 122) ∨ (48 ≤ c.toInt ∧ c.toInt ≤ 57))) : Value.int 0 = .int (b2i (al c)) := by
  rw [show al c = false from decide_eq_false h]; rfl
def v0 (cs : List Int32) : Bool := cs[0]?.any al && cs[cs.length - 1]?.any al
def inv (cs : List Int32) (i : Nat) : Bool := v0 cs && ((cs.take i).drop 1).all inn
theorem inv_one (cs : List Int32) : inv cs 1 = v0 cs := by
  cases cs <;> simp [inv]
theorem inv_step {cs : List Int32} {i : Nat} {c : Int32} (h1 : 1 ≤ i) (hc : cs[i]? = some c) : inv cs (i + 1) = (inv cs i && inn c) := by
  have hl := (List.getElem?_eq_some_iff.mp hc).1
  have : (cs.take (i + 1)).drop 1 = (cs.take i).drop 1 ++ [c] := by
    rw [List.take_succ, hc, List.drop_append_of_le_length (by simp; omega)]; rfl
  simp [inv, this, Bool.and_assoc]
theorem inv_le {cs : List Int32} {i j : Nat} (h : i ≤ j) (hf : inv cs i = false) : inv cs j = false := by
  simp only [inv, Bool.and_eq_false_iff] at hf ⊢
  rcases hf with hf | hf
  · exact Or.inl hf
  · right
    rw [List.all_eq_false] at hf ⊢
    obtain ⟨x, hx, hn⟩ := hf
    refine ⟨x, ?_, hn⟩
    have e : (cs.take i).drop 1 = ((cs.take j).drop 1).take (i - 1) := by rw [List.drop_take, List.drop_take, List.take_take]; congr 1; omega
    rw [e] at hx
    exact List.mem_of_mem_take hx
theorem inv_small {cs : List Int32} (h : cs.length ≤ 2) {i : Nat} (hi : i ≤ 1) : inv cs i = v0 cs := by
  match i, hi with
  | 0, _ => simp [inv]
  | 1, _ => exact inv_one cs
theorem inv_end {cs : List Int32} {i : Nat} (h1 : 1 ≤ i) (h2 : i ≤ cs.length - 1 ∨ i = 1) (h3 : cs.length - 1 ≤ i) : inv cs i = inv cs (cs.length - 1) := by
  rcases h2 with h | h
  · rw [show i = cs.length - 1 by omega]
  · subst h; rw [inv_small (by omega) (Nat.le_refl 1), inv_small (by omega) h3]
theorem inv_false {cs : List Int32} {i : Nat} (h1 : 1 ≤ i) (h2 : i ≤ cs.length - 1 ∨ i = 1) (hf : inv cs i = false) : inv cs (cs.length - 1) = false := by
  rcases h2 with h | h
  · exact inv_le h hf
  · subst h
    by_cases q : 1 ≤ cs.length - 1
    · exact inv_le q hf
    · rw [inv_one] at hf; rw [inv_small (by omega) (by omega)]; exact hf

set_option maxRecDepth 65536 in
set_option maxHeartbeats 4000000 in
theorem c_ascii (l : Launch) (Z : State) (n0 : Nat) (a0 : Array Value) (hw : ∀ d ∈ tables_1, d.before a0 Z = true) (ch : Int32) (h : Heap) (Ls : Lits) (hO : Old Z n0 h)  :
    Con l Z n0 (⟨"com/example/error_catalog/errorcatalog/render/JsonApiResponse", "isAsciiLetterOrDigit", "(C)Z"⟩ : MethodName) prog_50_method_8_code 1 (some .boolean) ({ frames := 0, cells := 0, slots := 0, locals := 0 } : Room) [.int ch] h Ls [] (RV fun v h' Ls' => v = .int (b2i (al ch)) ∧ h = h' ∧ Ls = Ls') := by
  refine Con.of_run pn4 hO ?_
  intro p e s m below meth c F hs
  refine ⟨[.val (.int ch)], by first | rfl | (simp [entryFrame, mkF, argsToLocals, Value.category]; done) | (rcases ref_cases hv with rfl | ⟨va, rfl⟩ <;> rfl), ?_⟩
  refine Run.iloadN F d16_0 rfl ?_
  refine Run.bipush F d16_1 (z := 65) rfl ?_
  refine Run.icmp_lt F d16_3 (t := 12) rfl rfl (yi := 65) rfl (fun q0 => ?_) (fun q0 => ?_)
  · refine Run.iloadN F d16_12 rfl ?_
    refine Run.bipush F d16_13 (z := 97) rfl ?_
    refine Run.icmp_lt F d16_15 (t := 24) rfl rfl (yi := 97) rfl (fun q1 => ?_) (fun q1 => ?_)
    · refine Run.iloadN F d16_24 rfl ?_
      refine Run.bipush F d16_25 (z := 48) rfl ?_
      refine Run.icmp_lt F d16_27 (t := 40) rfl rfl (yi := 48) rfl (fun q2 => ?_) (fun q2 => ?_)
      · refine Run.iconst F d16_40 (z := 0) rfl ?_
        exact Run.ireturn F (by simp) rfl (by decide) (by decide) d16_41 ⟨al_f (by omega), rfl, rfl⟩
      · refine Run.iloadN F d16_30 rfl ?_
        refine Run.bipush F d16_31 (z := 57) rfl ?_
        refine Run.icmp_gt F d16_33 (t := 40) rfl rfl (yi := 57) rfl (fun q3 => ?_) (fun q3 => ?_)
        · refine Run.iconst F d16_40 (z := 0) rfl ?_
          exact Run.ireturn F (by simp) rfl (by decide) (by decide) d16_41 ⟨al_f (by omega), rfl, rfl⟩
        · refine Run.iconst F d16_36 (z := 1) rfl ?_
          refine Run.goto F d16_37 (t := 41) rfl ?_
          exact Run.ireturn F (by simp) rfl (by decide) (by decide) d16_41 ⟨al_t (by omega), rfl, rfl⟩
    · refine Run.iloadN F d16_18 rfl ?_
      refine Run.bipush F d16_19 (z := 122) rfl ?_
      refine Run.icmp_le F d16_21 (t := 36) rfl rfl (yi := 122) rfl (fun q4 => ?_) (fun q4 => ?_)
      · refine Run.iconst F d16_36 (z := 1) rfl ?_
        refine Run.goto F d16_37 (t := 41) rfl ?_
        exact Run.ireturn F (by simp) rfl (by decide) (by decide) d16_41 ⟨al_t (by omega), rfl, rfl⟩
      · refine Run.iloadN F d16_24 rfl ?_
        refine Run.bipush F d16_25 (z := 48) rfl ?_
        refine Run.icmp_lt F d16_27 (t := 40) rfl rfl (yi := 48) rfl (fun q5 => ?_) (fun q5 => ?_)
        · refine Run.iconst F d16_40 (z := 0) rfl ?_
          exact Run.ireturn F (by simp) rfl (by decide) (by decide) d16_41 ⟨al_f (by omega), rfl, rfl⟩
        · refine Run.iloadN F d16_30 rfl ?_
          refine Run.bipush F d16_31 (z := 57) rfl ?_
          refine Run.icmp_gt F d16_33 (t := 40) rfl rfl (yi := 57) rfl (fun q6 => ?_) (fun q6 => ?_)
          · refine Run.iconst F d16_40 (z := 0) rfl ?_
            exact Run.ireturn F (by simp) rfl (by decide) (by decide) d16_41 ⟨al_f (by omega), rfl, rfl⟩
          · refine Run.iconst F d16_36 (z := 1) rfl ?_
            refine Run.goto F d16_37 (t := 41) rfl ?_
            exact Run.ireturn F (by simp) rfl (by decide) (by decide) d16_41 ⟨al_t (by omega), rfl, rfl⟩
  · refine Run.iloadN F d16_6 rfl ?_
    refine Run.bipush F d16_7 (z := 90) rfl ?_
    refine Run.icmp_le F d16_9 (t := 36) rfl rfl (yi := 90) rfl (fun q7 => ?_) (fun q7 => ?_)
    · refine Run.iconst F d16_36 (z := 1) rfl ?_
      refine Run.goto F d16_37 (t := 41) rfl ?_
      exact Run.ireturn F (by simp) rfl (by decide) (by decide) d16_41 ⟨al_t (by omega), rfl, rfl⟩
    · refine Run.iloadN F d16_12 rfl ?_
      refine Run.bipush F d16_13 (z := 97) rfl ?_
      refine Run.icmp_lt F d16_15 (t := 24) rfl rfl (yi := 97) rfl (fun q8 => ?_) (fun q8 => ?_)
      · refine Run.iloadN F d16_24 rfl ?_
        refine Run.bipush F d16_25 (z := 48) rfl ?_
        refine Run.icmp_lt F d16_27 (t := 40) rfl rfl (yi := 48) rfl (fun q9 => ?_) (fun q9 => ?_)
        · refine Run.iconst F d16_40 (z := 0) rfl ?_
          exact Run.ireturn F (by simp) rfl (by decide) (by decide) d16_41 ⟨al_f (by omega), rfl, rfl⟩
        · refine Run.iloadN F d16_30 rfl ?_
          refine Run.bipush F d16_31 (z := 57) rfl ?_
          refine Run.icmp_gt F d16_33 (t := 40) rfl rfl (yi := 57) rfl (fun q10 => ?_) (fun q10 => ?_)
          · refine Run.iconst F d16_40 (z := 0) rfl ?_
            exact Run.ireturn F (by simp) rfl (by decide) (by decide) d16_41 ⟨al_f (by omega), rfl, rfl⟩
          · refine Run.iconst F d16_36 (z := 1) rfl ?_
            refine Run.goto F d16_37 (t := 41) rfl ?_
            exact Run.ireturn F (by simp) rfl (by decide) (by decide) d16_41 ⟨al_t (by omega), rfl, rfl⟩
      · refine Run.iloadN F d16_18 rfl ?_
        refine Run.bipush F d16_19 (z := 122) rfl ?_
        refine Run.icmp_le F d16_21 (t := 36) rfl rfl (yi := 122) rfl (fun q11 => ?_) (fun q11 => ?_)
        · refine Run.iconst F d16_36 (z := 1) rfl ?_
          refine Run.goto F d16_37 (t := 41) rfl ?_
          exact Run.ireturn F (by simp) rfl (by decide) (by decide) d16_41 ⟨al_t (by omega), rfl, rfl⟩
        · refine Run.iloadN F d16_24 rfl ?_
          refine Run.bipush F d16_25 (z := 48) rfl ?_
          refine Run.icmp_lt F d16_27 (t := 40) rfl rfl (yi := 48) rfl (fun q12 => ?_) (fun q12 => ?_)
          · refine Run.iconst F d16_40 (z := 0) rfl ?_
            exact Run.ireturn F (by simp) rfl (by decide) (by decide) d16_41 ⟨al_f (by omega), rfl, rfl⟩
          · refine Run.iloadN F d16_30 rfl ?_
            refine Run.bipush F d16_31 (z := 57) rfl ?_
            refine Run.icmp_gt F d16_33 (t := 40) rfl rfl (yi := 57) rfl (fun q13 => ?_) (fun q13 => ?_)
            · refine Run.iconst F d16_40 (z := 0) rfl ?_
              exact Run.ireturn F (by simp) rfl (by decide) (by decide) d16_41 ⟨al_f (by omega), rfl, rfl⟩
            · refine Run.iconst F d16_36 (z := 1) rfl ?_
              refine Run.goto F d16_37 (t := 41) rfl ?_
              exact Run.ireturn F (by simp) rfl (by decide) (by decide) d16_41 ⟨al_t (by omega), rfl, rfl⟩
set_option maxRecDepth 65536 in
set_option maxHeartbeats 4000000 in
theorem c_alnum (l : Launch) (Z : State) (n0 : Nat) (a0 : Array Value) (hw : ∀ d ∈ tables_1, d.before a0 Z = true) (ch : Int32) (h : Heap) (Ls : Lits) (hO : Old Z n0 h)  :
    Con l Z n0 (⟨"com/example/error_catalog/errorcatalog/render/JsonApiResponseIsMemberNamePinLaw", "alnum", "(C)Z"⟩ : MethodName) method_2_code 4 (some .boolean) ({ frames := 0, cells := 0, slots := 0, locals := 0 } : Room) [.int ch] h Ls [] (RV fun v h' Ls' => v = .int (b2i (al ch)) ∧ h = h' ∧ Ls = Ls') := by
  refine Con.of_run pn5 hO ?_
  intro p e s m below meth c F hs
  refine ⟨[.val (.int ch), .unset, .unset, .unset], by first | rfl | (simp [entryFrame, mkF, argsToLocals, Value.category]; done) | (rcases ref_cases hv with rfl | ⟨va, rfl⟩ <;> rfl), ?_⟩
  refine Run.iloadN F d10_0 rfl ?_
  refine Run.bipush F d10_1 (z := 65) rfl ?_
  refine Run.icmp_lt F d10_3 (t := 16) rfl rfl (yi := 65) rfl (fun q0 => ?_) (fun q0 => ?_)
  · refine Run.iconst F d10_16 (z := 0) rfl ?_
    refine Run.istoreN F d10_17 rfl ?_
    dsimp only [List.set]
    refine Run.iloadN F d10_18 rfl ?_
    refine Run.bipush F d10_19 (z := 97) rfl ?_
    refine Run.icmp_lt F d10_21 (t := 34) rfl rfl (yi := 97) rfl (fun q1 => ?_) (fun q1 => ?_)
    · refine Run.iconst F d10_34 (z := 0) rfl ?_
      refine Run.istoreN F d10_35 rfl ?_
      dsimp only [List.set]
      refine Run.iloadN F d10_36 rfl ?_
      refine Run.bipush F d10_37 (z := 48) rfl ?_
      refine Run.icmp_lt F d10_39 (t := 52) rfl rfl (yi := 48) rfl (fun q2 => ?_) (fun q2 => ?_)
      · refine Run.iconst F d10_52 (z := 0) rfl ?_
        refine Run.istoreN F d10_53 rfl ?_
        dsimp only [List.set]
        refine Run.iloadN F d10_54 rfl ?_
        refine Run.ifNo F d10_55 rfl ?_
        refine Run.iloadN F d10_58 rfl ?_
        refine Run.ifNo F d10_59 rfl ?_
        refine Run.iloadN F d10_62 rfl ?_
        refine Run.ifYes F d10_63 (t := 70) rfl rfl ?_
        refine Run.iconst F d10_70 (z := 0) rfl ?_
        exact Run.ireturn F (by simp) rfl (by decide) (by decide) d10_71 ⟨al_f (by omega), rfl, rfl⟩
      · refine Run.iloadN F d10_42 rfl ?_
        refine Run.bipush F d10_43 (z := 57) rfl ?_
        refine Run.icmp_gt F d10_45 (t := 52) rfl rfl (yi := 57) rfl (fun q3 => ?_) (fun q3 => ?_)
        · refine Run.iconst F d10_52 (z := 0) rfl ?_
          refine Run.istoreN F d10_53 rfl ?_
          dsimp only [List.set]
          refine Run.iloadN F d10_54 rfl ?_
          refine Run.ifNo F d10_55 rfl ?_
          refine Run.iloadN F d10_58 rfl ?_
          refine Run.ifNo F d10_59 rfl ?_
          refine Run.iloadN F d10_62 rfl ?_
          refine Run.ifYes F d10_63 (t := 70) rfl rfl ?_
          refine Run.iconst F d10_70 (z := 0) rfl ?_
          exact Run.ireturn F (by simp) rfl (by decide) (by decide) d10_71 ⟨al_f (by omega), rfl, rfl⟩
        · refine Run.iconst F d10_48 (z := 1) rfl ?_
          refine Run.goto F d10_49 (t := 53) rfl ?_
          refine Run.istoreN F d10_53 rfl ?_
          dsimp only [List.set]
          refine Run.iloadN F d10_54 rfl ?_
          refine Run.ifNo F d10_55 rfl ?_
          refine Run.iloadN F d10_58 rfl ?_
          refine Run.ifNo F d10_59 rfl ?_
          refine Run.iloadN F d10_62 rfl ?_
          refine Run.ifNo F d10_63 rfl ?_
          refine Run.iconst F d10_66 (z := 1) rfl ?_
          refine Run.goto F d10_67 (t := 71) rfl ?_
          exact Run.ireturn F (by simp) rfl (by decide) (by decide) d10_71 ⟨al_t (by omega), rfl, rfl⟩
    · refine Run.iloadN F d10_24 rfl ?_
      refine Run.bipush F d10_25 (z := 122) rfl ?_
      refine Run.icmp_gt F d10_27 (t := 34) rfl rfl (yi := 122) rfl (fun q4 => ?_) (fun q4 => ?_)
      · refine Run.iconst F d10_34 (z := 0) rfl ?_
        refine Run.istoreN F d10_35 rfl ?_
        dsimp only [List.set]
        refine Run.iloadN F d10_36 rfl ?_
        refine Run.bipush F d10_37 (z := 48) rfl ?_
        refine Run.icmp_lt F d10_39 (t := 52) rfl rfl (yi := 48) rfl (fun q5 => ?_) (fun q5 => ?_)
        · refine Run.iconst F d10_52 (z := 0) rfl ?_
          refine Run.istoreN F d10_53 rfl ?_
          dsimp only [List.set]
          refine Run.iloadN F d10_54 rfl ?_
          refine Run.ifNo F d10_55 rfl ?_
          refine Run.iloadN F d10_58 rfl ?_
          refine Run.ifNo F d10_59 rfl ?_
          refine Run.iloadN F d10_62 rfl ?_
          refine Run.ifYes F d10_63 (t := 70) rfl rfl ?_
          refine Run.iconst F d10_70 (z := 0) rfl ?_
          exact Run.ireturn F (by simp) rfl (by decide) (by decide) d10_71 ⟨al_f (by omega), rfl, rfl⟩
        · refine Run.iloadN F d10_42 rfl ?_
          refine Run.bipush F d10_43 (z := 57) rfl ?_
          refine Run.icmp_gt F d10_45 (t := 52) rfl rfl (yi := 57) rfl (fun q6 => ?_) (fun q6 => ?_)
          · refine Run.iconst F d10_52 (z := 0) rfl ?_
            refine Run.istoreN F d10_53 rfl ?_
            dsimp only [List.set]
            refine Run.iloadN F d10_54 rfl ?_
            refine Run.ifNo F d10_55 rfl ?_
            refine Run.iloadN F d10_58 rfl ?_
            refine Run.ifNo F d10_59 rfl ?_
            refine Run.iloadN F d10_62 rfl ?_
            refine Run.ifYes F d10_63 (t := 70) rfl rfl ?_
            refine Run.iconst F d10_70 (z := 0) rfl ?_
            exact Run.ireturn F (by simp) rfl (by decide) (by decide) d10_71 ⟨al_f (by omega), rfl, rfl⟩
          · refine Run.iconst F d10_48 (z := 1) rfl ?_
            refine Run.goto F d10_49 (t := 53) rfl ?_
            refine Run.istoreN F d10_53 rfl ?_
            dsimp only [List.set]
            refine Run.iloadN F d10_54 rfl ?_
            refine Run.ifNo F d10_55 rfl ?_
            refine Run.iloadN F d10_58 rfl ?_
            refine Run.ifNo F d10_59 rfl ?_
            refine Run.iloadN F d10_62 rfl ?_
            refine Run.ifNo F d10_63 rfl ?_
            refine Run.iconst F d10_66 (z := 1) rfl ?_
            refine Run.goto F d10_67 (t := 71) rfl ?_
            exact Run.ireturn F (by simp) rfl (by decide) (by decide) d10_71 ⟨al_t (by omega), rfl, rfl⟩
      · refine Run.iconst F d10_30 (z := 1) rfl ?_
        refine Run.goto F d10_31 (t := 35) rfl ?_
        refine Run.istoreN F d10_35 rfl ?_
        dsimp only [List.set]
        refine Run.iloadN F d10_36 rfl ?_
        refine Run.bipush F d10_37 (z := 48) rfl ?_
        refine Run.icmp_lt F d10_39 (t := 52) rfl rfl (yi := 48) rfl (fun q7 => ?_) (fun q7 => ?_)
        · refine Run.iconst F d10_52 (z := 0) rfl ?_
          refine Run.istoreN F d10_53 rfl ?_
          dsimp only [List.set]
          refine Run.iloadN F d10_54 rfl ?_
          refine Run.ifNo F d10_55 rfl ?_
          refine Run.iloadN F d10_58 rfl ?_
          refine Run.ifYes F d10_59 (t := 66) rfl rfl ?_
          refine Run.iconst F d10_66 (z := 1) rfl ?_
          refine Run.goto F d10_67 (t := 71) rfl ?_
          exact Run.ireturn F (by simp) rfl (by decide) (by decide) d10_71 ⟨al_t (by omega), rfl, rfl⟩
        · refine Run.iloadN F d10_42 rfl ?_
          refine Run.bipush F d10_43 (z := 57) rfl ?_
          refine Run.icmp_gt F d10_45 (t := 52) rfl rfl (yi := 57) rfl (fun q8 => ?_) (fun q8 => ?_)
          · refine Run.iconst F d10_52 (z := 0) rfl ?_
            refine Run.istoreN F d10_53 rfl ?_
            dsimp only [List.set]
            refine Run.iloadN F d10_54 rfl ?_
            refine Run.ifNo F d10_55 rfl ?_
            refine Run.iloadN F d10_58 rfl ?_
            refine Run.ifYes F d10_59 (t := 66) rfl rfl ?_
            refine Run.iconst F d10_66 (z := 1) rfl ?_
            refine Run.goto F d10_67 (t := 71) rfl ?_
            exact Run.ireturn F (by simp) rfl (by decide) (by decide) d10_71 ⟨al_t (by omega), rfl, rfl⟩
          · refine Run.iconst F d10_48 (z := 1) rfl ?_
            refine Run.goto F d10_49 (t := 53) rfl ?_
            refine Run.istoreN F d10_53 rfl ?_
            dsimp only [List.set]
            refine Run.iloadN F d10_54 rfl ?_
            refine Run.ifNo F d10_55 rfl ?_
            refine Run.iloadN F d10_58 rfl ?_
            refine Run.ifYes F d10_59 (t := 66) rfl rfl ?_
            refine Run.iconst F d10_66 (z := 1) rfl ?_
            refine Run.goto F d10_67 (t := 71) rfl ?_
            exact Run.ireturn F (by simp) rfl (by decide) (by decide) d10_71 ⟨al_t (by omega), rfl, rfl⟩
  · refine Run.iloadN F d10_6 rfl ?_
    refine Run.bipush F d10_7 (z := 90) rfl ?_
    refine Run.icmp_gt F d10_9 (t := 16) rfl rfl (yi := 90) rfl (fun q9 => ?_) (fun q9 => ?_)
    · refine Run.iconst F d10_16 (z := 0) rfl ?_
      refine Run.istoreN F d10_17 rfl ?_
      dsimp only [List.set]
      refine Run.iloadN F d10_18 rfl ?_
      refine Run.bipush F d10_19 (z := 97) rfl ?_
      refine Run.icmp_lt F d10_21 (t := 34) rfl rfl (yi := 97) rfl (fun q10 => ?_) (fun q10 => ?_)
      · refine Run.iconst F d10_34 (z := 0) rfl ?_
        refine Run.istoreN F d10_35 rfl ?_
        dsimp only [List.set]
        refine Run.iloadN F d10_36 rfl ?_
        refine Run.bipush F d10_37 (z := 48) rfl ?_
        refine Run.icmp_lt F d10_39 (t := 52) rfl rfl (yi := 48) rfl (fun q11 => ?_) (fun q11 => ?_)
        · refine Run.iconst F d10_52 (z := 0) rfl ?_
          refine Run.istoreN F d10_53 rfl ?_
          dsimp only [List.set]
          refine Run.iloadN F d10_54 rfl ?_
          refine Run.ifNo F d10_55 rfl ?_
          refine Run.iloadN F d10_58 rfl ?_
          refine Run.ifNo F d10_59 rfl ?_
          refine Run.iloadN F d10_62 rfl ?_
          refine Run.ifYes F d10_63 (t := 70) rfl rfl ?_
          refine Run.iconst F d10_70 (z := 0) rfl ?_
          exact Run.ireturn F (by simp) rfl (by decide) (by decide) d10_71 ⟨al_f (by omega), rfl, rfl⟩
        · refine Run.iloadN F d10_42 rfl ?_
          refine Run.bipush F d10_43 (z := 57) rfl ?_
          refine Run.icmp_gt F d10_45 (t := 52) rfl rfl (yi := 57) rfl (fun q12 => ?_) (fun q12 => ?_)
          · refine Run.iconst F d10_52 (z := 0) rfl ?_
            refine Run.istoreN F d10_53 rfl ?_
            dsimp only [List.set]
            refine Run.iloadN F d10_54 rfl ?_
            refine Run.ifNo F d10_55 rfl ?_
            refine Run.iloadN F d10_58 rfl ?_
            refine Run.ifNo F d10_59 rfl ?_
            refine Run.iloadN F d10_62 rfl ?_
            refine Run.ifYes F d10_63 (t := 70) rfl rfl ?_
            refine Run.iconst F d10_70 (z := 0) rfl ?_
            exact Run.ireturn F (by simp) rfl (by decide) (by decide) d10_71 ⟨al_f (by omega), rfl, rfl⟩
          · refine Run.iconst F d10_48 (z := 1) rfl ?_
            refine Run.goto F d10_49 (t := 53) rfl ?_
            refine Run.istoreN F d10_53 rfl ?_
            dsimp only [List.set]
            refine Run.iloadN F d10_54 rfl ?_
            refine Run.ifNo F d10_55 rfl ?_
            refine Run.iloadN F d10_58 rfl ?_
            refine Run.ifNo F d10_59 rfl ?_
            refine Run.iloadN F d10_62 rfl ?_
            refine Run.ifNo F d10_63 rfl ?_
            refine Run.iconst F d10_66 (z := 1) rfl ?_
            refine Run.goto F d10_67 (t := 71) rfl ?_
            exact Run.ireturn F (by simp) rfl (by decide) (by decide) d10_71 ⟨al_t (by omega), rfl, rfl⟩
      · refine Run.iloadN F d10_24 rfl ?_
        refine Run.bipush F d10_25 (z := 122) rfl ?_
        refine Run.icmp_gt F d10_27 (t := 34) rfl rfl (yi := 122) rfl (fun q13 => ?_) (fun q13 => ?_)
        · refine Run.iconst F d10_34 (z := 0) rfl ?_
          refine Run.istoreN F d10_35 rfl ?_
          dsimp only [List.set]
          refine Run.iloadN F d10_36 rfl ?_
          refine Run.bipush F d10_37 (z := 48) rfl ?_
          refine Run.icmp_lt F d10_39 (t := 52) rfl rfl (yi := 48) rfl (fun q14 => ?_) (fun q14 => ?_)
          · refine Run.iconst F d10_52 (z := 0) rfl ?_
            refine Run.istoreN F d10_53 rfl ?_
            dsimp only [List.set]
            refine Run.iloadN F d10_54 rfl ?_
            refine Run.ifNo F d10_55 rfl ?_
            refine Run.iloadN F d10_58 rfl ?_
            refine Run.ifNo F d10_59 rfl ?_
            refine Run.iloadN F d10_62 rfl ?_
            refine Run.ifYes F d10_63 (t := 70) rfl rfl ?_
            refine Run.iconst F d10_70 (z := 0) rfl ?_
            exact Run.ireturn F (by simp) rfl (by decide) (by decide) d10_71 ⟨al_f (by omega), rfl, rfl⟩
          · refine Run.iloadN F d10_42 rfl ?_
            refine Run.bipush F d10_43 (z := 57) rfl ?_
            refine Run.icmp_gt F d10_45 (t := 52) rfl rfl (yi := 57) rfl (fun q15 => ?_) (fun q15 => ?_)
            · refine Run.iconst F d10_52 (z := 0) rfl ?_
              refine Run.istoreN F d10_53 rfl ?_
              dsimp only [List.set]
              refine Run.iloadN F d10_54 rfl ?_
              refine Run.ifNo F d10_55 rfl ?_
              refine Run.iloadN F d10_58 rfl ?_
              refine Run.ifNo F d10_59 rfl ?_
              refine Run.iloadN F d10_62 rfl ?_
              refine Run.ifYes F d10_63 (t := 70) rfl rfl ?_
              refine Run.iconst F d10_70 (z := 0) rfl ?_
              exact Run.ireturn F (by simp) rfl (by decide) (by decide) d10_71 ⟨al_f (by omega), rfl, rfl⟩
            · refine Run.iconst F d10_48 (z := 1) rfl ?_
              refine Run.goto F d10_49 (t := 53) rfl ?_
              refine Run.istoreN F d10_53 rfl ?_
              dsimp only [List.set]
              refine Run.iloadN F d10_54 rfl ?_
              refine Run.ifNo F d10_55 rfl ?_
              refine Run.iloadN F d10_58 rfl ?_
              refine Run.ifNo F d10_59 rfl ?_
              refine Run.iloadN F d10_62 rfl ?_
              refine Run.ifNo F d10_63 rfl ?_
              refine Run.iconst F d10_66 (z := 1) rfl ?_
              refine Run.goto F d10_67 (t := 71) rfl ?_
              exact Run.ireturn F (by simp) rfl (by decide) (by decide) d10_71 ⟨al_t (by omega), rfl, rfl⟩
        · refine Run.iconst F d10_30 (z := 1) rfl ?_
          refine Run.goto F d10_31 (t := 35) rfl ?_
          refine Run.istoreN F d10_35 rfl ?_
          dsimp only [List.set]
          refine Run.iloadN F d10_36 rfl ?_
          refine Run.bipush F d10_37 (z := 48) rfl ?_
          refine Run.icmp_lt F d10_39 (t := 52) rfl rfl (yi := 48) rfl (fun q16 => ?_) (fun q16 => ?_)
          · refine Run.iconst F d10_52 (z := 0) rfl ?_
            refine Run.istoreN F d10_53 rfl ?_
            dsimp only [List.set]
            refine Run.iloadN F d10_54 rfl ?_
            refine Run.ifNo F d10_55 rfl ?_
            refine Run.iloadN F d10_58 rfl ?_
            refine Run.ifYes F d10_59 (t := 66) rfl rfl ?_
            refine Run.iconst F d10_66 (z := 1) rfl ?_
            refine Run.goto F d10_67 (t := 71) rfl ?_
            exact Run.ireturn F (by simp) rfl (by decide) (by decide) d10_71 ⟨al_t (by omega), rfl, rfl⟩
          · refine Run.iloadN F d10_42 rfl ?_
            refine Run.bipush F d10_43 (z := 57) rfl ?_
            refine Run.icmp_gt F d10_45 (t := 52) rfl rfl (yi := 57) rfl (fun q17 => ?_) (fun q17 => ?_)
            · refine Run.iconst F d10_52 (z := 0) rfl ?_
              refine Run.istoreN F d10_53 rfl ?_
              dsimp only [List.set]
              refine Run.iloadN F d10_54 rfl ?_
              refine Run.ifNo F d10_55 rfl ?_
              refine Run.iloadN F d10_58 rfl ?_
              refine Run.ifYes F d10_59 (t := 66) rfl rfl ?_
              refine Run.iconst F d10_66 (z := 1) rfl ?_
              refine Run.goto F d10_67 (t := 71) rfl ?_
              exact Run.ireturn F (by simp) rfl (by decide) (by decide) d10_71 ⟨al_t (by omega), rfl, rfl⟩
            · refine Run.iconst F d10_48 (z := 1) rfl ?_
              refine Run.goto F d10_49 (t := 53) rfl ?_
              refine Run.istoreN F d10_53 rfl ?_
              dsimp only [List.set]
              refine Run.iloadN F d10_54 rfl ?_
              refine Run.ifNo F d10_55 rfl ?_
              refine Run.iloadN F d10_58 rfl ?_
              refine Run.ifYes F d10_59 (t := 66) rfl rfl ?_
              refine Run.iconst F d10_66 (z := 1) rfl ?_
              refine Run.goto F d10_67 (t := 71) rfl ?_
              exact Run.ireturn F (by simp) rfl (by decide) (by decide) d10_71 ⟨al_t (by omega), rfl, rfl⟩
    · refine Run.iconst F d10_12 (z := 1) rfl ?_
      refine Run.goto F d10_13 (t := 17) rfl ?_
      refine Run.istoreN F d10_17 rfl ?_
      dsimp only [List.set]
      refine Run.iloadN F d10_18 rfl ?_
      refine Run.bipush F d10_19 (z := 97) rfl ?_
      refine Run.icmp_lt F d10_21 (t := 34) rfl rfl (yi := 97) rfl (fun q18 => ?_) (fun q18 => ?_)
      · refine Run.iconst F d10_34 (z := 0) rfl ?_
        refine Run.istoreN F d10_35 rfl ?_
        dsimp only [List.set]
        refine Run.iloadN F d10_36 rfl ?_
        refine Run.bipush F d10_37 (z := 48) rfl ?_
        refine Run.icmp_lt F d10_39 (t := 52) rfl rfl (yi := 48) rfl (fun q19 => ?_) (fun q19 => ?_)
        · refine Run.iconst F d10_52 (z := 0) rfl ?_
          refine Run.istoreN F d10_53 rfl ?_
          dsimp only [List.set]
          refine Run.iloadN F d10_54 rfl ?_
          refine Run.ifYes F d10_55 (t := 66) rfl rfl ?_
          refine Run.iconst F d10_66 (z := 1) rfl ?_
          refine Run.goto F d10_67 (t := 71) rfl ?_
          exact Run.ireturn F (by simp) rfl (by decide) (by decide) d10_71 ⟨al_t (by omega), rfl, rfl⟩
        · refine Run.iloadN F d10_42 rfl ?_
          refine Run.bipush F d10_43 (z := 57) rfl ?_
          refine Run.icmp_gt F d10_45 (t := 52) rfl rfl (yi := 57) rfl (fun q20 => ?_) (fun q20 => ?_)
          · refine Run.iconst F d10_52 (z := 0) rfl ?_
            refine Run.istoreN F d10_53 rfl ?_
            dsimp only [List.set]
            refine Run.iloadN F d10_54 rfl ?_
            refine Run.ifYes F d10_55 (t := 66) rfl rfl ?_
            refine Run.iconst F d10_66 (z := 1) rfl ?_
            refine Run.goto F d10_67 (t := 71) rfl ?_
            exact Run.ireturn F (by simp) rfl (by decide) (by decide) d10_71 ⟨al_t (by omega), rfl, rfl⟩
          · refine Run.iconst F d10_48 (z := 1) rfl ?_
            refine Run.goto F d10_49 (t := 53) rfl ?_
            refine Run.istoreN F d10_53 rfl ?_
            dsimp only [List.set]
            refine Run.iloadN F d10_54 rfl ?_
            refine Run.ifYes F d10_55 (t := 66) rfl rfl ?_
            refine Run.iconst F d10_66 (z := 1) rfl ?_
            refine Run.goto F d10_67 (t := 71) rfl ?_
            exact Run.ireturn F (by simp) rfl (by decide) (by decide) d10_71 ⟨al_t (by omega), rfl, rfl⟩
      · refine Run.iloadN F d10_24 rfl ?_
        refine Run.bipush F d10_25 (z := 122) rfl ?_
        refine Run.icmp_gt F d10_27 (t := 34) rfl rfl (yi := 122) rfl (fun q21 => ?_) (fun q21 => ?_)
        · refine Run.iconst F d10_34 (z := 0) rfl ?_
          refine Run.istoreN F d10_35 rfl ?_
          dsimp only [List.set]
          refine Run.iloadN F d10_36 rfl ?_
          refine Run.bipush F d10_37 (z := 48) rfl ?_
          refine Run.icmp_lt F d10_39 (t := 52) rfl rfl (yi := 48) rfl (fun q22 => ?_) (fun q22 => ?_)
          · refine Run.iconst F d10_52 (z := 0) rfl ?_
            refine Run.istoreN F d10_53 rfl ?_
            dsimp only [List.set]
            refine Run.iloadN F d10_54 rfl ?_
            refine Run.ifYes F d10_55 (t := 66) rfl rfl ?_
            refine Run.iconst F d10_66 (z := 1) rfl ?_
            refine Run.goto F d10_67 (t := 71) rfl ?_
            exact Run.ireturn F (by simp) rfl (by decide) (by decide) d10_71 ⟨al_t (by omega), rfl, rfl⟩
          · refine Run.iloadN F d10_42 rfl ?_
            refine Run.bipush F d10_43 (z := 57) rfl ?_
            refine Run.icmp_gt F d10_45 (t := 52) rfl rfl (yi := 57) rfl (fun q23 => ?_) (fun q23 => ?_)
            · refine Run.iconst F d10_52 (z := 0) rfl ?_
              refine Run.istoreN F d10_53 rfl ?_
              dsimp only [List.set]
              refine Run.iloadN F d10_54 rfl ?_
              refine Run.ifYes F d10_55 (t := 66) rfl rfl ?_
              refine Run.iconst F d10_66 (z := 1) rfl ?_
              refine Run.goto F d10_67 (t := 71) rfl ?_
              exact Run.ireturn F (by simp) rfl (by decide) (by decide) d10_71 ⟨al_t (by omega), rfl, rfl⟩
            · refine Run.iconst F d10_48 (z := 1) rfl ?_
              refine Run.goto F d10_49 (t := 53) rfl ?_
              refine Run.istoreN F d10_53 rfl ?_
              dsimp only [List.set]
              refine Run.iloadN F d10_54 rfl ?_
              refine Run.ifYes F d10_55 (t := 66) rfl rfl ?_
              refine Run.iconst F d10_66 (z := 1) rfl ?_
              refine Run.goto F d10_67 (t := 71) rfl ?_
              exact Run.ireturn F (by simp) rfl (by decide) (by decide) d10_71 ⟨al_t (by omega), rfl, rfl⟩
        · refine Run.iconst F d10_30 (z := 1) rfl ?_
          refine Run.goto F d10_31 (t := 35) rfl ?_
          refine Run.istoreN F d10_35 rfl ?_
          dsimp only [List.set]
          refine Run.iloadN F d10_36 rfl ?_
          refine Run.bipush F d10_37 (z := 48) rfl ?_
          refine Run.icmp_lt F d10_39 (t := 52) rfl rfl (yi := 48) rfl (fun q24 => ?_) (fun q24 => ?_)
          · refine Run.iconst F d10_52 (z := 0) rfl ?_
            refine Run.istoreN F d10_53 rfl ?_
            dsimp only [List.set]
            refine Run.iloadN F d10_54 rfl ?_
            refine Run.ifYes F d10_55 (t := 66) rfl rfl ?_
            refine Run.iconst F d10_66 (z := 1) rfl ?_
            refine Run.goto F d10_67 (t := 71) rfl ?_
            exact Run.ireturn F (by simp) rfl (by decide) (by decide) d10_71 ⟨al_t (by omega), rfl, rfl⟩
          · refine Run.iloadN F d10_42 rfl ?_
            refine Run.bipush F d10_43 (z := 57) rfl ?_
            refine Run.icmp_gt F d10_45 (t := 52) rfl rfl (yi := 57) rfl (fun q25 => ?_) (fun q25 => ?_)
            · refine Run.iconst F d10_52 (z := 0) rfl ?_
              refine Run.istoreN F d10_53 rfl ?_
              dsimp only [List.set]
              refine Run.iloadN F d10_54 rfl ?_
              refine Run.ifYes F d10_55 (t := 66) rfl rfl ?_
              refine Run.iconst F d10_66 (z := 1) rfl ?_
              refine Run.goto F d10_67 (t := 71) rfl ?_
              exact Run.ireturn F (by simp) rfl (by decide) (by decide) d10_71 ⟨al_t (by omega), rfl, rfl⟩
            · refine Run.iconst F d10_48 (z := 1) rfl ?_
              refine Run.goto F d10_49 (t := 53) rfl ?_
              refine Run.istoreN F d10_53 rfl ?_
              dsimp only [List.set]
              refine Run.iloadN F d10_54 rfl ?_
              refine Run.ifYes F d10_55 (t := 66) rfl rfl ?_
              refine Run.iconst F d10_66 (z := 1) rfl ?_
              refine Run.goto F d10_67 (t := 71) rfl ?_
              exact Run.ireturn F (by simp) rfl (by decide) (by decide) d10_71 ⟨al_t (by omega), rfl, rfl⟩
set_option maxRecDepth 65536 in
set_option maxHeartbeats 4000000 in
theorem c_inner (l : Launch) (Z : State) (n0 : Nat) (a0 : Array Value) (hw : ∀ d ∈ tables_1, d.before a0 Z = true) (ch : Int32) (h : Heap) (Ls : Lits) (hO : Old Z n0 h)  :
    Con l Z n0 (⟨"com/example/error_catalog/errorcatalog/render/JsonApiResponseIsMemberNamePinLaw", "inner", "(C)Z"⟩ : MethodName) method_3_code 1 (some .boolean) ({ frames := 1, cells := 0, slots := 0, locals := 15 } : Room) [.int ch] h Ls [] (RV fun v h' Ls' => v = .int (b2i (inn ch)) ∧ h = h' ∧ Ls = Ls') := by
  refine Con.of_run pn5 hO ?_
  intro p e s m below meth c F hs
  refine ⟨[.val (.int ch)], by first | rfl | (simp [entryFrame, mkF, argsToLocals, Value.category]; done) | (rcases ref_cases hv with rfl | ⟨va, rfl⟩ <;> rfl), ?_⟩
  refine Run.iloadN F d17_0 rfl ?_
  refine Run.callStatic F (w48 hw) (w49 hw) (w50 hw) (w51 hw) (c_alnum l Z n0 a0 hw ch h Ls hO) rfl pd9 rfl rfl rfl rfl (by decide) (by decide) rfl d17_1 ?_
  rintro _ _ _ ⟨_, rfl, rfl, rfl, rfl⟩ _ _
  refine Run.ifB_ne F d17_4 (t := 19) rfl (fun qa => ?_) (fun qa => ?_)
  · refine Run.iconst F d17_19 (z := 1) rfl ?_
    refine Run.goto F d17_20 (t := 24) rfl ?_
    exact Run.ireturn F (by simp) rfl (by decide) (by decide) d17_24 ⟨by simp [inn, qa, b2i], rfl, rfl⟩
  · refine Run.iloadN F d17_7 rfl ?_
    refine Run.bipush F d17_8 (z := 95) rfl ?_
    refine Run.icmp_eq F d17_10 (t := 19) rfl rfl (yi := 95) rfl (fun qb => ?_) (fun qb => ?_)
    · refine Run.iconst F d17_19 (z := 1) rfl ?_
      refine Run.goto F d17_20 (t := 24) rfl ?_
      exact Run.ireturn F (by simp) rfl (by decide) (by decide) d17_24 ⟨by simp [inn, qa, qb, b2i], rfl, rfl⟩
    · refine Run.iloadN F d17_13 rfl ?_
      refine Run.bipush F d17_14 (z := 45) rfl ?_
      refine Run.icmp_ne F d17_16 (t := 23) rfl rfl (yi := 45) rfl (fun qc => ?_) (fun qc => ?_)
      · refine Run.iconst F d17_23 (z := 0) rfl ?_
        exact Run.ireturn F (by simp) rfl (by decide) (by decide) d17_24 ⟨by simp [inn, qa, qb, qc, b2i], rfl, rfl⟩
      · refine Run.iconst F d17_19 (z := 1) rfl ?_
        refine Run.goto F d17_20 (t := 24) rfl ?_
        exact Run.ireturn F (by simp) rfl (by decide) (by decide) d17_24 ⟨by simp [inn, qa, qb, qc, b2i], rfl, rfl⟩
set_option maxRecDepth 65536 in
set_option maxHeartbeats 4000000 in
theorem c_member (l : Launch) (Z : State) (n0 : Nat) (a0 : Array Value) (hw : ∀ d ∈ tables_1, d.before a0 Z = true) (x b : Nat) (cs : List Int32) {cz : Int32} (SC : Sta Z Z.heap "java/lang/String" "COMPACT_STRINGS" "Z" (.int cz)) (hcz : cz.toInt ≠ 0) {sf : Value} (SF : Sta Z Z.heap "jdk/internal/util/Preconditions" "SIOOBE_FORMATTER" "Ljava/util/function/BiFunction;" sf) (hsf : sf.isRef = true) (h : Heap) (Ls : Lits) (hO : Old Z n0 h) (S : Str Z h x b 0 (cs.map lb)) (hcs : ∀ c ∈ cs, 0 ≤ c.toInt ∧ c.toInt < 256) :
    Con l Z n0 (⟨"com/example/error_catalog/errorcatalog/render/JsonApiResponse", "isMemberName", "(Ljava/lang/String;)Z"⟩ : MethodName) prog_50_method_3_code 5 (some .boolean) ({ frames := 4, cells := 0, slots := 0, locals := 53 } : Room) [.ref x] h Ls [] (RV fun v h' Ls' => v = .int (b2i (inv cs (cs.length - 1))) ∧ h = h' ∧ Ls = Ls') := by
  refine Con.of_run pn4 hO ?_
  intro p e s m below meth c F hs
  refine ⟨[.val (.ref x), .unset, .unset, .unset, .unset], by first | rfl | (simp [entryFrame, mkF, argsToLocals, Value.category]; done) | (rcases ref_cases hv with rfl | ⟨va, rfl⟩ <;> rfl), ?_⟩
  have hlen : cs.length < 2 ^ 31 := by simpa using S.2.2.2.len
  have hl1 : (Int32.ofNat cs.length - 1).toInt = (cs.length : Int) - 1 := i32_pred hlen
  refine Run.aloadN F d4_0 rfl rfl ?_
  refine Run.callVirtual F (w27 hw) (w28 hw) (fun U hU => notFace_of_selects (args := #[]) (mvT hU (w30 hw))) (w30 hw) (w29 hw) (w4 hw) (w31 hw) S.1 (c_length l Z n0 a0 hw x b 0 (Int32.ofNat cs.length) (cs.map lb) SC hcz h Ls hO S rfl (by rw [List.length_map]; simp)) rfl pd10 rfl rfl rfl rfl (by decide) (by decide) rfl d4_1 ?_
  rintro _ _ _ ⟨_, rfl, rfl, rfl, rfl⟩ _ _
  refine Run.iconst F d4_4 (z := 1) rfl ?_
  refine Run.isub F d4_5 ?_
  refine Run.istoreN F d4_6 rfl ?_
  dsimp only [List.set]
  refine Run.iloadN F d4_7 rfl ?_
  refine Run.via (pcJ := 38) (fun h' k n Ls' L st => h = h' ∧ k = 0 ∧ n = 0 ∧ Ls = Ls' ∧ L = [.val (.ref x), .val (.int (Int32.ofNat cs.length - 1)), .unset, .unset, .unset] ∧ st = [.int (b2i (v0 cs))]) ?_ ?_
  · rintro _ _ _ _ _ _ ⟨rfl, rfl, rfl, rfl, rfl, rfl⟩
    refine Run.istoreN F d4_38 rfl ?_
    dsimp only [List.set]
    refine Run.iconst F d4_39 (z := 1) rfl ?_
    refine Run.istoreN F d4_40 rfl ?_
    dsimp only [List.set]
    refine Run.rec (fun r h' k n Ls' L st => ∃ i x4, 1 ≤ i ∧ (i ≤ cs.length - 1 ∨ i = 1) ∧ cs.length ≤ i + r ∧ okSlot x4 = true ∧ k = 0 ∧ n = 0 ∧ h = h' ∧ Ls = Ls' ∧ L = [.val (.ref x), .val (.int (Int32.ofNat cs.length - 1)), .val (.int (b2i (inv cs i))), .val (.int (Int32.ofNat i)), x4] ∧ st = []) ?_ cs.length _ _ _ _ _ _ ⟨1, .unset, by omega, Or.inr rfl, by omega, rfl, rfl, rfl, rfl, rfl, by rw [inv_one]; rfl, rfl⟩
    rintro r h' k n Ls' L st ⟨i, x4, hi1, hi2, hr, hx, rfl, rfl, rfl, rfl, rfl, rfl⟩ ih
    refine Run.iloadN F d4_41 rfl ?_
    refine Run.ifB_eq F d4_42 (t := 91) rfl (fun q => ?_) (fun q => ?_)
    · refine Run.iloadN F d4_91 rfl ?_
      exact Run.ireturn F (by simp) (b2i_narrow _) (by decide) (by decide) d4_92 ⟨by rw [q, inv_false hi1 hi2 q], rfl, rfl⟩
    · refine Run.iloadN F d4_45 rfl ?_
      refine Run.iloadN F d4_46 rfl ?_
      refine Run.icmp_ge F d4_47 (t := 91) rfl (i32_ti (by omega)) hl1 (fun q2 => ?_) (fun q2 => ?_)
      · refine Run.iloadN F d4_91 rfl ?_
        exact Run.ireturn F (by simp) (b2i_narrow _) (by decide) (by decide) d4_92 ⟨by rw [inv_end hi1 hi2 (by omega)], rfl, rfl⟩
      · obtain ⟨c1, hc1⟩ : ∃ c1, cs[i]? = some c1 := ⟨_, List.getElem?_eq_getElem (by omega)⟩
        have hc2 := hcs c1 (List.mem_of_getElem? hc1)
        refine Run.aloadN F d4_50 rfl rfl ?_
        refine Run.iloadN F d4_51 rfl ?_
        refine Run.callVirtual F (w52 hw) (w53 hw) (fun U hU => notFace_of_selects (args := #[]) (mvT hU (w55 hw))) (w55 hw) (w54 hw) (w4 hw) (w56 hw) S.1 (c_charAt l Z n0 a0 hw x b (Int32.ofNat i) c1.toInt8.toInt32 i (cs.map lb) SC hcz SF hsf _ _ hO S (i32_ti (by omega)) (lb_get hc1)) rfl pd11 rfl rfl rfl rfl (by decide) (by decide) rfl d4_52 ?_
        rintro _ _ _ ⟨_, rfl, rfl, rfl, rfl⟩ _ _
        rw [low8 hc2.1 hc2.2]
        refine Run.istore F d4_55 (by simp [hx]) ?_
        dsimp only [List.set]
        refine Run.iload F d4_57 rfl ?_
        refine Run.callStatic F (w74 hw) (w75 hw) (w25 hw) (w76 hw) (c_ascii l Z n0 a0 hw c1 _ _ hO) rfl pd9 rfl rfl rfl rfl (by decide) (by decide) rfl d4_59 ?_
        rintro _ _ _ ⟨_, rfl, rfl, rfl, rfl⟩ _ _
        refine Run.viaS (pcJ := 84) (fun st => st = [.int (b2i (inn c1))]) ?_ ?_
        · rintro _ rfl
          refine Run.istoreN F d4_84 rfl ?_
          dsimp only [List.set]
          refine Run.iinc F d4_85 (z := 1) rfl rfl ?_
          dsimp only [List.set]
          refine Run.goto F d4_88 (t := 41) rfl ?_
          refine ih (r - 1) _ _ _ _ _ _ (by omega) ⟨i + 1, .val (.int c1), by omega, by omega, by omega, rfl, rfl, rfl, rfl, rfl, ?_, rfl⟩
          rw [inv_step hi1 hc1, q, Bool.true_and]; simp only [Jvm.Free.XT.succ32]
        · intro J
          refine Run.ifB_ne F d4_62 (t := 79) rfl (fun qa => ?_) (fun qa => ?_)
          · refine Run.iconst F d4_79 (z := 1) rfl ?_
            refine Run.goto F d4_80 (t := 84) rfl ?_
            exact J _ (by simp [inn, qa, b2i])
          · refine Run.iload F d4_65 rfl ?_
            refine Run.bipush F d4_67 (z := 95) rfl ?_
            refine Run.icmp_eq F d4_69 (t := 79) rfl rfl (yi := 95) rfl (fun qb => ?_) (fun qb => ?_)
            · refine Run.iconst F d4_79 (z := 1) rfl ?_
              refine Run.goto F d4_80 (t := 84) rfl ?_
              exact J _ (by simp [inn, qa, qb, b2i])
            · refine Run.iload F d4_72 rfl ?_
              refine Run.bipush F d4_74 (z := 45) rfl ?_
              refine Run.icmp_ne F d4_76 (t := 83) rfl rfl (yi := 45) rfl (fun qc => ?_) (fun qc => ?_)
              · refine Run.iconst F d4_83 (z := 0) rfl ?_
                exact J _ (by simp [inn, qa, qb, qc, b2i])
              · refine Run.iconst F d4_79 (z := 1) rfl ?_
                refine Run.goto F d4_80 (t := 84) rfl ?_
                exact J _ (by simp [inn, qa, qb, qc, b2i])
  · intro J
    refine Run.if_lt F d4_8 (t := 37) rfl hl1 (fun q => ?_) (fun q => ?_)
    · refine Run.iconst F d4_37 (z := 0) rfl ?_
      have e0 : cs = [] := List.length_eq_zero_iff.mp (by omega)
      exact J _ _ _ _ _ _ ⟨rfl, rfl, rfl, rfl, rfl, by subst e0; rfl⟩
    · obtain ⟨ca, hca⟩ : ∃ c1, cs[0]? = some c1 := ⟨_, List.getElem?_eq_getElem (by omega)⟩
      obtain ⟨cb, hcb⟩ : ∃ c1, cs[cs.length - 1]? = some c1 := ⟨_, List.getElem?_eq_getElem (by omega)⟩
      have ha := hcs ca (List.mem_of_getElem? hca)
      have hb := hcs cb (List.mem_of_getElem? hcb)
      have ev : v0 cs = (al ca && al cb) := by simp [v0, hca, hcb]
      refine Run.aloadN F d4_11 rfl rfl ?_
      refine Run.iconst F d4_12 (z := 0) rfl ?_
      refine Run.callVirtual F (w52 hw) (w53 hw) (fun U hU => notFace_of_selects (args := #[]) (mvT hU (w55 hw))) (w55 hw) (w54 hw) (w4 hw) (w56 hw) S.1 (c_charAt l Z n0 a0 hw x b 0 ca.toInt8.toInt32 0 (cs.map lb) SC hcz SF hsf _ _ hO S rfl (lb_get hca)) rfl pd11 rfl rfl rfl rfl (by decide) (by decide) rfl d4_13 ?_
      rintro _ _ _ ⟨_, rfl, rfl, rfl, rfl⟩ _ _
      rw [low8 ha.1 ha.2]
      refine Run.callStatic F (w74 hw) (w75 hw) (w25 hw) (w76 hw) (c_ascii l Z n0 a0 hw ca _ _ hO) rfl pd9 rfl rfl rfl rfl (by decide) (by decide) rfl d4_16 ?_
      rintro _ _ _ ⟨_, rfl, rfl, rfl, rfl⟩ _ _
      refine Run.ifB_eq F d4_19 (t := 37) rfl (fun qa => ?_) (fun qa => ?_)
      · refine Run.iconst F d4_37 (z := 0) rfl ?_
        exact J _ _ _ _ _ _ ⟨rfl, rfl, rfl, rfl, rfl, by simp [ev, qa, b2i]⟩
      · refine Run.aloadN F d4_22 rfl rfl ?_
        refine Run.iloadN F d4_23 rfl ?_
        refine Run.callVirtual F (w52 hw) (w53 hw) (fun U hU => notFace_of_selects (args := #[]) (mvT hU (w55 hw))) (w55 hw) (w54 hw) (w4 hw) (w56 hw) S.1 (c_charAt l Z n0 a0 hw x b (Int32.ofNat cs.length - 1) cb.toInt8.toInt32 (cs.length - 1) (cs.map lb) SC hcz SF hsf _ _ hO S (by rw [hl1]; omega) (lb_get hcb)) rfl pd11 rfl rfl rfl rfl (by decide) (by decide) rfl d4_24 ?_
        rintro _ _ _ ⟨_, rfl, rfl, rfl, rfl⟩ _ _
        rw [low8 hb.1 hb.2]
        refine Run.callStatic F (w74 hw) (w75 hw) (w25 hw) (w76 hw) (c_ascii l Z n0 a0 hw cb _ _ hO) rfl pd9 rfl rfl rfl rfl (by decide) (by decide) rfl d4_27 ?_
        rintro _ _ _ ⟨_, rfl, rfl, rfl, rfl⟩ _ _
        refine Run.ifB_eq F d4_30 (t := 37) rfl (fun qb => ?_) (fun qb => ?_)
        · refine Run.iconst F d4_37 (z := 0) rfl ?_
          exact J _ _ _ _ _ _ ⟨rfl, rfl, rfl, rfl, rfl, by simp [ev, qa, qb, b2i]⟩
        · refine Run.iconst F d4_33 (z := 1) rfl ?_
          refine Run.goto F d4_34 (t := 38) rfl ?_
          exact J _ _ _ _ _ _ ⟨rfl, rfl, rfl, rfl, rfl, by simp [ev, qa, qb, b2i]⟩
set_option maxRecDepth 65536 in
set_option maxHeartbeats 40000000 in
theorem c_law (l : Launch) (Z : State) (n0 : Nat) (a0 : Array Value) (hw : ∀ d ∈ tables_1, d.before a0 Z = true) (i0 i1 i2 : Int32) {cz : Int32} (SC : Sta Z Z.heap "java/lang/String" "COMPACT_STRINGS" "Z" (.int cz)) (hcz : cz.toInt ≠ 0) {sf : Value} (SF : Sta Z Z.heap "jdk/internal/util/Preconditions" "SIOOBE_FORMATTER" "Ljava/util/function/BiFunction;" sf) (hsf : sf.isRef = true) (wS : ∀ a ∈ Bundle.stringAtoms, a.before a0 Z = true) (hh : Jvm.Lit.constHeld Z "java/lang/String" 7) (hcw : Jvm.Lit.compactW.before a0 Z = true) (h : Heap) (Ls : Lits) (hO : Old Z n0 h) (hLs : Ls = some []) :
    Con l Z n0 x code maxLocals ret room_1 [.int i0, .int i1, .int i2] h Ls tables_1 (RV fun v h' Ls' => v = .int 1) := by
  refine Con.of_run pn5 hO ?_
  intro p e s m below meth c F hs
  refine ⟨[.val (.int i0), .val (.int i1), .val (.int i2), .unset, .unset, .unset, .unset, .unset, .unset, .unset, .unset, .unset, .unset], by first | rfl | (simp [entryFrame, mkF, argsToLocals, Value.category, maxLocals]; done), ?_⟩
  subst hLs
  have q31 : 0 ≤ (i0 &&& 2147483647).toInt := by rw [mask31]; omega
  refine Run.iloadN F d0_0 rfl ?_
  refine Run.ldcInt F (w0 hw) d0_1 ?_
  refine Run.iand F d0_3 ?_
  refine Run.bipush F d0_4 (z := 6) rfl ?_
  refine Run.irem F d0_6 (by decide) ?_
  refine Run.istoreN F d0_7 rfl ?_
  dsimp only [List.set]
  refine Run.iloadN F d0_8 rfl ?_
  refine Run.sipush F d0_9 (z := 255) rfl ?_
  refine Run.iand F d0_12 ?_
  refine Run.i2c F d0_13 ?_
  refine Run.istore F d0_14 rfl ?_
  dsimp only [List.set]
  refine Run.iloadN F d0_16 rfl ?_
  refine Run.bipush F d0_17 (z := 8) rfl ?_
  refine Run.iushr F d0_19 ?_
  refine Run.sipush F d0_20 (z := 255) rfl ?_
  refine Run.iand F d0_23 ?_
  refine Run.i2c F d0_24 ?_
  refine Run.istore F d0_25 rfl ?_
  dsimp only [List.set]
  refine Run.iloadN F d0_27 rfl ?_
  refine Run.bipush F d0_28 (z := 16) rfl ?_
  refine Run.iushr F d0_30 ?_
  refine Run.sipush F d0_31 (z := 255) rfl ?_
  refine Run.iand F d0_34 ?_
  refine Run.i2c F d0_35 ?_
  refine Run.istore F d0_36 rfl ?_
  dsimp only [List.set]
  refine Run.iloadN F d0_38 rfl ?_
  refine Run.bipush F d0_39 (z := 24) rfl ?_
  refine Run.iushr F d0_41 ?_
  refine Run.sipush F d0_42 (z := 255) rfl ?_
  refine Run.iand F d0_45 ?_
  refine Run.i2c F d0_46 ?_
  refine Run.istore F d0_47 rfl ?_
  dsimp only [List.set]
  refine Run.iloadN F d0_49 rfl ?_
  refine Run.sipush F d0_50 (z := 255) rfl ?_
  refine Run.iand F d0_53 ?_
  refine Run.i2c F d0_54 ?_
  refine Run.istore F d0_55 rfl ?_
  dsimp only [List.set]
  have hn : ∃ j : Nat, j < 6 ∧ (i0 &&& 2147483647) % 6 = Int32.ofNat j := by
    have e := i32_mod (y := 6) q31 (by decide)
    have e6 : (6 : Int32).toInt = 6 := rfl
    rw [e6] at e
    refine ⟨((i0 &&& 2147483647).toInt % 6).toNat, by omega, i32_eq (by rw [e]; omega)⟩
  generalize (i0 &&& 2147483647) % 6 = nn at hn ⊢
  have r0 := chr255 i1
  have r1 := chr255 (XT.ushr i1 8)
  have r2 := chr255 (XT.ushr i1 16)
  have r3 := chr255 (XT.ushr i1 24)
  have r4 := chr255 i2
  generalize chr (i1 &&& 255) = c0 at r0 ⊢
  generalize chr (XT.ushr i1 8 &&& 255) = c1 at r1 ⊢
  generalize chr (XT.ushr i1 16 &&& 255) = c2 at r2 ⊢
  generalize chr (XT.ushr i1 24 &&& 255) = c3 at r3 ⊢
  generalize chr (i2 &&& 255) = c4 at r4 ⊢
  obtain ⟨j, hj, rfl⟩ := hn
  rcases (show j = 0 ∨ j = 1 ∨ j = 2 ∨ j = 3 ∨ j = 4 ∨ j = 5 by omega) with rfl | rfl | rfl | rfl | rfl | rfl
  · refine Run.iloadN F d0_57 rfl ?_
    refine Run.ifNo F d0_58 rfl ?_
    refine Run.iconst F d0_61 (z := 0) rfl ?_
    refine Run.newarray (aty := .char) F (w1 hw) (by decide) (len := 0) rfl 0 (by decide) rfl (by decide) (by decide) d0_62 ?_
    intro hA ta hta KA ltA A0
    have gA : n0 ≤ ta := by rw [hta, ← hO.1]; exact hO.2.1
    have OA : Old Z n0 hA := hO.keep KA all0
    have AA : Av Z hA ta .char (([] : List Int32).map Value.int) := A0
    refine Run.astore F d0_64 rfl rfl ?_
    dsimp only [List.set]
    refine Run.iload F d0_66 rfl ?_
    refine Run.istore F d0_68 rfl ?_
    dsimp only [List.set]
    refine Run.goto F d0_70 (t := 225) rfl ?_
    refine Run.new F (w2 hw) (w3 hw) (w4 hw) (by decide) (by decide) d0_225 ?_
    intro hN x hx KN ltN EN DN UN
    have ON : Old Z n0 hN := OA.keep KN all0
    have gx : n0 ≤ x := by rw [hx, ← OA.1]; exact OA.2.1
    have Fv : Fld Z hN x "java/lang/String" "value" "[B" .null := DN (Or.inr (w17 hw)) (ty := .array .byte) (by decide)
    have Fc : Fld Z hN x "java/lang/String" "coder" "B" (.int 0) := DN (Or.inr (w18 hw)) (ty := .byte) (by decide)
    refine Run.dup F d0_228 rfl ?_
    refine Run.aload F d0_229 rfl rfl ?_
    refine Run.callInit F (w5 hw) (w6 hw) (w4 hw) (w7 hw) (c_newE l Z n0 a0 hw x ta [] wS hh hcw hN _ ON EN Fv Fc gx (AA.keep KN nin0) rfl (fun _ q => nomatch q)) rfl rfl pd12 rfl rfl rfl rfl (by decide) (by decide) rfl d0_231 ?_
    rintro _ hS Lz ⟨rfl, bx, a1, b1, a2, b2, KS, SS, rfl, -⟩ OS _
    have hcs : ∀ c ∈ ([] : List Int32), 0 ≤ c.toInt ∧ c.toInt < 256 := fun _ q => nomatch q
    show Run _ _ _ _ _ _ _ _ _ _ _ _ _ _ _ _ _ _ _ _ [Value.ref x]
    refine Run.astore F d0_234 rfl rfl ?_
    dsimp only [List.set]
    refine Run.viaS (pcJ := 301) (fun st => st = [.int (b2i (inv [] 0))]) ?_ ?_
    · rintro _ rfl
      refine Run.istore F d0_301 rfl ?_
      dsimp only [List.set]
      refine Run.aload F d0_303 rfl rfl ?_
      refine Run.callStatic F (w23 hw) (w24 hw) (w25 hw) (w26 hw) (c_member l Z n0 a0 hw x bx [] SC hcz SF hsf hS _ OS SS hcs) rfl pd13 rfl rfl rfl rfl (by decide) (by decide) rfl d0_305 ?_
      rintro _ _ _ ⟨_, rfl, rfl, rfl, rfl⟩ _ _
      refine Run.iload F d0_308 rfl ?_
      refine Run.icmpB_ne F d0_310 (t := 317) rfl (fun q => absurd rfl q) (fun _ => ?_)
      refine Run.iconst F d0_313 (z := 1) rfl ?_
      refine Run.goto F d0_314 (t := 318) rfl ?_
      exact Run.ireturn F (by simp) rfl (by decide) (by decide) d0_318 rfl
    · intro J
      refine Run.iloadN F d0_236 rfl ?_
      refine Run.iconst F d0_237 (z := 1) rfl ?_
      refine Run.icmpYes F d0_238 (t := 300) rfl rfl ?_
      refine Run.iconst F d0_300 (z := 0) rfl ?_
      exact J _ (by first | (simp [inv, v0, b2i]; done) | exact absurd (qa.symm.trans qb) (by decide))
  · refine Run.iloadN F d0_57 rfl ?_
    refine Run.ifYes F d0_58 (t := 73) rfl rfl ?_
    refine Run.iloadN F d0_73 rfl ?_
    refine Run.iconst F d0_74 (z := 1) rfl ?_
    refine Run.icmpNo F d0_75 rfl ?_
    refine Run.iconst F d0_78 (z := 1) rfl ?_
    refine Run.newarray (aty := .char) F (w1 hw) (by decide) (len := 1) rfl 1 (by decide) rfl (by decide) (by decide) d0_79 ?_
    intro hA ta hta KA ltA A0
    have gA : n0 ≤ ta := by rw [hta, ← hO.1]; exact hO.2.1
    have OA : Old Z n0 hA := hO.keep KA all0
    refine Run.dup F d0_81 rfl ?_
    refine Run.iconst F d0_82 (z := 0) rfl ?_
    refine Run.iload F d0_83 rfl ?_
    refine Run.castore F A0 gA (by decide) (i := 0) rfl (by simp) (chr_id r0.1 (by omega)) d0_85 ?_
    intro hA0 WA0 KA0 sA0 A1
    have OA0 : Old Z n0 hA0 := OA.wr WA0 gA
    have AA : Av Z hA0 ta .char (([c0] : List Int32).map Value.int) := A1
    refine Run.astore F d0_86 rfl rfl ?_
    dsimp only [List.set]
    refine Run.iload F d0_88 rfl ?_
    refine Run.istore F d0_90 rfl ?_
    dsimp only [List.set]
    refine Run.goto F d0_92 (t := 225) rfl ?_
    refine Run.new F (w2 hw) (w3 hw) (w4 hw) (by decide) (by decide) d0_225 ?_
    intro hN x hx KN ltN EN DN UN
    have ON : Old Z n0 hN := OA0.keep KN all0
    have gx : n0 ≤ x := by rw [hx, ← OA0.1]; exact OA0.2.1
    have Fv : Fld Z hN x "java/lang/String" "value" "[B" .null := DN (Or.inr (w17 hw)) (ty := .array .byte) (by decide)
    have Fc : Fld Z hN x "java/lang/String" "coder" "B" (.int 0) := DN (Or.inr (w18 hw)) (ty := .byte) (by decide)
    refine Run.dup F d0_228 rfl ?_
    refine Run.aload F d0_229 rfl rfl ?_
    have hcs : ∀ c ∈ ([c0] : List Int32), 0 ≤ c.toInt ∧ c.toInt < 256 := by
      intro c hc
      simp only [List.mem_cons, List.not_mem_nil, or_false] at hc
      rcases hc with rfl <;> assumption
    refine Run.callInit F (w5 hw) (w6 hw) (w4 hw) (w7 hw) (c_newL l Z n0 a0 hw x ta [c0] SC hcz hN _ ON EN Fv Fc gx (AA.keep KN nin0) (by simp) (by simp) hcs) rfl rfl pd12 rfl rfl rfl rfl (by decide) (by decide) rfl d0_231 ?_
    rintro _ hS _ ⟨rfl, bx, KS, hbx, SS, rfl⟩ OS _
    show Run _ _ _ _ _ _ _ _ _ _ _ _ _ _ _ _ _ _ _ _ [Value.ref x]
    refine Run.astore F d0_234 rfl rfl ?_
    dsimp only [List.set]
    refine Run.viaS (pcJ := 301) (fun st => st = [.int (b2i (inv [c0] 0))]) ?_ ?_
    · rintro _ rfl
      refine Run.istore F d0_301 rfl ?_
      dsimp only [List.set]
      refine Run.aload F d0_303 rfl rfl ?_
      refine Run.callStatic F (w23 hw) (w24 hw) (w25 hw) (w26 hw) (c_member l Z n0 a0 hw x bx [c0] SC hcz SF hsf hS _ OS SS hcs) rfl pd13 rfl rfl rfl rfl (by decide) (by decide) rfl d0_305 ?_
      rintro _ _ _ ⟨_, rfl, rfl, rfl, rfl⟩ _ _
      refine Run.iload F d0_308 rfl ?_
      refine Run.icmpB_ne F d0_310 (t := 317) rfl (fun q => absurd rfl q) (fun _ => ?_)
      refine Run.iconst F d0_313 (z := 1) rfl ?_
      refine Run.goto F d0_314 (t := 318) rfl ?_
      exact Run.ireturn F (by simp) rfl (by decide) (by decide) d0_318 rfl
    · intro J
      refine Run.iloadN F d0_236 rfl ?_
      refine Run.iconst F d0_237 (z := 1) rfl ?_
      refine Run.icmpNo F d0_238 rfl ?_
      refine Run.iload F d0_241 rfl ?_
      refine Run.callStatic F (w48 hw) (w49 hw) (w50 hw) (w51 hw) (c_alnum l Z n0 a0 hw c0 hS _ OS) rfl pd9 rfl rfl rfl rfl (by decide) (by decide) rfl d0_243 ?_
      rintro _ _ _ ⟨_, rfl, rfl, rfl, rfl⟩ _ _
      refine Run.ifB_eq F d0_246 (t := 300) rfl (fun qa => ?_) (fun qa => ?_)
      · refine Run.iconst F d0_300 (z := 0) rfl ?_
        exact J _ (by first | (simp [inv, v0, b2i, qa]; done) | exact absurd (qa.symm.trans qb) (by decide))
      ·
        refine Run.iload F d0_249 rfl ?_
        refine Run.callStatic F (w48 hw) (w49 hw) (w50 hw) (w51 hw) (c_alnum l Z n0 a0 hw c0 hS _ OS) rfl pd9 rfl rfl rfl rfl (by decide) (by decide) rfl d0_251 ?_
        rintro _ _ _ ⟨_, rfl, rfl, rfl, rfl⟩ _ _
        refine Run.ifB_eq F d0_254 (t := 300) rfl (fun qb => ?_) (fun qb => ?_)
        · refine Run.iconst F d0_300 (z := 0) rfl ?_
          exact J _ (by first | (simp [inv, v0, b2i, qa, qb]; done) | exact absurd (qa.symm.trans qb) (by decide))
        ·
          refine Run.iloadN F d0_257 rfl ?_
          refine Run.iconst F d0_258 (z := 3) rfl ?_
          refine Run.icmpYes F d0_259 (t := 270) rfl rfl ?_
          refine Run.iloadN F d0_270 rfl ?_
          refine Run.iconst F d0_271 (z := 4) rfl ?_
          refine Run.icmpYes F d0_272 (t := 283) rfl rfl ?_
          refine Run.iloadN F d0_283 rfl ?_
          refine Run.iconst F d0_284 (z := 5) rfl ?_
          refine Run.icmpYes F d0_285 (t := 296) rfl rfl ?_
          refine Run.iconst F d0_296 (z := 1) rfl ?_
          refine Run.goto F d0_297 (t := 301) rfl ?_
          exact J _ (by first | (simp [inv, v0, b2i, qa, qb]; done) | exact absurd (qa.symm.trans qb) (by decide))
  · refine Run.iloadN F d0_57 rfl ?_
    refine Run.ifYes F d0_58 (t := 73) rfl rfl ?_
    refine Run.iloadN F d0_73 rfl ?_
    refine Run.iconst F d0_74 (z := 1) rfl ?_
    refine Run.icmpYes F d0_75 (t := 95) rfl rfl ?_
    refine Run.iloadN F d0_95 rfl ?_
    refine Run.iconst F d0_96 (z := 2) rfl ?_
    refine Run.icmpNo F d0_97 rfl ?_
    refine Run.iconst F d0_100 (z := 2) rfl ?_
    refine Run.newarray (aty := .char) F (w1 hw) (by decide) (len := 2) rfl 2 (by decide) rfl (by decide) (by decide) d0_101 ?_
    intro hA ta hta KA ltA A0
    have gA : n0 ≤ ta := by rw [hta, ← hO.1]; exact hO.2.1
    have OA : Old Z n0 hA := hO.keep KA all0
    refine Run.dup F d0_103 rfl ?_
    refine Run.iconst F d0_104 (z := 0) rfl ?_
    refine Run.iload F d0_105 rfl ?_
    refine Run.castore F A0 gA (by decide) (i := 0) rfl (by simp) (chr_id r0.1 (by omega)) d0_107 ?_
    intro hA0 WA0 KA0 sA0 A1
    have OA0 : Old Z n0 hA0 := OA.wr WA0 gA
    refine Run.dup F d0_108 rfl ?_
    refine Run.iconst F d0_109 (z := 1) rfl ?_
    refine Run.iload F d0_110 rfl ?_
    refine Run.castore F A1 gA (by decide) (i := 1) rfl (by simp) (chr_id r1.1 (by omega)) d0_112 ?_
    intro hA1 WA1 KA1 sA1 A2
    have OA1 : Old Z n0 hA1 := OA0.wr WA1 gA
    have AA : Av Z hA1 ta .char (([c0, c1] : List Int32).map Value.int) := A2
    refine Run.astore F d0_113 rfl rfl ?_
    dsimp only [List.set]
    refine Run.iload F d0_115 rfl ?_
    refine Run.istore F d0_117 rfl ?_
    dsimp only [List.set]
    refine Run.goto F d0_119 (t := 225) rfl ?_
    refine Run.new F (w2 hw) (w3 hw) (w4 hw) (by decide) (by decide) d0_225 ?_
    intro hN x hx KN ltN EN DN UN
    have ON : Old Z n0 hN := OA1.keep KN all0
    have gx : n0 ≤ x := by rw [hx, ← OA1.1]; exact OA1.2.1
    have Fv : Fld Z hN x "java/lang/String" "value" "[B" .null := DN (Or.inr (w17 hw)) (ty := .array .byte) (by decide)
    have Fc : Fld Z hN x "java/lang/String" "coder" "B" (.int 0) := DN (Or.inr (w18 hw)) (ty := .byte) (by decide)
    refine Run.dup F d0_228 rfl ?_
    refine Run.aload F d0_229 rfl rfl ?_
    have hcs : ∀ c ∈ ([c0, c1] : List Int32), 0 ≤ c.toInt ∧ c.toInt < 256 := by
      intro c hc
      simp only [List.mem_cons, List.not_mem_nil, or_false] at hc
      rcases hc with rfl | rfl <;> assumption
    refine Run.callInit F (w5 hw) (w6 hw) (w4 hw) (w7 hw) (c_newL l Z n0 a0 hw x ta [c0, c1] SC hcz hN _ ON EN Fv Fc gx (AA.keep KN nin0) (by simp) (by simp) hcs) rfl rfl pd12 rfl rfl rfl rfl (by decide) (by decide) rfl d0_231 ?_
    rintro _ hS _ ⟨rfl, bx, KS, hbx, SS, rfl⟩ OS _
    show Run _ _ _ _ _ _ _ _ _ _ _ _ _ _ _ _ _ _ _ _ [Value.ref x]
    refine Run.astore F d0_234 rfl rfl ?_
    dsimp only [List.set]
    refine Run.viaS (pcJ := 301) (fun st => st = [.int (b2i (inv [c0, c1] 1))]) ?_ ?_
    · rintro _ rfl
      refine Run.istore F d0_301 rfl ?_
      dsimp only [List.set]
      refine Run.aload F d0_303 rfl rfl ?_
      refine Run.callStatic F (w23 hw) (w24 hw) (w25 hw) (w26 hw) (c_member l Z n0 a0 hw x bx [c0, c1] SC hcz SF hsf hS _ OS SS hcs) rfl pd13 rfl rfl rfl rfl (by decide) (by decide) rfl d0_305 ?_
      rintro _ _ _ ⟨_, rfl, rfl, rfl, rfl⟩ _ _
      refine Run.iload F d0_308 rfl ?_
      refine Run.icmpB_ne F d0_310 (t := 317) rfl (fun q => absurd rfl q) (fun _ => ?_)
      refine Run.iconst F d0_313 (z := 1) rfl ?_
      refine Run.goto F d0_314 (t := 318) rfl ?_
      exact Run.ireturn F (by simp) rfl (by decide) (by decide) d0_318 rfl
    · intro J
      refine Run.iloadN F d0_236 rfl ?_
      refine Run.iconst F d0_237 (z := 1) rfl ?_
      refine Run.icmpNo F d0_238 rfl ?_
      refine Run.iload F d0_241 rfl ?_
      refine Run.callStatic F (w48 hw) (w49 hw) (w50 hw) (w51 hw) (c_alnum l Z n0 a0 hw c0 hS _ OS) rfl pd9 rfl rfl rfl rfl (by decide) (by decide) rfl d0_243 ?_
      rintro _ _ _ ⟨_, rfl, rfl, rfl, rfl⟩ _ _
      refine Run.ifB_eq F d0_246 (t := 300) rfl (fun qa => ?_) (fun qa => ?_)
      · refine Run.iconst F d0_300 (z := 0) rfl ?_
        exact J _ (by first | (simp [inv, v0, b2i, qa]; done) | exact absurd (qa.symm.trans qb) (by decide))
      ·
        refine Run.iload F d0_249 rfl ?_
        refine Run.callStatic F (w48 hw) (w49 hw) (w50 hw) (w51 hw) (c_alnum l Z n0 a0 hw c1 hS _ OS) rfl pd9 rfl rfl rfl rfl (by decide) (by decide) rfl d0_251 ?_
        rintro _ _ _ ⟨_, rfl, rfl, rfl, rfl⟩ _ _
        refine Run.ifB_eq F d0_254 (t := 300) rfl (fun qb => ?_) (fun qb => ?_)
        · refine Run.iconst F d0_300 (z := 0) rfl ?_
          exact J _ (by first | (simp [inv, v0, b2i, qa, qb]; done) | exact absurd (qa.symm.trans qb) (by decide))
        ·
          refine Run.iloadN F d0_257 rfl ?_
          refine Run.iconst F d0_258 (z := 3) rfl ?_
          refine Run.icmpYes F d0_259 (t := 270) rfl rfl ?_
          refine Run.iloadN F d0_270 rfl ?_
          refine Run.iconst F d0_271 (z := 4) rfl ?_
          refine Run.icmpYes F d0_272 (t := 283) rfl rfl ?_
          refine Run.iloadN F d0_283 rfl ?_
          refine Run.iconst F d0_284 (z := 5) rfl ?_
          refine Run.icmpYes F d0_285 (t := 296) rfl rfl ?_
          refine Run.iconst F d0_296 (z := 1) rfl ?_
          refine Run.goto F d0_297 (t := 301) rfl ?_
          exact J _ (by first | (simp [inv, v0, b2i, qa, qb]; done) | exact absurd (qa.symm.trans qb) (by decide))
  · refine Run.iloadN F d0_57 rfl ?_
    refine Run.ifYes F d0_58 (t := 73) rfl rfl ?_
    refine Run.iloadN F d0_73 rfl ?_
    refine Run.iconst F d0_74 (z := 1) rfl ?_
    refine Run.icmpYes F d0_75 (t := 95) rfl rfl ?_
    refine Run.iloadN F d0_95 rfl ?_
    refine Run.iconst F d0_96 (z := 2) rfl ?_
    refine Run.icmpYes F d0_97 (t := 122) rfl rfl ?_
    refine Run.iloadN F d0_122 rfl ?_
    refine Run.iconst F d0_123 (z := 3) rfl ?_
    refine Run.icmpNo F d0_124 rfl ?_
    refine Run.iconst F d0_127 (z := 3) rfl ?_
    refine Run.newarray (aty := .char) F (w1 hw) (by decide) (len := 3) rfl 3 (by decide) rfl (by decide) (by decide) d0_128 ?_
    intro hA ta hta KA ltA A0
    have gA : n0 ≤ ta := by rw [hta, ← hO.1]; exact hO.2.1
    have OA : Old Z n0 hA := hO.keep KA all0
    refine Run.dup F d0_130 rfl ?_
    refine Run.iconst F d0_131 (z := 0) rfl ?_
    refine Run.iload F d0_132 rfl ?_
    refine Run.castore F A0 gA (by decide) (i := 0) rfl (by simp) (chr_id r0.1 (by omega)) d0_134 ?_
    intro hA0 WA0 KA0 sA0 A1
    have OA0 : Old Z n0 hA0 := OA.wr WA0 gA
    refine Run.dup F d0_135 rfl ?_
    refine Run.iconst F d0_136 (z := 1) rfl ?_
    refine Run.iload F d0_137 rfl ?_
    refine Run.castore F A1 gA (by decide) (i := 1) rfl (by simp) (chr_id r1.1 (by omega)) d0_139 ?_
    intro hA1 WA1 KA1 sA1 A2
    have OA1 : Old Z n0 hA1 := OA0.wr WA1 gA
    refine Run.dup F d0_140 rfl ?_
    refine Run.iconst F d0_141 (z := 2) rfl ?_
    refine Run.iload F d0_142 rfl ?_
    refine Run.castore F A2 gA (by decide) (i := 2) rfl (by simp) (chr_id r2.1 (by omega)) d0_144 ?_
    intro hA2 WA2 KA2 sA2 A3
    have OA2 : Old Z n0 hA2 := OA1.wr WA2 gA
    have AA : Av Z hA2 ta .char (([c0, c1, c2] : List Int32).map Value.int) := A3
    refine Run.astore F d0_145 rfl rfl ?_
    dsimp only [List.set]
    refine Run.iload F d0_147 rfl ?_
    refine Run.istore F d0_149 rfl ?_
    dsimp only [List.set]
    refine Run.goto F d0_151 (t := 225) rfl ?_
    refine Run.new F (w2 hw) (w3 hw) (w4 hw) (by decide) (by decide) d0_225 ?_
    intro hN x hx KN ltN EN DN UN
    have ON : Old Z n0 hN := OA2.keep KN all0
    have gx : n0 ≤ x := by rw [hx, ← OA2.1]; exact OA2.2.1
    have Fv : Fld Z hN x "java/lang/String" "value" "[B" .null := DN (Or.inr (w17 hw)) (ty := .array .byte) (by decide)
    have Fc : Fld Z hN x "java/lang/String" "coder" "B" (.int 0) := DN (Or.inr (w18 hw)) (ty := .byte) (by decide)
    refine Run.dup F d0_228 rfl ?_
    refine Run.aload F d0_229 rfl rfl ?_
    have hcs : ∀ c ∈ ([c0, c1, c2] : List Int32), 0 ≤ c.toInt ∧ c.toInt < 256 := by
      intro c hc
      simp only [List.mem_cons, List.not_mem_nil, or_false] at hc
      rcases hc with rfl | rfl | rfl <;> assumption
    refine Run.callInit F (w5 hw) (w6 hw) (w4 hw) (w7 hw) (c_newL l Z n0 a0 hw x ta [c0, c1, c2] SC hcz hN _ ON EN Fv Fc gx (AA.keep KN nin0) (by simp) (by simp) hcs) rfl rfl pd12 rfl rfl rfl rfl (by decide) (by decide) rfl d0_231 ?_
    rintro _ hS _ ⟨rfl, bx, KS, hbx, SS, rfl⟩ OS _
    show Run _ _ _ _ _ _ _ _ _ _ _ _ _ _ _ _ _ _ _ _ [Value.ref x]
    refine Run.astore F d0_234 rfl rfl ?_
    dsimp only [List.set]
    refine Run.viaS (pcJ := 301) (fun st => st = [.int (b2i (inv [c0, c1, c2] 2))]) ?_ ?_
    · rintro _ rfl
      refine Run.istore F d0_301 rfl ?_
      dsimp only [List.set]
      refine Run.aload F d0_303 rfl rfl ?_
      refine Run.callStatic F (w23 hw) (w24 hw) (w25 hw) (w26 hw) (c_member l Z n0 a0 hw x bx [c0, c1, c2] SC hcz SF hsf hS _ OS SS hcs) rfl pd13 rfl rfl rfl rfl (by decide) (by decide) rfl d0_305 ?_
      rintro _ _ _ ⟨_, rfl, rfl, rfl, rfl⟩ _ _
      refine Run.iload F d0_308 rfl ?_
      refine Run.icmpB_ne F d0_310 (t := 317) rfl (fun q => absurd rfl q) (fun _ => ?_)
      refine Run.iconst F d0_313 (z := 1) rfl ?_
      refine Run.goto F d0_314 (t := 318) rfl ?_
      exact Run.ireturn F (by simp) rfl (by decide) (by decide) d0_318 rfl
    · intro J
      refine Run.iloadN F d0_236 rfl ?_
      refine Run.iconst F d0_237 (z := 1) rfl ?_
      refine Run.icmpNo F d0_238 rfl ?_
      refine Run.iload F d0_241 rfl ?_
      refine Run.callStatic F (w48 hw) (w49 hw) (w50 hw) (w51 hw) (c_alnum l Z n0 a0 hw c0 hS _ OS) rfl pd9 rfl rfl rfl rfl (by decide) (by decide) rfl d0_243 ?_
      rintro _ _ _ ⟨_, rfl, rfl, rfl, rfl⟩ _ _
      refine Run.ifB_eq F d0_246 (t := 300) rfl (fun qa => ?_) (fun qa => ?_)
      · refine Run.iconst F d0_300 (z := 0) rfl ?_
        exact J _ (by first | (simp [inv, v0, b2i, qa]; done) | exact absurd (qa.symm.trans qb) (by decide))
      ·
        refine Run.iload F d0_249 rfl ?_
        refine Run.callStatic F (w48 hw) (w49 hw) (w50 hw) (w51 hw) (c_alnum l Z n0 a0 hw c2 hS _ OS) rfl pd9 rfl rfl rfl rfl (by decide) (by decide) rfl d0_251 ?_
        rintro _ _ _ ⟨_, rfl, rfl, rfl, rfl⟩ _ _
        refine Run.ifB_eq F d0_254 (t := 300) rfl (fun qb => ?_) (fun qb => ?_)
        · refine Run.iconst F d0_300 (z := 0) rfl ?_
          exact J _ (by first | (simp [inv, v0, b2i, qa, qb]; done) | exact absurd (qa.symm.trans qb) (by decide))
        ·
          refine Run.iloadN F d0_257 rfl ?_
          refine Run.iconst F d0_258 (z := 3) rfl ?_
          refine Run.icmpNo F d0_259 rfl ?_
          refine Run.iload F d0_262 rfl ?_
          refine Run.callStatic F (w77 hw) (w78 hw) (w50 hw) (w79 hw) (c_inner l Z n0 a0 hw c1 hS _ OS) rfl pd9 rfl rfl rfl rfl (by decide) (by decide) rfl d0_264 ?_
          rintro _ _ _ ⟨_, rfl, rfl, rfl, rfl⟩ _ _
          refine Run.ifB_eq F d0_267 (t := 300) rfl (fun qc => ?_) (fun qc => ?_)
          · refine Run.iconst F d0_300 (z := 0) rfl ?_
            exact J _ (by first | (simp [inv, v0, b2i, qa, qb, qc]; done) | exact absurd (qa.symm.trans qb) (by decide))
          ·
            refine Run.iloadN F d0_270 rfl ?_
            refine Run.iconst F d0_271 (z := 4) rfl ?_
            refine Run.icmpYes F d0_272 (t := 283) rfl rfl ?_
            refine Run.iloadN F d0_283 rfl ?_
            refine Run.iconst F d0_284 (z := 5) rfl ?_
            refine Run.icmpYes F d0_285 (t := 296) rfl rfl ?_
            refine Run.iconst F d0_296 (z := 1) rfl ?_
            refine Run.goto F d0_297 (t := 301) rfl ?_
            exact J _ (by first | (simp [inv, v0, b2i, qa, qb, qc]; done) | exact absurd (qa.symm.trans qb) (by decide))
  · refine Run.iloadN F d0_57 rfl ?_
    refine Run.ifYes F d0_58 (t := 73) rfl rfl ?_
    refine Run.iloadN F d0_73 rfl ?_
    refine Run.iconst F d0_74 (z := 1) rfl ?_
    refine Run.icmpYes F d0_75 (t := 95) rfl rfl ?_
    refine Run.iloadN F d0_95 rfl ?_
    refine Run.iconst F d0_96 (z := 2) rfl ?_
    refine Run.icmpYes F d0_97 (t := 122) rfl rfl ?_
    refine Run.iloadN F d0_122 rfl ?_
    refine Run.iconst F d0_123 (z := 3) rfl ?_
    refine Run.icmpYes F d0_124 (t := 154) rfl rfl ?_
    refine Run.iloadN F d0_154 rfl ?_
    refine Run.iconst F d0_155 (z := 4) rfl ?_
    refine Run.icmpNo F d0_156 rfl ?_
    refine Run.iconst F d0_159 (z := 4) rfl ?_
    refine Run.newarray (aty := .char) F (w1 hw) (by decide) (len := 4) rfl 4 (by decide) rfl (by decide) (by decide) d0_160 ?_
    intro hA ta hta KA ltA A0
    have gA : n0 ≤ ta := by rw [hta, ← hO.1]; exact hO.2.1
    have OA : Old Z n0 hA := hO.keep KA all0
    refine Run.dup F d0_162 rfl ?_
    refine Run.iconst F d0_163 (z := 0) rfl ?_
    refine Run.iload F d0_164 rfl ?_
    refine Run.castore F A0 gA (by decide) (i := 0) rfl (by simp) (chr_id r0.1 (by omega)) d0_166 ?_
    intro hA0 WA0 KA0 sA0 A1
    have OA0 : Old Z n0 hA0 := OA.wr WA0 gA
    refine Run.dup F d0_167 rfl ?_
    refine Run.iconst F d0_168 (z := 1) rfl ?_
    refine Run.iload F d0_169 rfl ?_
    refine Run.castore F A1 gA (by decide) (i := 1) rfl (by simp) (chr_id r1.1 (by omega)) d0_171 ?_
    intro hA1 WA1 KA1 sA1 A2
    have OA1 : Old Z n0 hA1 := OA0.wr WA1 gA
    refine Run.dup F d0_172 rfl ?_
    refine Run.iconst F d0_173 (z := 2) rfl ?_
    refine Run.iload F d0_174 rfl ?_
    refine Run.castore F A2 gA (by decide) (i := 2) rfl (by simp) (chr_id r2.1 (by omega)) d0_176 ?_
    intro hA2 WA2 KA2 sA2 A3
    have OA2 : Old Z n0 hA2 := OA1.wr WA2 gA
    refine Run.dup F d0_177 rfl ?_
    refine Run.iconst F d0_178 (z := 3) rfl ?_
    refine Run.iload F d0_179 rfl ?_
    refine Run.castore F A3 gA (by decide) (i := 3) rfl (by simp) (chr_id r3.1 (by omega)) d0_181 ?_
    intro hA3 WA3 KA3 sA3 A4
    have OA3 : Old Z n0 hA3 := OA2.wr WA3 gA
    have AA : Av Z hA3 ta .char (([c0, c1, c2, c3] : List Int32).map Value.int) := A4
    refine Run.astore F d0_182 rfl rfl ?_
    dsimp only [List.set]
    refine Run.iload F d0_184 rfl ?_
    refine Run.istore F d0_186 rfl ?_
    dsimp only [List.set]
    refine Run.goto F d0_188 (t := 225) rfl ?_
    refine Run.new F (w2 hw) (w3 hw) (w4 hw) (by decide) (by decide) d0_225 ?_
    intro hN x hx KN ltN EN DN UN
    have ON : Old Z n0 hN := OA3.keep KN all0
    have gx : n0 ≤ x := by rw [hx, ← OA3.1]; exact OA3.2.1
    have Fv : Fld Z hN x "java/lang/String" "value" "[B" .null := DN (Or.inr (w17 hw)) (ty := .array .byte) (by decide)
    have Fc : Fld Z hN x "java/lang/String" "coder" "B" (.int 0) := DN (Or.inr (w18 hw)) (ty := .byte) (by decide)
    refine Run.dup F d0_228 rfl ?_
    refine Run.aload F d0_229 rfl rfl ?_
    have hcs : ∀ c ∈ ([c0, c1, c2, c3] : List Int32), 0 ≤ c.toInt ∧ c.toInt < 256 := by
      intro c hc
      simp only [List.mem_cons, List.not_mem_nil, or_false] at hc
      rcases hc with rfl | rfl | rfl | rfl <;> assumption
    refine Run.callInit F (w5 hw) (w6 hw) (w4 hw) (w7 hw) (c_newL l Z n0 a0 hw x ta [c0, c1, c2, c3] SC hcz hN _ ON EN Fv Fc gx (AA.keep KN nin0) (by simp) (by simp) hcs) rfl rfl pd12 rfl rfl rfl rfl (by decide) (by decide) rfl d0_231 ?_
    rintro _ hS _ ⟨rfl, bx, KS, hbx, SS, rfl⟩ OS _
    show Run _ _ _ _ _ _ _ _ _ _ _ _ _ _ _ _ _ _ _ _ [Value.ref x]
    refine Run.astore F d0_234 rfl rfl ?_
    dsimp only [List.set]
    refine Run.viaS (pcJ := 301) (fun st => st = [.int (b2i (inv [c0, c1, c2, c3] 3))]) ?_ ?_
    · rintro _ rfl
      refine Run.istore F d0_301 rfl ?_
      dsimp only [List.set]
      refine Run.aload F d0_303 rfl rfl ?_
      refine Run.callStatic F (w23 hw) (w24 hw) (w25 hw) (w26 hw) (c_member l Z n0 a0 hw x bx [c0, c1, c2, c3] SC hcz SF hsf hS _ OS SS hcs) rfl pd13 rfl rfl rfl rfl (by decide) (by decide) rfl d0_305 ?_
      rintro _ _ _ ⟨_, rfl, rfl, rfl, rfl⟩ _ _
      refine Run.iload F d0_308 rfl ?_
      refine Run.icmpB_ne F d0_310 (t := 317) rfl (fun q => absurd rfl q) (fun _ => ?_)
      refine Run.iconst F d0_313 (z := 1) rfl ?_
      refine Run.goto F d0_314 (t := 318) rfl ?_
      exact Run.ireturn F (by simp) rfl (by decide) (by decide) d0_318 rfl
    · intro J
      refine Run.iloadN F d0_236 rfl ?_
      refine Run.iconst F d0_237 (z := 1) rfl ?_
      refine Run.icmpNo F d0_238 rfl ?_
      refine Run.iload F d0_241 rfl ?_
      refine Run.callStatic F (w48 hw) (w49 hw) (w50 hw) (w51 hw) (c_alnum l Z n0 a0 hw c0 hS _ OS) rfl pd9 rfl rfl rfl rfl (by decide) (by decide) rfl d0_243 ?_
      rintro _ _ _ ⟨_, rfl, rfl, rfl, rfl⟩ _ _
      refine Run.ifB_eq F d0_246 (t := 300) rfl (fun qa => ?_) (fun qa => ?_)
      · refine Run.iconst F d0_300 (z := 0) rfl ?_
        exact J _ (by first | (simp [inv, v0, b2i, qa]; done) | exact absurd (qa.symm.trans qb) (by decide))
      ·
        refine Run.iload F d0_249 rfl ?_
        refine Run.callStatic F (w48 hw) (w49 hw) (w50 hw) (w51 hw) (c_alnum l Z n0 a0 hw c3 hS _ OS) rfl pd9 rfl rfl rfl rfl (by decide) (by decide) rfl d0_251 ?_
        rintro _ _ _ ⟨_, rfl, rfl, rfl, rfl⟩ _ _
        refine Run.ifB_eq F d0_254 (t := 300) rfl (fun qb => ?_) (fun qb => ?_)
        · refine Run.iconst F d0_300 (z := 0) rfl ?_
          exact J _ (by first | (simp [inv, v0, b2i, qa, qb]; done) | exact absurd (qa.symm.trans qb) (by decide))
        ·
          refine Run.iloadN F d0_257 rfl ?_
          refine Run.iconst F d0_258 (z := 3) rfl ?_
          refine Run.icmpNo F d0_259 rfl ?_
          refine Run.iload F d0_262 rfl ?_
          refine Run.callStatic F (w77 hw) (w78 hw) (w50 hw) (w79 hw) (c_inner l Z n0 a0 hw c1 hS _ OS) rfl pd9 rfl rfl rfl rfl (by decide) (by decide) rfl d0_264 ?_
          rintro _ _ _ ⟨_, rfl, rfl, rfl, rfl⟩ _ _
          refine Run.ifB_eq F d0_267 (t := 300) rfl (fun qc => ?_) (fun qc => ?_)
          · refine Run.iconst F d0_300 (z := 0) rfl ?_
            exact J _ (by first | (simp [inv, v0, b2i, qa, qb, qc]; done) | exact absurd (qa.symm.trans qb) (by decide))
          ·
            refine Run.iloadN F d0_270 rfl ?_
            refine Run.iconst F d0_271 (z := 4) rfl ?_
            refine Run.icmpNo F d0_272 rfl ?_
            refine Run.iload F d0_275 rfl ?_
            refine Run.callStatic F (w77 hw) (w78 hw) (w50 hw) (w79 hw) (c_inner l Z n0 a0 hw c2 hS _ OS) rfl pd9 rfl rfl rfl rfl (by decide) (by decide) rfl d0_277 ?_
            rintro _ _ _ ⟨_, rfl, rfl, rfl, rfl⟩ _ _
            refine Run.ifB_eq F d0_280 (t := 300) rfl (fun qd => ?_) (fun qd => ?_)
            · refine Run.iconst F d0_300 (z := 0) rfl ?_
              exact J _ (by first | (simp [inv, v0, b2i, qa, qb, qc, qd]; done) | exact absurd (qa.symm.trans qb) (by decide))
            ·
              refine Run.iloadN F d0_283 rfl ?_
              refine Run.iconst F d0_284 (z := 5) rfl ?_
              refine Run.icmpYes F d0_285 (t := 296) rfl rfl ?_
              refine Run.iconst F d0_296 (z := 1) rfl ?_
              refine Run.goto F d0_297 (t := 301) rfl ?_
              exact J _ (by first | (simp [inv, v0, b2i, qa, qb, qc, qd]; done) | exact absurd (qa.symm.trans qb) (by decide))
  · refine Run.iloadN F d0_57 rfl ?_
    refine Run.ifYes F d0_58 (t := 73) rfl rfl ?_
    refine Run.iloadN F d0_73 rfl ?_
    refine Run.iconst F d0_74 (z := 1) rfl ?_
    refine Run.icmpYes F d0_75 (t := 95) rfl rfl ?_
    refine Run.iloadN F d0_95 rfl ?_
    refine Run.iconst F d0_96 (z := 2) rfl ?_
    refine Run.icmpYes F d0_97 (t := 122) rfl rfl ?_
    refine Run.iloadN F d0_122 rfl ?_
    refine Run.iconst F d0_123 (z := 3) rfl ?_
    refine Run.icmpYes F d0_124 (t := 154) rfl rfl ?_
    refine Run.iloadN F d0_154 rfl ?_
    refine Run.iconst F d0_155 (z := 4) rfl ?_
    refine Run.icmpYes F d0_156 (t := 191) rfl rfl ?_
    refine Run.iconst F d0_191 (z := 5) rfl ?_
    refine Run.newarray (aty := .char) F (w1 hw) (by decide) (len := 5) rfl 5 (by decide) rfl (by decide) (by decide) d0_192 ?_
    intro hA ta hta KA ltA A0
    have gA : n0 ≤ ta := by rw [hta, ← hO.1]; exact hO.2.1
    have OA : Old Z n0 hA := hO.keep KA all0
    refine Run.dup F d0_194 rfl ?_
    refine Run.iconst F d0_195 (z := 0) rfl ?_
    refine Run.iload F d0_196 rfl ?_
    refine Run.castore F A0 gA (by decide) (i := 0) rfl (by simp) (chr_id r0.1 (by omega)) d0_198 ?_
    intro hA0 WA0 KA0 sA0 A1
    have OA0 : Old Z n0 hA0 := OA.wr WA0 gA
    refine Run.dup F d0_199 rfl ?_
    refine Run.iconst F d0_200 (z := 1) rfl ?_
    refine Run.iload F d0_201 rfl ?_
    refine Run.castore F A1 gA (by decide) (i := 1) rfl (by simp) (chr_id r1.1 (by omega)) d0_203 ?_
    intro hA1 WA1 KA1 sA1 A2
    have OA1 : Old Z n0 hA1 := OA0.wr WA1 gA
    refine Run.dup F d0_204 rfl ?_
    refine Run.iconst F d0_205 (z := 2) rfl ?_
    refine Run.iload F d0_206 rfl ?_
    refine Run.castore F A2 gA (by decide) (i := 2) rfl (by simp) (chr_id r2.1 (by omega)) d0_208 ?_
    intro hA2 WA2 KA2 sA2 A3
    have OA2 : Old Z n0 hA2 := OA1.wr WA2 gA
    refine Run.dup F d0_209 rfl ?_
    refine Run.iconst F d0_210 (z := 3) rfl ?_
    refine Run.iload F d0_211 rfl ?_
    refine Run.castore F A3 gA (by decide) (i := 3) rfl (by simp) (chr_id r3.1 (by omega)) d0_213 ?_
    intro hA3 WA3 KA3 sA3 A4
    have OA3 : Old Z n0 hA3 := OA2.wr WA3 gA
    refine Run.dup F d0_214 rfl ?_
    refine Run.iconst F d0_215 (z := 4) rfl ?_
    refine Run.iload F d0_216 rfl ?_
    refine Run.castore F A4 gA (by decide) (i := 4) rfl (by simp) (chr_id r4.1 (by omega)) d0_218 ?_
    intro hA4 WA4 KA4 sA4 A5
    have OA4 : Old Z n0 hA4 := OA3.wr WA4 gA
    have AA : Av Z hA4 ta .char (([c0, c1, c2, c3, c4] : List Int32).map Value.int) := A5
    refine Run.astore F d0_219 rfl rfl ?_
    dsimp only [List.set]
    refine Run.iload F d0_221 rfl ?_
    refine Run.istore F d0_223 rfl ?_
    dsimp only [List.set]
    refine Run.new F (w2 hw) (w3 hw) (w4 hw) (by decide) (by decide) d0_225 ?_
    intro hN x hx KN ltN EN DN UN
    have ON : Old Z n0 hN := OA4.keep KN all0
    have gx : n0 ≤ x := by rw [hx, ← OA4.1]; exact OA4.2.1
    have Fv : Fld Z hN x "java/lang/String" "value" "[B" .null := DN (Or.inr (w17 hw)) (ty := .array .byte) (by decide)
    have Fc : Fld Z hN x "java/lang/String" "coder" "B" (.int 0) := DN (Or.inr (w18 hw)) (ty := .byte) (by decide)
    refine Run.dup F d0_228 rfl ?_
    refine Run.aload F d0_229 rfl rfl ?_
    have hcs : ∀ c ∈ ([c0, c1, c2, c3, c4] : List Int32), 0 ≤ c.toInt ∧ c.toInt < 256 := by
      intro c hc
      simp only [List.mem_cons, List.not_mem_nil, or_false] at hc
      rcases hc with rfl | rfl | rfl | rfl | rfl <;> assumption
    refine Run.callInit F (w5 hw) (w6 hw) (w4 hw) (w7 hw) (c_newL l Z n0 a0 hw x ta [c0, c1, c2, c3, c4] SC hcz hN _ ON EN Fv Fc gx (AA.keep KN nin0) (by simp) (by simp) hcs) rfl rfl pd12 rfl rfl rfl rfl (by decide) (by decide) rfl d0_231 ?_
    rintro _ hS _ ⟨rfl, bx, KS, hbx, SS, rfl⟩ OS _
    show Run _ _ _ _ _ _ _ _ _ _ _ _ _ _ _ _ _ _ _ _ [Value.ref x]
    refine Run.astore F d0_234 rfl rfl ?_
    dsimp only [List.set]
    refine Run.viaS (pcJ := 301) (fun st => st = [.int (b2i (inv [c0, c1, c2, c3, c4] 4))]) ?_ ?_
    · rintro _ rfl
      refine Run.istore F d0_301 rfl ?_
      dsimp only [List.set]
      refine Run.aload F d0_303 rfl rfl ?_
      refine Run.callStatic F (w23 hw) (w24 hw) (w25 hw) (w26 hw) (c_member l Z n0 a0 hw x bx [c0, c1, c2, c3, c4] SC hcz SF hsf hS _ OS SS hcs) rfl pd13 rfl rfl rfl rfl (by decide) (by decide) rfl d0_305 ?_
      rintro _ _ _ ⟨_, rfl, rfl, rfl, rfl⟩ _ _
      refine Run.iload F d0_308 rfl ?_
      refine Run.icmpB_ne F d0_310 (t := 317) rfl (fun q => absurd rfl q) (fun _ => ?_)
      refine Run.iconst F d0_313 (z := 1) rfl ?_
      refine Run.goto F d0_314 (t := 318) rfl ?_
      exact Run.ireturn F (by simp) rfl (by decide) (by decide) d0_318 rfl
    · intro J
      refine Run.iloadN F d0_236 rfl ?_
      refine Run.iconst F d0_237 (z := 1) rfl ?_
      refine Run.icmpNo F d0_238 rfl ?_
      refine Run.iload F d0_241 rfl ?_
      refine Run.callStatic F (w48 hw) (w49 hw) (w50 hw) (w51 hw) (c_alnum l Z n0 a0 hw c0 hS _ OS) rfl pd9 rfl rfl rfl rfl (by decide) (by decide) rfl d0_243 ?_
      rintro _ _ _ ⟨_, rfl, rfl, rfl, rfl⟩ _ _
      refine Run.ifB_eq F d0_246 (t := 300) rfl (fun qa => ?_) (fun qa => ?_)
      · refine Run.iconst F d0_300 (z := 0) rfl ?_
        exact J _ (by first | (simp [inv, v0, b2i, qa]; done) | exact absurd (qa.symm.trans qb) (by decide))
      ·
        refine Run.iload F d0_249 rfl ?_
        refine Run.callStatic F (w48 hw) (w49 hw) (w50 hw) (w51 hw) (c_alnum l Z n0 a0 hw c4 hS _ OS) rfl pd9 rfl rfl rfl rfl (by decide) (by decide) rfl d0_251 ?_
        rintro _ _ _ ⟨_, rfl, rfl, rfl, rfl⟩ _ _
        refine Run.ifB_eq F d0_254 (t := 300) rfl (fun qb => ?_) (fun qb => ?_)
        · refine Run.iconst F d0_300 (z := 0) rfl ?_
          exact J _ (by first | (simp [inv, v0, b2i, qa, qb]; done) | exact absurd (qa.symm.trans qb) (by decide))
        ·
          refine Run.iloadN F d0_257 rfl ?_
          refine Run.iconst F d0_258 (z := 3) rfl ?_
          refine Run.icmpNo F d0_259 rfl ?_
          refine Run.iload F d0_262 rfl ?_
          refine Run.callStatic F (w77 hw) (w78 hw) (w50 hw) (w79 hw) (c_inner l Z n0 a0 hw c1 hS _ OS) rfl pd9 rfl rfl rfl rfl (by decide) (by decide) rfl d0_264 ?_
          rintro _ _ _ ⟨_, rfl, rfl, rfl, rfl⟩ _ _
          refine Run.ifB_eq F d0_267 (t := 300) rfl (fun qc => ?_) (fun qc => ?_)
          · refine Run.iconst F d0_300 (z := 0) rfl ?_
            exact J _ (by first | (simp [inv, v0, b2i, qa, qb, qc]; done) | exact absurd (qa.symm.trans qb) (by decide))
          ·
            refine Run.iloadN F d0_270 rfl ?_
            refine Run.iconst F d0_271 (z := 4) rfl ?_
            refine Run.icmpNo F d0_272 rfl ?_
            refine Run.iload F d0_275 rfl ?_
            refine Run.callStatic F (w77 hw) (w78 hw) (w50 hw) (w79 hw) (c_inner l Z n0 a0 hw c2 hS _ OS) rfl pd9 rfl rfl rfl rfl (by decide) (by decide) rfl d0_277 ?_
            rintro _ _ _ ⟨_, rfl, rfl, rfl, rfl⟩ _ _
            refine Run.ifB_eq F d0_280 (t := 300) rfl (fun qd => ?_) (fun qd => ?_)
            · refine Run.iconst F d0_300 (z := 0) rfl ?_
              exact J _ (by first | (simp [inv, v0, b2i, qa, qb, qc, qd]; done) | exact absurd (qa.symm.trans qb) (by decide))
            ·
              refine Run.iloadN F d0_283 rfl ?_
              refine Run.iconst F d0_284 (z := 5) rfl ?_
              refine Run.icmpNo F d0_285 rfl ?_
              refine Run.iload F d0_288 rfl ?_
              refine Run.callStatic F (w77 hw) (w78 hw) (w50 hw) (w79 hw) (c_inner l Z n0 a0 hw c3 hS _ OS) rfl pd9 rfl rfl rfl rfl (by decide) (by decide) rfl d0_290 ?_
              rintro _ _ _ ⟨_, rfl, rfl, rfl, rfl⟩ _ _
              refine Run.ifB_eq F d0_293 (t := 300) rfl (fun qe => ?_) (fun qe => ?_)
              · refine Run.iconst F d0_300 (z := 0) rfl ?_
                exact J _ (by first | (simp [inv, v0, b2i, qa, qb, qc, qd, qe]; done) | exact absurd (qa.symm.trans qb) (by decide))
              ·
                refine Run.iconst F d0_296 (z := 1) rfl ?_
                refine Run.goto F d0_297 (t := 301) rfl ?_
                exact J _ (by first | (simp [inv, v0, b2i, qa, qb, qc, qd, qe]; done) | exact absurd (qa.symm.trans qb) (by decide))
set_option maxRecDepth 65536 in
set_option maxHeartbeats 40000000 in
theorem comes_1 {Post : Tables → Env → Array Value → State → Outcome → State → Prop} (hpost : ∀ tb e args s v u, (limb_1_1.after args s (.returned v) u = true ∧ limb_1_2.after args s (.returned v) u = true ∧ True) → ReturnedEndW s (.returned v) u (Jvm.fieldLocs frame_1_writes args s ++ Jvm.arrayLocs frame_1_arrays args s ++ Jvm.staticLocs frame_1_statics s) 16 1152 → Post tb e args s (.returned v) u) :
    ArmFor flags0 classFile x code maxLocals ret World_1 tables_1 room_1 Calls_1 rest_1 Pre_1 Post := by
  intro l hfl _ _ p e ha hc hk s m args below hf hA hF happ hP
  obtain ⟨hcalls, hrest, hpre⟩ := hP
  obtain ⟨-, -, -, hnamed, -, -, -, hat⟩ := (Spec.applies_iff hf).mp happ
  obtain ⟨hg, hn⟩ := and_e (Cond.before_iff.mp (show (Jvm.Cond.and given_1 narrow_1).before args s = true from hpre))
  obtain ⟨h1, g0⟩ := and_e hg
  obtain ⟨k0, g1⟩ := and_e g0
  obtain ⟨k1, g2⟩ := and_e g1
  have k2 := g2
  obtain ⟨w_0, w_1, w_2, rfl⟩ : ∃ w_0 w_1 w_2 : Value, args = #[w_0, w_1, w_2] := by
    have hs : args.size = 3 := by simpa [Cond.value, given_1] using h1
    obtain ⟨L⟩ := args
    match L, hs with
    | [w_0, w_1, w_2], _ => exact ⟨w_0, w_1, w_2, rfl⟩
  have hw := fun d (hd : d ∈ tables_1) => atoms_spec (ws := Jvm.Cond.code x code maxLocals ret :: tables_1) hat d (List.mem_cons_of_mem _ hd)
  obtain ⟨hsets, hown0⟩ := atoms_of _ (rest_1_c_eq ▸ (show rest_1_c.before _ s = true from hrest))
  have hfit : Fit s := fun {y c} hc i hi => by
    obtain ⟨ha, rfl⟩ := Array.getElem?_eq_some_iff.mp hc
    have q := List.all_eq_true.mp ((Array.all_eq_true_iff_forall_mem.mp hF) _ (Array.getElem_mem ha)) i (List.mem_range.mpr hi)
    simpa [Array.getElem?_eq_getElem hi] using q
  obtain ⟨i0, e0⟩ := is_v k0
  obtain rfl : w_0 = (.int i0) := Option.some.inj e0
  obtain ⟨i1, e1⟩ := is_v k1
  obtain rfl : w_1 = (.int i1) := Option.some.inj e1
  obtain ⟨i2, e2⟩ := is_v k2
  obtain rfl : w_2 = (.int i2) := Option.some.inj e2
  have n_cz := not_v (Cond.before_iff.mp (hsets _ (List.mem_of_getElem? (i := 2) rfl)))
  obtain ⟨cz, e_cz⟩ := is_v (Cond.before_iff.mp (hsets _ (List.mem_of_getElem? (i := 1) rfl)))
  have SC : Sta s s.heap "java/lang/String" "COMPACT_STRINGS" "Z" (.int cz) := Sta.start e_cz (Or.inl (hsets _ (List.mem_of_getElem? (i := 0) rfl)))
  have hcz0 : ¬ (cz = (0 : Int32)) := gotF (Cond.eq_ints e_cz (Term.int_eval (0))) n_cz
  have hcz : cz.toInt ≠ 0 := fun q => hcz0 (Int32.toInt_inj.mp q)
  obtain ⟨sf, e_sf, hsf⟩ := isR_v (Cond.before_iff.mp (hsets _ (List.mem_of_getElem? (i := 8) rfl)))
  have SF : Sta s s.heap "jdk/internal/util/Preconditions" "SIOOBE_FORMATTER" "Ljava/util/function/BiFunction;" sf := Sta.start e_sf (Or.inl (hsets _ (List.mem_of_getElem? (i := 7) rfl)))
  have wS : ∀ a ∈ Bundle.stringAtoms, a.before _ s = true := fun a ha => by
    simp only [Bundle.stringAtoms, List.mem_cons, List.not_mem_nil, or_false] at ha
    rcases ha with rfl | rfl | rfl | rfl | rfl | rfl | rfl
    · exact (w4 hw)
    · exact (w3 hw)
    · exact (w16 hw)
    · exact (w17 hw)
    · exact (w18 hw)
    · exact (w19 hw)
    · exact (w20 hw)
  have hcw : Jvm.Lit.compactW.before _ s = true := (hsets _ (List.mem_of_getElem? (i := 2) rfl))
  have hh0 : Jvm.Lit.constHeld s "java/lang/String" 7 := hcalls.1 ("java/lang/String", 7) (by simp [consts_1])
  obtain ⟨n, o, r1, r2, r3, v, L, Ls, rfl, ⟨_, rfl, rfl⟩, hO, hI, N, hq⟩ := c_law l s s.heap.size _ hw i0 i1 i2 SC hcz SF hsf wS hh0 hcw s.heap (some []) (Old.start s) rfl p e ha hc hk s m _ below hf ((Spec.applies_iff_loose hf).mp happ).1 ⟨rfl, State.Warmed39.refl s, rfl, Itn.start s⟩ trivial
  refine ⟨n, _, r1, r2, r3, hpost _ _ _ _ _ _ ⟨Cond.after_iff.mpr rfl, Cond.after_iff.mpr (eq_i res_at (Term.int_eval (1)) rfl), trivial⟩ ⟨hq.1, hq.2.1, hq.2.2.1, (hq.2.2.2.sift fun y hy => Or.inr (N y hy)).mono (by decide) (by decide)⟩⟩
theorem main_1_1 : Claimed_1_1 := comes_1 fun _ _ _ _ _ _ h hF => ⟨h.1, hF⟩
theorem main_1_2 : Claimed_1_2 := comes_1 fun _ _ _ _ _ _ h hF => ⟨h.2.1, hF⟩
end Jvm.Pilot.@@N@@
namespace Jvm.Pilot.@@N@@
open Jvm Jvm.ClassFile Sem Op Lib Jvm.Free Jvm.Stand Jvm.Pilot.@@N@@.Jvm.D
/-! MADE BY PROGRAM (witnessworld.py) out of the Statement's table words and the real class files: 20 classes; the members and pool entries that the words name. The judged class is class 1, her method 3. -/
namespace start1
open Jvm.ClassFile
def u (s : String) : CpInfo := .utf8 (stringToUtf16 s)
/-- a pool by its gaps: so many unusable entries, then the entry; so many at the end -/
def gap : Nat → List CpInfo → List CpInfo
  | 0, r => r
  | n + 1, r => .unusable :: gap n r
def poolList (es : List (Nat × CpInfo)) (last : Nat) : List CpInfo := es.foldr (fun e r => gap e.1 (e.2 :: r)) (gap last [])
def pool (es : List (Nat × CpInfo)) (last : Nat) : Array CpInfo := ⟨poolList es last⟩
def fileOf (pool : Array CpInfo) (this : Nat) (attrs : Array Attribute := #[]) (ms : Array MethodInfo := #[]) (fl : Nat := 33) (sup : Nat := 0) (ifs : Array Nat := #[]) (fds : Array FieldInfo := #[]) : ClassFile where
  minorVersion := 0
  majorVersion := 65
  constantPool := pool
  accessFlags := fl
  thisClass := this
  superClass := sup
  interfaces := ifs
  fields := fds
  methods := ms
  attributes := attrs
def plain (name : String) (sup : Option ClassId) : Class where
  name := name
  kind := .ordinary
  loader := none
  accessFlags := 33
  super := sup
  interfaces := #[]
  cf := none
  fields := #[]
  methods := #[]
  instanceTypes := #[]
  staticTypes := #[]
  resolved := #[]
  callSites := []
  init := .initialized
  statics := none
  mirror := none

def pool0 : Array CpInfo := pool [(5, u "<init>"), (0, u "()V"), (1, .class_ 10), (1, u "java/lang/Object")] 113

def k0c0 : Code := { maxStack := 0, maxLocals := 1, code := object_method_1_code, exceptionTable := #[], attributes := #[] }
def k0m0 : Method := { name := "<init>", desc := "()V", sig := { parameters := [], returnType := none }, accessFlags := 1, code := some k0c0 }
/-- java/lang/Object -/
def k0 : Class := { plain "java/lang/Object" none with
  accessFlags := 33
  interfaces := #[]
  cf := some (fileOf pool0 8 #[] #[{ accessFlags := 1, nameIndex := 5, descriptorIndex := 6, attributes := #[] }] 33 0 #[] #[])
  fields := #[]
  methods := #[k0m0]
  instanceTypes := #[]
  staticTypes := #[]
  resolved := Array.replicate 124 none
  statics := none }

def pool1 : Array CpInfo := pool [(2, .class_ 4), (1, u "java/lang/Object"), (0, u "<init>"), (0, u "()V"), (0, .methodref 8 9), (0, .class_ 10), (0, .nameAndType 11 12), (0, u "com/example/error_catalog/errorcatalog/render/JsonApiResponseIsMemberNamePinLaw"), (0, u "alnum"), (0, u "(C)Z"), (0, .integer 2147483647), (0, .class_ 15), (0, u "java/lang/String"), (0, .methodref 14 17), (0, .nameAndType 5 18), (0, u "([C)V"), (0, .methodref 8 20), (0, .nameAndType 21 12), (0, u "inner"), (0, .methodref 23 24), (0, .class_ 25), (0, .nameAndType 26 27), (0, u "com/example/error_catalog/errorcatalog/render/JsonApiResponse"), (0, u "isMemberName"), (0, u "(Ljava/lang/String;)Z"), (3, u "law"), (0, u "(III)Z")] 4

def k1m0 : Method := { name := "<init>", desc := "()V", sig := { parameters := [], returnType := none }, accessFlags := 2, code := none }
def k1c1 : Code := { maxStack := 2, maxLocals := 4, code := method_2_code, exceptionTable := #[], attributes := #[] }
def k1m1 : Method := { name := "alnum", desc := "(C)Z", sig := { parameters := [.char], returnType := some .boolean }, accessFlags := 10, code := some k1c1 }
def k1c2 : Code := { maxStack := 2, maxLocals := 1, code := method_3_code, exceptionTable := #[], attributes := #[] }
def k1m2 : Method := { name := "inner", desc := "(C)Z", sig := { parameters := [.char], returnType := some .boolean }, accessFlags := 10, code := some k1c2 }
def k1c3 : Code := { maxStack := 4, maxLocals := 13, code := code, exceptionTable := #[], attributes := #[] }
def k1m3 : Method := { name := "law", desc := "(III)Z", sig := { parameters := [.int, .int, .int], returnType := some .boolean }, accessFlags := 9, code := some k1c3 }
/-- com/example/error_catalog/errorcatalog/render/JsonApiResponseIsMemberNamePinLaw -/
def k1 : Class := { plain "com/example/error_catalog/errorcatalog/render/JsonApiResponseIsMemberNamePinLaw" (some 0) with
  accessFlags := 49
  interfaces := #[]
  cf := some (fileOf pool1 8 #[] #[{ accessFlags := 2, nameIndex := 5, descriptorIndex := 6, attributes := #[] }, { accessFlags := 10, nameIndex := 11, descriptorIndex := 12, attributes := #[] }, { accessFlags := 10, nameIndex := 21, descriptorIndex := 12, attributes := #[] }, { accessFlags := 9, nameIndex := 31, descriptorIndex := 32, attributes := #[] }] 49 2 #[] #[])
  fields := #[]
  methods := #[k1m0, k1m1, k1m2, k1m3]
  instanceTypes := #[]
  staticTypes := #[]
  resolved := Array.replicate 37 none
  statics := none }

def pool2 : Array CpInfo := pool [(1, .class_ 2), (0, u "java/io/Serializable"), (0, .class_ 4), (0, u "java/lang/Object")] 2

/-- java/io/Serializable -/
def k2 : Class := { plain "java/io/Serializable" (some 0) with
  accessFlags := 1537
  interfaces := #[]
  cf := some (fileOf pool2 1 #[] #[] 1537 3 #[] #[])
  fields := #[]
  methods := #[]
  instanceTypes := #[]
  staticTypes := #[]
  resolved := Array.replicate 7 none
  statics := none }

def pool3 : Array CpInfo := pool [(1, .class_ 2), (0, u "java/lang/Comparable"), (0, .class_ 4), (0, u "java/lang/Object")] 7

/-- java/lang/Comparable -/
def k3 : Class := { plain "java/lang/Comparable" (some 0) with
  accessFlags := 1537
  interfaces := #[]
  cf := some (fileOf pool3 1 #[] #[] 1537 3 #[] #[])
  fields := #[]
  methods := #[]
  instanceTypes := #[]
  staticTypes := #[]
  resolved := Array.replicate 12 none
  statics := none }

def pool4 : Array CpInfo := pool [(2, .class_ 4), (1, u "java/lang/CharSequence"), (42, .class_ 48), (0, u "java/lang/CharSequence$1CodePointIterator"), (10, .class_ 60), (0, u "java/lang/CharSequence$1CharIterator"), (5, .class_ 67), (0, u "java/lang/Object")] 63

/-- java/lang/CharSequence -/
def k4 : Class := { plain "java/lang/CharSequence" (some 0) with
  accessFlags := 1537
  interfaces := #[]
  cf := some (fileOf pool4 2 #[.nestMembers #[47, 59]] #[] 1537 66 #[] #[])
  fields := #[]
  methods := #[]
  instanceTypes := #[]
  staticTypes := #[]
  resolved := Array.replicate 131 none
  statics := none }

def pool5 : Array CpInfo := pool [(1, .class_ 2), (0, u "java/lang/constant/Constable"), (0, .class_ 4), (0, u "java/lang/Object")] 6

/-- java/lang/constant/Constable -/
def k5 : Class := { plain "java/lang/constant/Constable" (some 0) with
  accessFlags := 1537
  interfaces := #[]
  cf := some (fileOf pool5 1 #[] #[] 1537 3 #[] #[])
  fields := #[]
  methods := #[]
  instanceTypes := #[]
  staticTypes := #[]
  resolved := Array.replicate 11 none
  statics := none }

def pool6 : Array CpInfo := pool [(1, .class_ 2), (0, u "java/lang/constant/ConstantDesc"), (0, .class_ 4), (0, u "java/lang/Object")] 32

/-- java/lang/constant/ConstantDesc -/
def k6 : Class := { plain "java/lang/constant/ConstantDesc" (some 0) with
  accessFlags := 1537
  interfaces := #[]
  cf := some (fileOf pool6 1 #[] #[] 1537 3 #[] #[])
  fields := #[]
  methods := #[]
  instanceTypes := #[]
  staticTypes := #[]
  resolved := Array.replicate 37 none
  statics := none }

def pool7 : Array CpInfo := pool [(1, .methodref 2 3), (0, .class_ 4), (0, .nameAndType 5 6), (0, u "java/lang/Object"), (0, u "<init>"), (0, u "()V"), (0, .string 8), (0, u ""), (0, .fieldref 10 11), (0, .class_ 12), (0, .nameAndType 13 14), (0, u "java/lang/String"), (0, u "value"), (0, u "[B"), (0, .fieldref 10 16), (0, .nameAndType 17 18), (0, u "coder"), (0, u "B"), (2, u "hash"), (0, u "I"), (2, u "hashIsZero"), (0, u "Z"), (0, .methodref 10 28), (0, .nameAndType 5 29), (0, u "([CIILjava/lang/Void;)V"), (8, .fieldref 10 39), (0, .nameAndType 40 26), (0, u "COMPACT_STRINGS"), (1, .class_ 44), (1, u "java/lang/StringUTF16"), (0, u "compress"), (1, .methodref 42 48), (0, .nameAndType 49 50), (0, u "coderFromArrayLen"), (0, u "([BI)B"), (56, .class_ 109), (1, u "java/lang/StringLatin1"), (32, u "()Z"), (34, .methodref 42 178), (0, .nameAndType 45 179), (0, u "([CII)[B"), (154, u "()I"), (0, .methodref 10 336), (0, .nameAndType 17 337), (0, u "()B"), (25, u "([BI)C"), (27, u "(II)V"), (35, u "(I)C"), (64, .methodref 10 493), (0, .nameAndType 494 142), (0, u "isLatin1"), (0, .methodref 107 496), (0, .nameAndType 497 363), (0, u "charAt"), (3, u "checkIndex"), (5, u "length"), (67, .class_ 576), (0, u "java/lang/CharSequence"), (22, u "CASE_INSENSITIVE_ORDER"), (0, u "Ljava/util/Comparator;"), (409, u "([C)V"), (42, .fieldref 1054 1055), (0, .class_ 1056), (0, .nameAndType 1057 1058), (0, u "jdk/internal/util/Preconditions"), (0, u "SIOOBE_FORMATTER"), (0, u "Ljava/util/function/BiFunction;"), (0, .methodref 1054 1060), (0, .nameAndType 501 1061), (0, u "(IILjava/util/function/BiFunction;)I"), (39, u "serialPersistentFields"), (0, u "[Ljava/io/ObjectStreamField;"), (0, .class_ 1104), (0, u "java/lang/String$CaseInsensitiveComparator"), (1, .class_ 1107), (0, u "java/io/Serializable"), (0, .class_ 1109), (0, u "java/lang/Comparable"), (0, .class_ 1111), (0, u "java/lang/constant/Constable"), (0, .class_ 1113), (0, u "java/lang/constant/ConstantDesc"), (2, u "serialVersionUID"), (0, u "J"), (3, u "REPL"), (0, u "C"), (2, u "LATIN1"), (1, u "UTF16")] 323

def k7m0 : Method := { name := "<init>", desc := "()V", sig := { parameters := [], returnType := none }, accessFlags := 1, code := none }
def k7c1 : Code := { maxStack := 5, maxLocals := 2, code := jdk_42_method_3_code, exceptionTable := #[], attributes := #[] }
def k7m1 : Method := { name := "<init>", desc := "([C)V", sig := { parameters := [(.array .char)], returnType := none }, accessFlags := 1, code := some k7c1 }
def k7c2 : Code := { maxStack := 2, maxLocals := 1, code := jdk_42_method_54_code, exceptionTable := #[], attributes := #[] }
def k7m2 : Method := { name := "length", desc := "()I", sig := { parameters := [], returnType := some .int }, accessFlags := 1, code := some k7c2 }
def k7c3 : Code := { maxStack := 2, maxLocals := 2, code := jdk_42_method_56_code, exceptionTable := #[], attributes := #[] }
def k7m3 : Method := { name := "charAt", desc := "(I)C", sig := { parameters := [.int], returnType := some .char }, accessFlags := 1, code := some k7c3 }
def k7c4 : Code := { maxStack := 4, maxLocals := 6, code := jdk_42_method_149_code, exceptionTable := #[], attributes := #[] }
def k7m4 : Method := { name := "<init>", desc := "([CIILjava/lang/Void;)V", sig := { parameters := [(.array .char), .int, .int, (.object "java/lang/Void")], returnType := none }, accessFlags := 2, code := some k7c4 }
def k7c5 : Code := { maxStack := 1, maxLocals := 1, code := jdk_42_method_152_code, exceptionTable := #[], attributes := #[] }
def k7m5 : Method := { name := "coder", desc := "()B", sig := { parameters := [], returnType := some .byte }, accessFlags := 0, code := some k7c5 }
def k7c6 : Code := { maxStack := 1, maxLocals := 1, code := jdk_42_method_154_code, exceptionTable := #[], attributes := #[] }
def k7m6 : Method := { name := "isLatin1", desc := "()Z", sig := { parameters := [], returnType := some .boolean }, accessFlags := 0, code := some k7c6 }
def k7c7 : Code := { maxStack := 3, maxLocals := 2, code := jdk_42_method_155_code, exceptionTable := #[], attributes := #[] }
def k7m7 : Method := { name := "checkIndex", desc := "(II)V", sig := { parameters := [.int, .int], returnType := none }, accessFlags := 8, code := some k7c7 }
/-- java/lang/String -/
def k7 : Class := { plain "java/lang/String" (some 0) with
  accessFlags := 49
  interfaces := #[2, 3, 4, 5, 6]
  cf := some (fileOf pool7 10 #[.nestMembers #[1103]] #[{ accessFlags := 1, nameIndex := 5, descriptorIndex := 6, attributes := #[] }, { accessFlags := 1, nameIndex := 5, descriptorIndex := 1010, attributes := #[] }, { accessFlags := 1, nameIndex := 507, descriptorIndex := 334, attributes := #[] }, { accessFlags := 1, nameIndex := 497, descriptorIndex := 427, attributes := #[] }, { accessFlags := 2, nameIndex := 5, descriptorIndex := 29, attributes := #[] }, { accessFlags := 0, nameIndex := 17, descriptorIndex := 337, attributes := #[] }, { accessFlags := 0, nameIndex := 494, descriptorIndex := 142, attributes := #[] }, { accessFlags := 8, nameIndex := 501, descriptorIndex := 391, attributes := #[] }] 49 2 #[1106, 1108, 575, 1110, 1112] #[{ accessFlags := 18, nameIndex := 13, descriptorIndex := 14, attributes := #[] }, { accessFlags := 18, nameIndex := 17, descriptorIndex := 18, attributes := #[] }, { accessFlags := 2, nameIndex := 21, descriptorIndex := 22, attributes := #[] }, { accessFlags := 2, nameIndex := 25, descriptorIndex := 26, attributes := #[] }, { accessFlags := 26, nameIndex := 1116, descriptorIndex := 1117, attributes := #[] }, { accessFlags := 24, nameIndex := 40, descriptorIndex := 26, attributes := #[] }, { accessFlags := 26, nameIndex := 1101, descriptorIndex := 1102, attributes := #[] }, { accessFlags := 26, nameIndex := 1121, descriptorIndex := 1122, attributes := #[] }, { accessFlags := 25, nameIndex := 599, descriptorIndex := 600, attributes := #[] }, { accessFlags := 24, nameIndex := 1125, descriptorIndex := 18, attributes := #[] }, { accessFlags := 24, nameIndex := 1127, descriptorIndex := 18, attributes := #[] }])
  fields := #[{ name := "value", type := (.array .byte), accessFlags := 18, slot := 0, constantValue := 0 }, { name := "coder", type := .byte, accessFlags := 18, slot := 1, constantValue := 0 }, { name := "hash", type := .int, accessFlags := 2, slot := 2, constantValue := 0 }, { name := "hashIsZero", type := .boolean, accessFlags := 2, slot := 3, constantValue := 0 }, { name := "serialVersionUID", type := .long, accessFlags := 26, slot := 0, constantValue := 0 }, { name := "COMPACT_STRINGS", type := .boolean, accessFlags := 24, slot := 1, constantValue := 0 }, { name := "serialPersistentFields", type := (.array (.object "java/io/ObjectStreamField")), accessFlags := 26, slot := 2, constantValue := 0 }, { name := "REPL", type := .char, accessFlags := 26, slot := 3, constantValue := 0 }, { name := "CASE_INSENSITIVE_ORDER", type := (.object "java/util/Comparator"), accessFlags := 25, slot := 4, constantValue := 0 }, { name := "LATIN1", type := .byte, accessFlags := 24, slot := 5, constantValue := 0 }, { name := "UTF16", type := .byte, accessFlags := 24, slot := 6, constantValue := 0 }]
  methods := #[k7m0, k7m1, k7m2, k7m3, k7m4, k7m5, k7m6, k7m7]
  instanceTypes := #[(.array .byte), .byte, .int, .boolean]
  staticTypes := #[.long, .boolean, (.array (.object "java/io/ObjectStreamField")), .char, (.object "java/util/Comparator"), .byte, .byte]
  resolved := Array.replicate 1451 none
  statics := some 0 }

def pool8 : Array CpInfo := pool [(2, .class_ 4), (1, u "java/lang/Object"), (38, .class_ 45), (1, u "java/lang/String"), (9, u "()I"), (27, .class_ 85), (1, u "com/example/error_catalog/errorcatalog/render/JsonApiResponse"), (1, u "(Ljava/lang/String;)Z"), (12, u "isMemberName"), (7, u "errors"), (0, u "Ljava/util/List;"), (13, u "parameters"), (0, u "Ljava/util/Map;"), (2, u "pointer"), (0, u "Ljava/lang/String;"), (2, u "POINTER"), (0, u "Ljava/util/regex/Pattern;"), (11, .methodref 43 145), (0, .nameAndType 146 55), (0, u "length"), (0, .methodref 43 148), (0, .nameAndType 149 150), (0, u "charAt"), (0, u "(I)C"), (0, .methodref 83 152), (0, .nameAndType 153 154), (0, u "isAsciiLetterOrDigit"), (0, u "(C)Z"), (38, u "TEMPLATES"), (0, u "Lcom/example/error_catalog/errorcatalog/render/KeptTemplates;"), (0, .class_ 196), (0, u "com/example/error_catalog/errorcatalog/render/JsonApiResponse$Document"), (87, u "BAD_REQUEST"), (0, u "I"), (2, u "INTERNAL_SERVER_ERROR")] 73

def k8c0 : Code := { maxStack := 2, maxLocals := 5, code := prog_50_method_3_code, exceptionTable := #[], attributes := #[] }
def k8m0 : Method := { name := "isMemberName", desc := "(Ljava/lang/String;)Z", sig := { parameters := [(.object "java/lang/String")], returnType := some .boolean }, accessFlags := 9, code := some k8c0 }
def k8c1 : Code := { maxStack := 2, maxLocals := 1, code := prog_50_method_8_code, exceptionTable := #[], attributes := #[] }
def k8m1 : Method := { name := "isAsciiLetterOrDigit", desc := "(C)Z", sig := { parameters := [.char], returnType := some .boolean }, accessFlags := 10, code := some k8c1 }
/-- com/example/error_catalog/errorcatalog/render/JsonApiResponse -/
def k8 : Class := { plain "com/example/error_catalog/errorcatalog/render/JsonApiResponse" (some 0) with
  accessFlags := 49
  interfaces := #[]
  cf := some (fileOf pool8 83 #[.nestMembers #[195]] #[{ accessFlags := 9, nameIndex := 100, descriptorIndex := 87, attributes := #[] }, { accessFlags := 10, nameIndex := 153, descriptorIndex := 154, attributes := #[] }] 49 2 #[] #[{ accessFlags := 26, nameIndex := 131, descriptorIndex := 132, attributes := #[] }, { accessFlags := 26, nameIndex := 284, descriptorIndex := 285, attributes := #[] }, { accessFlags := 26, nameIndex := 288, descriptorIndex := 285, attributes := #[] }, { accessFlags := 26, nameIndex := 193, descriptorIndex := 194, attributes := #[] }, { accessFlags := 18, nameIndex := 108, descriptorIndex := 109, attributes := #[] }, { accessFlags := 18, nameIndex := 123, descriptorIndex := 124, attributes := #[] }, { accessFlags := 18, nameIndex := 127, descriptorIndex := 128, attributes := #[] }])
  fields := #[{ name := "POINTER", type := (.object "java/util/regex/Pattern"), accessFlags := 26, slot := 0, constantValue := 0 }, { name := "BAD_REQUEST", type := .int, accessFlags := 26, slot := 1, constantValue := 0 }, { name := "INTERNAL_SERVER_ERROR", type := .int, accessFlags := 26, slot := 2, constantValue := 0 }, { name := "TEMPLATES", type := (.object "com/example/error_catalog/errorcatalog/render/KeptTemplates"), accessFlags := 26, slot := 3, constantValue := 0 }, { name := "errors", type := (.object "java/util/List"), accessFlags := 18, slot := 0, constantValue := 0 }, { name := "parameters", type := (.object "java/util/Map"), accessFlags := 18, slot := 1, constantValue := 0 }, { name := "pointer", type := (.object "java/lang/String"), accessFlags := 18, slot := 2, constantValue := 0 }]
  methods := #[k8m0, k8m1]
  instanceTypes := #[(.object "java/util/List"), (.object "java/util/Map"), (.object "java/lang/String")]
  staticTypes := #[(.object "java/util/regex/Pattern"), .int, .int, (.object "com/example/error_catalog/errorcatalog/render/KeptTemplates")]
  resolved := Array.replicate 362 none
  statics := none }

def pool9 : Array CpInfo := pool [(6, .class_ 8), (1, u "java/lang/Object"), (0, u "<init>"), (0, u "()V"), (1, .class_ 14), (1, u "java/lang/StringUTF16"), (31, u "$assertionsDisabled"), (0, u "Z"), (13, u "HI_BYTE_SHIFT"), (0, u "I"), (2, u "LO_BYTE_SHIFT"), (49, .methodref 12 116), (0, .nameAndType 117 118), (0, u "compress"), (0, u "([CI[BII)I"), (3, u "([CII)[B"), (138, u "coderFromArrayLen"), (0, u "([BI)B"), (106, .class_ 371), (1, u "java/lang/StringUTF16$LinesSpliterator"), (58, u "MAX_LENGTH"), (196, .class_ 628), (0, u "java/lang/StringUTF16$CodePointsSpliterator"), (0, .class_ 630), (0, u "java/lang/StringUTF16$CharsSpliterator")] 4

def k9m0 : Method := { name := "<init>", desc := "()V", sig := { parameters := [], returnType := none }, accessFlags := 0, code := none }
def k9c1 : Code := { maxStack := 2, maxLocals := 2, code := jdk_52_method_15_code, exceptionTable := #[], attributes := #[] }
def k9m1 : Method := { name := "coderFromArrayLen", desc := "([BI)B", sig := { parameters := [(.array .byte), .int], returnType := some .byte }, accessFlags := 8, code := some k9c1 }
def k9c2 : Code := { maxStack := 5, maxLocals := 6, code := jdk_52_method_16_code, exceptionTable := #[], attributes := #[] }
def k9m2 : Method := { name := "compress", desc := "([CII)[B", sig := { parameters := [(.array .char), .int, .int], returnType := some (.array .byte) }, accessFlags := 9, code := some k9c2 }
def k9c3 : Code := { maxStack := 3, maxLocals := 7, code := jdk_52_method_21_code, exceptionTable := #[], attributes := #[] }
def k9m3 : Method := { name := "compress", desc := "([CI[BII)I", sig := { parameters := [(.array .char), .int, (.array .byte), .int, .int], returnType := some .int }, accessFlags := 9, code := some k9c3 }
/-- java/lang/StringUTF16 -/
def k9 : Class := { plain "java/lang/StringUTF16" (some 0) with
  accessFlags := 48
  interfaces := #[]
  cf := some (fileOf pool9 12 #[.nestMembers #[627, 629, 369]] #[{ accessFlags := 0, nameIndex := 9, descriptorIndex := 10, attributes := #[] }, { accessFlags := 8, nameIndex := 261, descriptorIndex := 262, attributes := #[] }, { accessFlags := 9, nameIndex := 117, descriptorIndex := 122, attributes := #[] }, { accessFlags := 9, nameIndex := 117, descriptorIndex := 118, attributes := #[] }] 48 6 #[] #[{ accessFlags := 26, nameIndex := 61, descriptorIndex := 62, attributes := #[] }, { accessFlags := 26, nameIndex := 65, descriptorIndex := 62, attributes := #[] }, { accessFlags := 24, nameIndex := 430, descriptorIndex := 62, attributes := #[] }, { accessFlags := 4120, nameIndex := 46, descriptorIndex := 47, attributes := #[] }])
  fields := #[{ name := "HI_BYTE_SHIFT", type := .int, accessFlags := 26, slot := 0, constantValue := 0 }, { name := "LO_BYTE_SHIFT", type := .int, accessFlags := 26, slot := 1, constantValue := 0 }, { name := "MAX_LENGTH", type := .int, accessFlags := 24, slot := 2, constantValue := 0 }, { name := "$assertionsDisabled", type := .boolean, accessFlags := 4120, slot := 3, constantValue := 0 }]
  methods := #[k9m0, k9m1, k9m2, k9m3]
  instanceTypes := #[]
  staticTypes := #[.int, .int, .int, .boolean]
  resolved := Array.replicate 635 none
  statics := none }

def pool10 : Array CpInfo := pool [(1, .class_ 2), (0, u "java/lang/String"), (1, .class_ 6), (1, u "java/lang/Object"), (0, u "<init>"), (0, u "()V"), (0, .methodref 1 10), (0, .nameAndType 11 12), (0, u "checkIndex"), (0, u "(II)V"), (1, .class_ 16), (1, u "java/lang/StringLatin1"), (36, u "([BI)C"), (67, u "$assertionsDisabled"), (0, u "Z"), (98, .class_ 223), (1, u "java/lang/StringLatin1$LinesSpliterator"), (28, u "charAt"), (137, .class_ 391), (0, u "java/lang/StringLatin1$CharsSpliterator")] 3

def k10m0 : Method := { name := "<init>", desc := "()V", sig := { parameters := [], returnType := none }, accessFlags := 0, code := none }
def k10c1 : Code := { maxStack := 2, maxLocals := 2, code := jdk_43_method_2_code, exceptionTable := #[], attributes := #[] }
def k10m1 : Method := { name := "charAt", desc := "([BI)C", sig := { parameters := [(.array .byte), .int], returnType := some .char }, accessFlags := 9, code := some k10c1 }
/-- java/lang/StringLatin1 -/
def k10 : Class := { plain "java/lang/StringLatin1" (some 0) with
  accessFlags := 48
  interfaces := #[]
  cf := some (fileOf pool10 14 #[.nestMembers #[390, 221]] #[{ accessFlags := 0, nameIndex := 7, descriptorIndex := 8, attributes := #[] }, { accessFlags := 9, nameIndex := 252, descriptorIndex := 53, attributes := #[] }] 48 4 #[] #[{ accessFlags := 4120, nameIndex := 121, descriptorIndex := 122, attributes := #[] }])
  fields := #[{ name := "$assertionsDisabled", type := .boolean, accessFlags := 4120, slot := 0, constantValue := 0 }]
  methods := #[k10m0, k10m1]
  instanceTypes := #[]
  staticTypes := #[.boolean]
  resolved := Array.replicate 395 none
  statics := none }

def pool11 : Array CpInfo := pool [(2, .class_ 4), (1, u "java/lang/Object"), (0, u "<init>"), (0, u "()V"), (17, .class_ 26), (1, u "jdk/internal/util/Preconditions"), (6, u "checkIndex"), (21, .class_ 56), (0, u "jdk/internal/util/Preconditions$4"), (57, .class_ 115), (0, u "jdk/internal/util/Preconditions$1"), (7, u "SIOOBE_FORMATTER"), (0, u "Ljava/util/function/BiFunction;"), (0, .class_ 126), (0, u "jdk/internal/util/Preconditions$2"), (3, u "AIOOBE_FORMATTER"), (0, .class_ 132), (0, u "jdk/internal/util/Preconditions$3"), (3, u "IOOBE_FORMATTER"), (41, u "(IILjava/util/function/BiFunction;)I")] 15

def k11m0 : Method := { name := "<init>", desc := "()V", sig := { parameters := [], returnType := none }, accessFlags := 1, code := none }
def k11c1 : Code := { maxStack := 3, maxLocals := 3, code := jdk_41_method_11_code, exceptionTable := #[], attributes := #[] }
def k11m1 : Method := { name := "checkIndex", desc := "(IILjava/util/function/BiFunction;)I", sig := { parameters := [.int, .int, (.object "java/util/function/BiFunction")], returnType := some .int }, accessFlags := 9, code := some k11c1 }
/-- jdk/internal/util/Preconditions -/
def k11 : Class := { plain "jdk/internal/util/Preconditions" (some 0) with
  accessFlags := 33
  interfaces := #[]
  cf := some (fileOf pool11 24 #[.nestMembers #[55, 131, 125, 114]] #[{ accessFlags := 1, nameIndex := 5, descriptorIndex := 6, attributes := #[] }, { accessFlags := 9, nameIndex := 33, descriptorIndex := 178, attributes := #[] }] 33 2 #[] #[{ accessFlags := 25, nameIndex := 123, descriptorIndex := 124, attributes := #[] }, { accessFlags := 25, nameIndex := 130, descriptorIndex := 124, attributes := #[] }, { accessFlags := 25, nameIndex := 136, descriptorIndex := 124, attributes := #[] }])
  fields := #[{ name := "SIOOBE_FORMATTER", type := (.object "java/util/function/BiFunction"), accessFlags := 25, slot := 0, constantValue := 0 }, { name := "AIOOBE_FORMATTER", type := (.object "java/util/function/BiFunction"), accessFlags := 25, slot := 1, constantValue := 0 }, { name := "IOOBE_FORMATTER", type := (.object "java/util/function/BiFunction"), accessFlags := 25, slot := 2, constantValue := 0 }]
  methods := #[k11m0, k11m1]
  instanceTypes := #[]
  staticTypes := #[(.object "java/util/function/BiFunction"), (.object "java/util/function/BiFunction"), (.object "java/util/function/BiFunction")]
  resolved := Array.replicate 194 none
  statics := some 1 }

def pool12 : Array CpInfo := pool [(9, u "<init>"), (6, .class_ 18), (1, u "java/lang/Object"), (0, u "()V"), (1, .class_ 23), (1, u "jdk/internal/util/ArraysSupport"), (0, u "LOG2_ARRAY_LONG_INDEX_SCALE"), (0, u "I"), (2, u "U"), (0, u "Ljdk/internal/misc/Unsafe;"), (8, u "BIG_ENDIAN"), (0, u "Z"), (8, u "LOG2_BYTE_BIT_SIZE"), (4, u "LOG2_ARRAY_INT_INDEX_SCALE"), (54, u "JLA"), (0, u "Ljdk/internal/access/JavaLangAccess;"), (11, u "LOG2_ARRAY_BOOLEAN_INDEX_SCALE"), (9, u "LOG2_ARRAY_BYTE_INDEX_SCALE"), (5, u "LOG2_ARRAY_CHAR_INDEX_SCALE"), (5, u "LOG2_ARRAY_SHORT_INDEX_SCALE"), (18, u "LOG2_ARRAY_FLOAT_INDEX_SCALE"), (24, u "LOG2_ARRAY_DOUBLE_INDEX_SCALE"), (89, u "T_BOOLEAN"), (2, u "T_CHAR"), (1, u "T_FLOAT"), (1, u "T_DOUBLE"), (1, u "T_BYTE"), (1, u "T_SHORT"), (1, u "T_INT"), (1, u "T_LONG"), (1, u "SOFT_MAX_ARRAY_LENGTH")] 83

def k12m0 : Method := { name := "<init>", desc := "()V", sig := { parameters := [], returnType := none }, accessFlags := 2, code := none }
/-- jdk/internal/util/ArraysSupport -/
def k12 : Class := { plain "jdk/internal/util/ArraysSupport" (some 0) with
  accessFlags := 33
  interfaces := #[]
  cf := some (fileOf pool12 21 #[] #[{ accessFlags := 2, nameIndex := 9, descriptorIndex := 19, attributes := #[] }] 33 16 #[] #[{ accessFlags := 24, nameIndex := 28, descriptorIndex := 29, attributes := #[] }, { accessFlags := 26, nameIndex := 38, descriptorIndex := 39, attributes := #[] }, { accessFlags := 25, nameIndex := 121, descriptorIndex := 25, attributes := #[] }, { accessFlags := 25, nameIndex := 131, descriptorIndex := 25, attributes := #[] }, { accessFlags := 25, nameIndex := 137, descriptorIndex := 25, attributes := #[] }, { accessFlags := 25, nameIndex := 143, descriptorIndex := 25, attributes := #[] }, { accessFlags := 25, nameIndex := 53, descriptorIndex := 25, attributes := #[] }, { accessFlags := 25, nameIndex := 24, descriptorIndex := 25, attributes := #[] }, { accessFlags := 25, nameIndex := 162, descriptorIndex := 25, attributes := #[] }, { accessFlags := 25, nameIndex := 187, descriptorIndex := 25, attributes := #[] }, { accessFlags := 26, nameIndex := 48, descriptorIndex := 25, attributes := #[] }, { accessFlags := 25, nameIndex := 277, descriptorIndex := 25, attributes := #[] }, { accessFlags := 25, nameIndex := 280, descriptorIndex := 25, attributes := #[] }, { accessFlags := 25, nameIndex := 282, descriptorIndex := 25, attributes := #[] }, { accessFlags := 25, nameIndex := 284, descriptorIndex := 25, attributes := #[] }, { accessFlags := 25, nameIndex := 286, descriptorIndex := 25, attributes := #[] }, { accessFlags := 25, nameIndex := 288, descriptorIndex := 25, attributes := #[] }, { accessFlags := 25, nameIndex := 290, descriptorIndex := 25, attributes := #[] }, { accessFlags := 25, nameIndex := 292, descriptorIndex := 25, attributes := #[] }, { accessFlags := 26, nameIndex := 108, descriptorIndex := 109, attributes := #[] }, { accessFlags := 25, nameIndex := 294, descriptorIndex := 25, attributes := #[] }])
  fields := #[{ name := "U", type := (.object "jdk/internal/misc/Unsafe"), accessFlags := 24, slot := 0, constantValue := 0 }, { name := "BIG_ENDIAN", type := .boolean, accessFlags := 26, slot := 1, constantValue := 0 }, { name := "LOG2_ARRAY_BOOLEAN_INDEX_SCALE", type := .int, accessFlags := 25, slot := 2, constantValue := 0 }, { name := "LOG2_ARRAY_BYTE_INDEX_SCALE", type := .int, accessFlags := 25, slot := 3, constantValue := 0 }, { name := "LOG2_ARRAY_CHAR_INDEX_SCALE", type := .int, accessFlags := 25, slot := 4, constantValue := 0 }, { name := "LOG2_ARRAY_SHORT_INDEX_SCALE", type := .int, accessFlags := 25, slot := 5, constantValue := 0 }, { name := "LOG2_ARRAY_INT_INDEX_SCALE", type := .int, accessFlags := 25, slot := 6, constantValue := 0 }, { name := "LOG2_ARRAY_LONG_INDEX_SCALE", type := .int, accessFlags := 25, slot := 7, constantValue := 0 }, { name := "LOG2_ARRAY_FLOAT_INDEX_SCALE", type := .int, accessFlags := 25, slot := 8, constantValue := 0 }, { name := "LOG2_ARRAY_DOUBLE_INDEX_SCALE", type := .int, accessFlags := 25, slot := 9, constantValue := 0 }, { name := "LOG2_BYTE_BIT_SIZE", type := .int, accessFlags := 26, slot := 10, constantValue := 0 }, { name := "T_BOOLEAN", type := .int, accessFlags := 25, slot := 11, constantValue := 0 }, { name := "T_CHAR", type := .int, accessFlags := 25, slot := 12, constantValue := 0 }, { name := "T_FLOAT", type := .int, accessFlags := 25, slot := 13, constantValue := 0 }, { name := "T_DOUBLE", type := .int, accessFlags := 25, slot := 14, constantValue := 0 }, { name := "T_BYTE", type := .int, accessFlags := 25, slot := 15, constantValue := 0 }, { name := "T_SHORT", type := .int, accessFlags := 25, slot := 16, constantValue := 0 }, { name := "T_INT", type := .int, accessFlags := 25, slot := 17, constantValue := 0 }, { name := "T_LONG", type := .int, accessFlags := 25, slot := 18, constantValue := 0 }, { name := "JLA", type := (.object "jdk/internal/access/JavaLangAccess"), accessFlags := 26, slot := 19, constantValue := 0 }, { name := "SOFT_MAX_ARRAY_LENGTH", type := .int, accessFlags := 25, slot := 20, constantValue := 0 }]
  methods := #[k12m0]
  instanceTypes := #[]
  staticTypes := #[(.object "jdk/internal/misc/Unsafe"), .boolean, .int, .int, .int, .int, .int, .int, .int, .int, .int, .int, .int, .int, .int, .int, .int, .int, .int, (.object "jdk/internal/access/JavaLangAccess"), .int]
  resolved := Array.replicate 378 none
  statics := none }

def pool13 : Array CpInfo := pool [(1, u "java/lang/Cloneable"), (0, .class_ 1), (0, u "java/lang/Object"), (0, .class_ 3)] 3

/-- java/lang/Cloneable -/
def k13 : Class := { plain "java/lang/Cloneable" (some 0) with
  accessFlags := 1537
  interfaces := #[]
  cf := some (fileOf pool13 2 #[] #[] 1537 4 #[] #[])
  fields := #[]
  methods := #[]
  instanceTypes := #[]
  staticTypes := #[]
  resolved := Array.replicate 8 none
  statics := none }

/-- the primitive byte -/
def k14 : Class := { plain "byte" none with kind := .primitive 'B', accessFlags := 0x411 }
/-- [B -/
def k15 : Class := { plain "[B" (some 0) with kind := .array 14 .byte, interfaces := #[13, 2], accessFlags := 1041 }

/-- the primitive char -/
def k16 : Class := { plain "char" none with kind := .primitive 'C', accessFlags := 0x411 }
/-- [C -/
def k17 : Class := { plain "[C" (some 0) with kind := .array 16 .char, interfaces := #[13, 2], accessFlags := 1041 }

/-- the primitive int -/
def k18 : Class := { plain "int" none with kind := .primitive 'I', accessFlags := 0x411 }
/-- [I -/
def k19 : Class := { plain "[I" (some 0) with kind := .array 18 .int, interfaces := #[13, 2], accessFlags := 1041 }

def heap : Heap := #[{ cls := 7, slots := #[.long 0, .int 1, .null, .int 0, .null, .int 0, .int 0], vm := .statics 7 },
  { cls := 11, slots := #[.null, .null, .null], vm := .statics 11 }]
def classes : Array Class := #[k0, k1, k2, k3, k4, k5, k6, k7, k8, k9, k10, k11, k12, k13, k14, k15, k16, k17, k18, k19]
def interned : List (Array UInt16 × Addr) := []
def slotsUsed : Nat := 10
def theMethod : MethodId := ⟨1, 3⟩
def args0 : Array Value := #[.int 5, .int 7, .int 9]
def aboutOver (below : List Frame) : State where
  vm := { classes := classes, interned := interned.toArray }
  heap := heap
  slotsUsed := slotsUsed
  threads := #[{ frames := .invoking theMethod args0 :: below }]
def below0 : List Frame := [.native { method := ⟨0, 0⟩, args := #[] }]
def about1 : State := aboutOver below0
def p0 : Program := .bare "" "" ""
def e0 : Env := launch0.env 0 0 0
theorem w_frames : about1.frames = Frame.invoking theMethod args0 :: below0 := rfl
set_option maxRecDepth 65536 in
theorem w_args : argsFit about1.vm theMethod args0 = true := by decide +kernel
set_option maxRecDepth 65536 in
theorem w_heap : heapFits about1 = true := by decide +kernel
set_option maxRecDepth 65536 in
theorem w_runnable : about1.curStatus? = some .runnable := by decide +kernel
set_option maxRecDepth 65536 in
theorem w_alone : about1.alone = true := by decide +kernel
set_option maxRecDepth 65536 in
theorem w_named : about1.methodNamed? x = some theMethod := by decide +kernel
set_option maxRecDepth 65536 in
theorem w_hears : about1.hears theMethod below0 = true := by decide +kernel
set_option maxRecDepth 65536 in
theorem w_ripe : about1.ripe theMethod args0 below0 = true := by decide +kernel
theorem w_running : about1.status = .running := rfl
set_option maxRecDepth 65536 in
theorem w_room : about1.hasRoom e0.platform room_1 = true :=
  launch0.hasRoom_least _ room_1 (by decide +kernel) (by decide +kernel) (by decide +kernel) (by decide +kernel) (by decide +kernel) (by decide +kernel)
theorem allAtoms_all (ts : List Jvm.Cond) (a : Array Jvm.Value) (st : Jvm.State) : (allAtoms ts).before a st = ts.all (fun c => c.before a st) := by
  induction ts with
  | nil => rfl
  | cons c t ih =>
    show (Jvm.Cond.and c (allAtoms t)).before a st = _
    rw [Jvm.Cond.before_and, ih, List.all_cons]
def words1 : List Jvm.Cond := Jvm.Cond.code x code maxLocals ret :: tables_1
/-- a 'code' word, met by the world's own term for the bytes: nothing is compared byte by byte -/
theorem code_word {y : MethodName} {bytes : ByteArray} {mx : Nat} {rt : Option FieldType} {a : Array Value} {s : State} {m : MethodId} {meth : Method} {c : Code} (h1 : s.methodNamed? y = some m) (h2 : s.vm.method? m = some meth) (h3 : meth.code = some c) (h4 : c.code = bytes)
    (h5 : (c.maxLocals == mx && c.exceptionTable.isEmpty && decide (c.maxStack ≤ mostOperands) && decide (meth.sig.returnType = rt) && !meth.locks && decide (parseMethodDescriptor y.desc = some meth.sig)) = true) : (Jvm.Cond.code y bytes mx rt).before a s = true := by
  simp only [Bool.and_eq_true, beq_iff_eq, Bool.not_eq_true', decide_eq_true_eq] at h5
  obtain ⟨⟨⟨⟨⟨g1, g2⟩, g3⟩, g4⟩, g5⟩, g6⟩ := h5
  simp [Cond.before, Cond.holds, Cond.value, h1, h2, h3, h4, g1, g2, g3, g4, g5, g6]
def isCode : Jvm.Cond → Bool
  | .code _ _ _ _ => true
  | _ => false
theorem all_split {L : List Jvm.Cond} {P : Jvm.Cond → Bool} (h1 : L.all (fun c => isCode c || P c) = true) (h2 : ∀ c ∈ L.filter isCode, P c = true) : L.all P = true := by
  refine List.all_eq_true.mpr fun c hc => ?_
  have h := List.all_eq_true.mp h1 c hc
  rcases Bool.eq_false_or_eq_true (isCode c) with hi | hi
  · exact h2 c (List.mem_filter.mpr ⟨hc, hi⟩)
  · simpa [hi] using h
set_option maxRecDepth 65536 in
theorem w_c0 : (Jvm.Cond.code x code maxLocals ret).before args0 about1 = true := code_word (m := ⟨1, 3⟩) (meth := k1m3) (c := k1c3) (by decide +kernel) rfl rfl rfl (by decide +kernel)
set_option maxRecDepth 65536 in
theorem w_c1 : (Jvm.Cond.code ({ cls := "java/lang/String", name := "<init>", desc := "([C)V" } : Jvm.MethodName) jdk_42_method_3_code (2 : Nat) (Option.none : Option Jvm.ClassFile.FieldType)).before args0 about1 = true := code_word (m := ⟨7, 1⟩) (meth := k7m1) (c := k7c1) (by decide +kernel) rfl rfl rfl (by decide +kernel)
set_option maxRecDepth 65536 in
theorem w_c2 : (Jvm.Cond.code ({ cls := "java/lang/String", name := "<init>", desc := "([CIILjava/lang/Void;)V" } : Jvm.MethodName) jdk_42_method_149_code (6 : Nat) (Option.none : Option Jvm.ClassFile.FieldType)).before args0 about1 = true := code_word (m := ⟨7, 4⟩) (meth := k7m4) (c := k7c4) (by decide +kernel) rfl rfl rfl (by decide +kernel)
set_option maxRecDepth 65536 in
theorem w_c3 : (Jvm.Cond.code ({ cls := "java/lang/Object", name := "<init>", desc := "()V" } : Jvm.MethodName) object_method_1_code (1 : Nat) (Option.none : Option Jvm.ClassFile.FieldType)).before args0 about1 = true := code_word (m := ⟨0, 0⟩) (meth := k0m0) (c := k0c0) (by decide +kernel) rfl rfl rfl (by decide +kernel)
set_option maxRecDepth 65536 in
theorem w_c4 : (Jvm.Cond.code ({ cls := "com/example/error_catalog/errorcatalog/render/JsonApiResponse", name := "isMemberName", desc := "(Ljava/lang/String;)Z" } : Jvm.MethodName) prog_50_method_3_code (5 : Nat) (Option.some Jvm.ClassFile.FieldType.boolean)).before args0 about1 = true := code_word (m := ⟨8, 0⟩) (meth := k8m0) (c := k8c0) (by decide +kernel) rfl rfl rfl (by decide +kernel)
set_option maxRecDepth 65536 in
theorem w_c5 : (Jvm.Cond.code ({ cls := "java/lang/String", name := "length", desc := "()I" } : Jvm.MethodName) jdk_42_method_54_code (1 : Nat) (Option.some Jvm.ClassFile.FieldType.int)).before args0 about1 = true := code_word (m := ⟨7, 2⟩) (meth := k7m2) (c := k7c2) (by decide +kernel) rfl rfl rfl (by decide +kernel)
set_option maxRecDepth 65536 in
theorem w_c6 : (Jvm.Cond.code ({ cls := "java/lang/String", name := "coder", desc := "()B" } : Jvm.MethodName) jdk_42_method_152_code (1 : Nat) (Option.some Jvm.ClassFile.FieldType.byte)).before args0 about1 = true := code_word (m := ⟨7, 5⟩) (meth := k7m5) (c := k7c5) (by decide +kernel) rfl rfl rfl (by decide +kernel)
set_option maxRecDepth 65536 in
theorem w_c7 : (Jvm.Cond.code ({ cls := "java/lang/StringUTF16", name := "compress", desc := "([CII)[B" } : Jvm.MethodName) jdk_52_method_16_code (6 : Nat) (Option.some (Jvm.ClassFile.FieldType.array Jvm.ClassFile.FieldType.byte))).before args0 about1 = true := code_word (m := ⟨9, 2⟩) (meth := k9m2) (c := k9c2) (by decide +kernel) rfl rfl rfl (by decide +kernel)
set_option maxRecDepth 65536 in
theorem w_c8 : (Jvm.Cond.code ({ cls := "java/lang/StringUTF16", name := "compress", desc := "([CI[BII)I" } : Jvm.MethodName) jdk_52_method_21_code (7 : Nat) (Option.some Jvm.ClassFile.FieldType.int)).before args0 about1 = true := code_word (m := ⟨9, 3⟩) (meth := k9m3) (c := k9c3) (by decide +kernel) rfl rfl rfl (by decide +kernel)
set_option maxRecDepth 65536 in
theorem w_c9 : (Jvm.Cond.code ({ cls := "java/lang/StringUTF16", name := "coderFromArrayLen", desc := "([BI)B" } : Jvm.MethodName) jdk_52_method_15_code (2 : Nat) (Option.some Jvm.ClassFile.FieldType.byte)).before args0 about1 = true := code_word (m := ⟨9, 1⟩) (meth := k9m1) (c := k9c1) (by decide +kernel) rfl rfl rfl (by decide +kernel)
set_option maxRecDepth 65536 in
theorem w_c10 : (Jvm.Cond.code ({ cls := "com/example/error_catalog/errorcatalog/render/JsonApiResponseIsMemberNamePinLaw", name := "alnum", desc := "(C)Z" } : Jvm.MethodName) method_2_code (4 : Nat) (Option.some Jvm.ClassFile.FieldType.boolean)).before args0 about1 = true := code_word (m := ⟨1, 1⟩) (meth := k1m1) (c := k1c1) (by decide +kernel) rfl rfl rfl (by decide +kernel)
set_option maxRecDepth 65536 in
theorem w_c11 : (Jvm.Cond.code ({ cls := "java/lang/String", name := "charAt", desc := "(I)C" } : Jvm.MethodName) jdk_42_method_56_code (2 : Nat) (Option.some Jvm.ClassFile.FieldType.char)).before args0 about1 = true := code_word (m := ⟨7, 3⟩) (meth := k7m3) (c := k7c3) (by decide +kernel) rfl rfl rfl (by decide +kernel)
set_option maxRecDepth 65536 in
theorem w_c12 : (Jvm.Cond.code ({ cls := "java/lang/String", name := "isLatin1", desc := "()Z" } : Jvm.MethodName) jdk_42_method_154_code (1 : Nat) (Option.some Jvm.ClassFile.FieldType.boolean)).before args0 about1 = true := code_word (m := ⟨7, 6⟩) (meth := k7m6) (c := k7c6) (by decide +kernel) rfl rfl rfl (by decide +kernel)
set_option maxRecDepth 65536 in
theorem w_c13 : (Jvm.Cond.code ({ cls := "java/lang/StringLatin1", name := "charAt", desc := "([BI)C" } : Jvm.MethodName) jdk_43_method_2_code (2 : Nat) (Option.some Jvm.ClassFile.FieldType.char)).before args0 about1 = true := code_word (m := ⟨10, 1⟩) (meth := k10m1) (c := k10c1) (by decide +kernel) rfl rfl rfl (by decide +kernel)
set_option maxRecDepth 65536 in
theorem w_c14 : (Jvm.Cond.code ({ cls := "java/lang/String", name := "checkIndex", desc := "(II)V" } : Jvm.MethodName) jdk_42_method_155_code (2 : Nat) (Option.none : Option Jvm.ClassFile.FieldType)).before args0 about1 = true := code_word (m := ⟨7, 7⟩) (meth := k7m7) (c := k7c7) (by decide +kernel) rfl rfl rfl (by decide +kernel)
set_option maxRecDepth 65536 in
theorem w_c15 : (Jvm.Cond.code ({ cls := "jdk/internal/util/Preconditions", name := "checkIndex", desc := "(IILjava/util/function/BiFunction;)I" } : Jvm.MethodName) jdk_41_method_11_code (3 : Nat) (Option.some Jvm.ClassFile.FieldType.int)).before args0 about1 = true := code_word (m := ⟨11, 1⟩) (meth := k11m1) (c := k11c1) (by decide +kernel) rfl rfl rfl (by decide +kernel)
set_option maxRecDepth 65536 in
theorem w_c16 : (Jvm.Cond.code ({ cls := "com/example/error_catalog/errorcatalog/render/JsonApiResponse", name := "isAsciiLetterOrDigit", desc := "(C)Z" } : Jvm.MethodName) prog_50_method_8_code (1 : Nat) (Option.some Jvm.ClassFile.FieldType.boolean)).before args0 about1 = true := code_word (m := ⟨8, 1⟩) (meth := k8m1) (c := k8c1) (by decide +kernel) rfl rfl rfl (by decide +kernel)
set_option maxRecDepth 65536 in
theorem w_c17 : (Jvm.Cond.code ({ cls := "com/example/error_catalog/errorcatalog/render/JsonApiResponseIsMemberNamePinLaw", name := "inner", desc := "(C)Z" } : Jvm.MethodName) method_3_code (1 : Nat) (Option.some Jvm.ClassFile.FieldType.boolean)).before args0 about1 = true := code_word (m := ⟨1, 2⟩) (meth := k1m2) (c := k1c2) (by decide +kernel) rfl rfl rfl (by decide +kernel)
def codes1 : List Jvm.Cond := [Jvm.Cond.code x code maxLocals ret, Jvm.Cond.code ({ cls := "java/lang/String", name := "<init>", desc := "([C)V" } : Jvm.MethodName) jdk_42_method_3_code (2 : Nat) (Option.none : Option Jvm.ClassFile.FieldType), Jvm.Cond.code ({ cls := "java/lang/String", name := "<init>", desc := "([CIILjava/lang/Void;)V" } : Jvm.MethodName) jdk_42_method_149_code (6 : Nat) (Option.none : Option Jvm.ClassFile.FieldType), Jvm.Cond.code ({ cls := "java/lang/Object", name := "<init>", desc := "()V" } : Jvm.MethodName) object_method_1_code (1 : Nat) (Option.none : Option Jvm.ClassFile.FieldType), Jvm.Cond.code ({ cls := "com/example/error_catalog/errorcatalog/render/JsonApiResponse", name := "isMemberName", desc := "(Ljava/lang/String;)Z" } : Jvm.MethodName) prog_50_method_3_code (5 : Nat) (Option.some Jvm.ClassFile.FieldType.boolean), Jvm.Cond.code ({ cls := "java/lang/String", name := "length", desc := "()I" } : Jvm.MethodName) jdk_42_method_54_code (1 : Nat) (Option.some Jvm.ClassFile.FieldType.int), Jvm.Cond.code ({ cls := "java/lang/String", name := "coder", desc := "()B" } : Jvm.MethodName) jdk_42_method_152_code (1 : Nat) (Option.some Jvm.ClassFile.FieldType.byte), Jvm.Cond.code ({ cls := "java/lang/StringUTF16", name := "compress", desc := "([CII)[B" } : Jvm.MethodName) jdk_52_method_16_code (6 : Nat) (Option.some (Jvm.ClassFile.FieldType.array Jvm.ClassFile.FieldType.byte)), Jvm.Cond.code ({ cls := "java/lang/StringUTF16", name := "compress", desc := "([CI[BII)I" } : Jvm.MethodName) jdk_52_method_21_code (7 : Nat) (Option.some Jvm.ClassFile.FieldType.int), Jvm.Cond.code ({ cls := "java/lang/StringUTF16", name := "coderFromArrayLen", desc := "([BI)B" } : Jvm.MethodName) jdk_52_method_15_code (2 : Nat) (Option.some Jvm.ClassFile.FieldType.byte), Jvm.Cond.code ({ cls := "com/example/error_catalog/errorcatalog/render/JsonApiResponseIsMemberNamePinLaw", name := "alnum", desc := "(C)Z" } : Jvm.MethodName) method_2_code (4 : Nat) (Option.some Jvm.ClassFile.FieldType.boolean), Jvm.Cond.code ({ cls := "java/lang/String", name := "charAt", desc := "(I)C" } : Jvm.MethodName) jdk_42_method_56_code (2 : Nat) (Option.some Jvm.ClassFile.FieldType.char), Jvm.Cond.code ({ cls := "java/lang/String", name := "isLatin1", desc := "()Z" } : Jvm.MethodName) jdk_42_method_154_code (1 : Nat) (Option.some Jvm.ClassFile.FieldType.boolean), Jvm.Cond.code ({ cls := "java/lang/StringLatin1", name := "charAt", desc := "([BI)C" } : Jvm.MethodName) jdk_43_method_2_code (2 : Nat) (Option.some Jvm.ClassFile.FieldType.char), Jvm.Cond.code ({ cls := "java/lang/String", name := "checkIndex", desc := "(II)V" } : Jvm.MethodName) jdk_42_method_155_code (2 : Nat) (Option.none : Option Jvm.ClassFile.FieldType), Jvm.Cond.code ({ cls := "jdk/internal/util/Preconditions", name := "checkIndex", desc := "(IILjava/util/function/BiFunction;)I" } : Jvm.MethodName) jdk_41_method_11_code (3 : Nat) (Option.some Jvm.ClassFile.FieldType.int), Jvm.Cond.code ({ cls := "com/example/error_catalog/errorcatalog/render/JsonApiResponse", name := "isAsciiLetterOrDigit", desc := "(C)Z" } : Jvm.MethodName) prog_50_method_8_code (1 : Nat) (Option.some Jvm.ClassFile.FieldType.boolean), Jvm.Cond.code ({ cls := "com/example/error_catalog/errorcatalog/render/JsonApiResponseIsMemberNamePinLaw", name := "inner", desc := "(C)Z" } : Jvm.MethodName) method_3_code (1 : Nat) (Option.some Jvm.ClassFile.FieldType.boolean)]
set_option maxRecDepth 65536 in
theorem codes_eq : words1.filter isCode = codes1 := rfl
theorem w_codes : ∀ c ∈ words1.filter isCode, c.before args0 about1 = true := by
  rw [codes_eq]
  intro c hc
  simp only [codes1, List.mem_cons, List.not_mem_nil, or_false] at hc
  rcases hc with rfl | rfl | rfl | rfl | rfl | rfl | rfl | rfl | rfl | rfl | rfl | rfl | rfl | rfl | rfl | rfl | rfl | rfl
  · exact w_c0
  · exact w_c1
  · exact w_c2
  · exact w_c3
  · exact w_c4
  · exact w_c5
  · exact w_c6
  · exact w_c7
  · exact w_c8
  · exact w_c9
  · exact w_c10
  · exact w_c11
  · exact w_c12
  · exact w_c13
  · exact w_c14
  · exact w_c15
  · exact w_c16
  · exact w_c17
set_option maxRecDepth 65536 in
theorem w_t1 : (words1.take 24).all (fun c => isCode c || c.before args0 about1) = true := by decide +kernel
set_option maxRecDepth 65536 in
theorem w_t2 : ((words1.drop 24).take 24).all (fun c => isCode c || c.before args0 about1) = true := by decide +kernel
set_option maxRecDepth 65536 in
theorem w_t3 : (((words1.drop 24).drop 24).take 24).all (fun c => isCode c || c.before args0 about1) = true := by decide +kernel
set_option maxRecDepth 65536 in
theorem w_t4 : (((words1.drop 24).drop 24).drop 24).all (fun c => isCode c || c.before args0 about1) = true := by decide +kernel
theorem w_tables : (allAtoms (Jvm.Cond.code x code maxLocals ret :: tables_1)).before args0 about1 = true := by
  rw [allAtoms_all]
  show words1.all (fun c => c.before args0 about1) = true
  refine all_split ?_ w_codes
  rw [← List.take_append_drop 24 words1, List.all_append, w_t1, ← List.take_append_drop 24 (words1.drop 24), List.all_append, w_t2, ← List.take_append_drop 24 ((words1.drop 24).drop 24), List.all_append, w_t3, w_t4]
  rfl
set_option maxRecDepth 65536 in
theorem w_rest : rest_1_c.before args0 about1 = true := by decide +kernel
set_option maxRecDepth 65536 in
theorem w_case : (Jvm.Cond.and given_1 narrow_1).before args0 about1 = true := by decide +kernel
set_option maxRecDepth 65536 in
theorem w_consts : constsHeld consts_1 about1 := Jvm.Lit.constsHeldB_iff.mp (by decide +kernel)
theorem w_applies : (headSpec (Jvm.Cond.code x code maxLocals ret :: tables_1) room_1).applies x e0.platform about1 = true :=
  (Spec.applies_iff w_frames).mpr ⟨w_running, w_runnable, w_alone, w_named, w_hears, w_ripe, w_room, w_tables⟩
theorem atStart : AtStart classFile x code maxLocals ret World_1 tables_1 room_1 Calls_1 rest_1 Pre_1 launch0 p0 e0 about1 theMethod args0 below0 :=
  ⟨lists_1, trivial, launch0.admits_env _ _ _, launch0.least_env, fairChoices_fair.cas, fairChoices_fair.clock, w_frames, w_args, w_heap, w_applies, ⟨w_consts, trivial⟩, w_rest, w_case⟩
end start1
theorem witness_1 : WitnessClaimed_1 := ⟨start1.p0, start1.e0, start1.about1, start1.theMethod, start1.args0, start1.below0, start1.atStart⟩
end Jvm.Pilot.@@N@@
