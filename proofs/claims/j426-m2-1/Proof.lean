import JvmDerived
import JvmDerived.Pilot.@@N@@Statement
import JvmDerived.Pilot.@@N@@Code
set_option linter.unusedVariables false
set_option linter.unusedSimpArgs false
namespace Jvm.Own
open Sem ClassFile Op Lib
/-- what is known of the frames below (here: nothing is asked) -/
def Kn (_ : Vm) (_ : List Frame) : Prop := True
theorem Kn.alike {vm vm' : Vm} {fs : List Frame} (_ : Kn vm fs) (_ : vm.Alike vm') : Kn vm' fs := trivial
theorem Kn.push {vm : Vm} {fs : List Frame} (_ : Kn vm fs) {g : JFrame} {meth : Method} (_ : vm.method? g.method = some meth) : Kn vm (.java g :: fs) := trivial
end Jvm.Own
namespace Jvm.RoadKit
theorem Keep.mono {h h' : Heap} {ws ws' : List Addr} (K : Keep h h' ws) (q : ∀ x ∈ ws, x ∈ ws') : Keep h h' ws' := ⟨K.1, fun x c h1 h2 => K.2.1 x c h1 fun z => h2 (q x z), K.2.2⟩
end Jvm.RoadKit
namespace Jvm.Own
open Sem ClassFile Op Lib Jvm.Stand Jvm.Free Jvm.LawKit Jvm.RoadKit
/-! A walk in continuation form, over the library's Stand, RoadKit and the cold laws (RW10): 'Run' says: from here the invocation ends as Q says. -/
abbrev Lits := Option (List (String × Addr))
/-- the intern table: the start's pairs, and pairs whose text and place are among Ls (none: nothing is said) -/
def Itn (Z : State) (vm : Vm) (Ls : Lits) : Prop := ∀ lt, Ls = some lt → ∃ more : Array (Array UInt16 × Addr), vm.interned = Z.vm.interned ++ more ∧ ∀ q ∈ more, ∃ t ∈ lt, utf16ToString? q.1 = some t.1 ∧ q.2 = t.2
theorem Itn.start (Z : State) : Itn Z Z.vm (some []) := fun lt hl => ⟨#[], by simp, fun q hq => by simp at hq⟩
theorem Itn.nothing (Z : State) (vm : Vm) : Itn Z vm none := fun lt hl => nomatch hl
theorem Itn.eq {Z : State} {vm vm' : Vm} {Ls : Lits} (I : Itn Z vm Ls) (h : vm'.interned = vm.interned) : Itn Z vm' Ls := fun lt hl => by
  obtain ⟨more, h1, h2⟩ := I lt hl
  exact ⟨more, h.trans h1, h2⟩
def Done (Z : State) (n0 : Nat) (R : Room) (s : State) (Q : Option Value → Heap → Lits → Prop) (o : Outcome) (u : State) : Prop :=
  ∃ (v : Option Value) (L : List Loc) (Ls : Lits), o = .returned v ∧ Q v u.heap Ls ∧ Old Z n0 u.heap ∧ Itn Z u.vm Ls ∧ Fr n0 L ∧ ReturnedEndW s o u L R.cells R.slots
def WS (Z : State) (n0 : Nat) (p : Program) (l : Launch) (e : Env) (R : Room) (s : State) (own : String) (m : MethodId) (args : Array Value) (below : List Frame) (meth : Method) (c : Code) (h : Heap) (k n : Nat) (Ls : Lits) (T : State) : Prop :=
  ∃ (vm0 : Vm) (locs : List Loc) (k0 : Nat), Stand p l e R (s.setVm vm0) m args below meth c T locs k n ∧ T.heap = h ∧ s.Since vm0 k0 ∧ k0 ≤ h.size ∧ Z.Warmed39 (s.setVm vm0).vm ∧ (s.setVm vm0).vm.findClass own = some m.cls ∧ Fr n0 locs ∧ Old Z n0 h ∧ Itn Z vm0 Ls ∧ Kn s.vm below
def Run (Z : State) (n0 : Nat) (p : Program) (l : Launch) (e : Env) (R : Room) (s : State) (own : String) (m : MethodId) (args : Array Value) (below : List Frame) (meth : Method) (c : Code) (Q : Option Value → Heap → Lits → Prop) (h : Heap) (k n : Nat) (Ls : Lits) (pc : Nat) (L : List Slot) (st : List Value) : Prop :=
  ∀ T, WS Z n0 p l e R s own m args below meth c h k n Ls T → ∃ u o, Steps p.tables e below (T.setTop (mkF m pc L.toArray st)) u ∧ u.status = .running ∧ Ended u below o ∧ Done Z n0 R s Q o u
/-- what the method is -/
def Fx (p : Program) (c : Code) (meth : Method) (bytes : ByteArray) (ml : Nat) (ret : Option FieldType) (nm : String) : Prop :=
  p.tables.exec = Jvm.exec ∧ c.code = bytes ∧ c.maxLocals = ml ∧ meth.sig.returnType = ret ∧ meth.locks = false ∧ meth.name = nm
def Dc (bytes : ByteArray) (pc : Nat) (i : Instr) (len nx : Nat) : Prop := decode bytes pc = .ok (i, len) ∧ pc + len = nx
abbrev RV (Q : Value → Heap → Lits → Prop) : Option Value → Heap → Lits → Prop := fun v h Ls => ∃ w, v = some w ∧ Q w h Ls
abbrev RN (Q : Heap → Lits → Prop) : Option Value → Heap → Lits → Prop := fun v h Ls => v = none ∧ Q h Ls
def Con (l : Launch) (Z : State) (n0 : Nat) (y : MethodName) (bytes : ByteArray) (ml : Nat) (ret : Option FieldType) (rm : Room) (as : List Value) (h : Heap) (Ls : Lits) (ws : List Cond) (Q : Option Value → Heap → Lits → Prop) : Prop :=
  MetFree l y (head1 (Cond.code y bytes ml ret :: ws) rm) (fun a U => a = as.toArray ∧ Z.Warmed39 U.vm ∧ U.heap = h ∧ Itn Z U.vm Ls) (fun _ _ below U _ => Kn U.vm below) (fun _ U o U' => Done Z n0 rm U Q o U')
def okSlot : Slot → Bool
  | .unset => true
  | .val v => v.category == 1
  | _ => false
theorem okSlot.one {o : Slot} (h : okSlot o = true) : o = .unset ∨ ∃ w, o = .val w ∧ w.category = 1 := by
  cases o with
  | unset => exact Or.inl rfl
  | val v => exact Or.inr ⟨v, rfl, by simpa [okSlot] using h⟩
  | second => simp [okSlot] at h
section Laws
variable {Z : State} {n0 : Nat} {p : Program} {l : Launch} {e : Env} {R : Room} {s : State} {own : String} {m : MethodId} {args : Array Value} {below : List Frame} {meth : Method} {c : Code} {Q : Option Value → Heap → Lits → Prop} {h : Heap} {k n : Nat} {Ls : Lits} {pc nx : Nat} {L : List Slot} {st : List Value}
variable {bytes : ByteArray} {ml : Nat} {ret : Option FieldType} {nm : String} {a0 : Array Value}
theorem Con.of_run {y : MethodName} {rm : Room} {as : List Value} {ws : List Cond} (hpl : plainFor y = true) (hO : Old Z n0 h)
    (body : ∀ (p : Program) (e : Env) (s : State) (m : MethodId) (below : List Frame) (meth : Method) (c : Code), Fx p c meth bytes ml ret y.name → s.heap = h → ∃ L0, entryFrame m as.toArray ml = mkF m 0 L0.toArray [] ∧ Run Z n0 p l e rm s y.cls m as.toArray below meth c Q h 0 0 Ls 0 L0 []) :
    Con l Z n0 y bytes ml ret rm as h Ls ws Q := by
  refine MetFree.of_bodySF hpl hisR ?_
  intro p e s m args below meth c s₁ Bd hml0 hP hK
  obtain ⟨rfl, hZ, hh, hI⟩ := hP
  have hnm := (name_of_methodNamed Bd.named Bd.method).1
  have X0 : Stand p l e rm s m as.toArray below meth c s₁ [] 0 0 := Stand.of_body Bd
  have e0 : s₁.heap = h := by rw [← hh, Bd.state]; rfl
  obtain ⟨L0, ef, hrun⟩ := body p e s m below meth c ⟨Bd.exec, Bd.bytes, hml0, Bd.returns, Bd.notSynchronized, hnm⟩ hh
  obtain ⟨u, o, st, r1, r2, r3⟩ := hrun s₁ ⟨s.vm, [], h.size, X0, e0, State.WarmedH.since (State.WarmedH.refl s) _, Nat.le_refl _, hZ, findClass_of_methodNamed Bd.named, Fr.nil n0, hO, hI, hK⟩
  exact ⟨u, o, castTop ef st, r1, r2, r3⟩
theorem Run.pure {pc' : Nat} {L' : List Slot} {st' : List Value} (H : ∀ T u, At T m c below → Steps p.tables e below (T.setTop (mkF m pc' L'.toArray st')) u → Steps p.tables e below (T.setTop (mkF m pc L.toArray st)) u)
    (K : Run Z n0 p l e R s own m args below meth c Q h k n Ls pc' L' st') : Run Z n0 p l e R s own m args below meth c Q h k n Ls pc L st := fun T W => by
  obtain ⟨u, o, a, r⟩ := K T W
  obtain ⟨vm0, locs, k0, X, -⟩ := W
  exact ⟨u, o, H T u X.here a, r⟩
theorem Run.still {pc' : Nat} {L' : List Slot} {st' : List Value} (H : ∀ T vm0 locs, Stand p l e R (s.setVm vm0) m args below meth c T locs k n → T.heap = h → Z.Warmed39 (s.setVm vm0).vm → (s.setVm vm0).vm.findClass own = some m.cls → ∀ u, Steps p.tables e below (T.setTop (mkF m pc' L'.toArray st')) u → Steps p.tables e below (T.setTop (mkF m pc L.toArray st)) u)
    (K : Run Z n0 p l e R s own m args below meth c Q h k n Ls pc' L' st') : Run Z n0 p l e R s own m args below meth c Q h k n Ls pc L st := fun T W => by
  obtain ⟨u, o, a, r⟩ := K T W
  obtain ⟨vm0, locs, k0, X, eT, -, -, hZ, hown, -⟩ := W
  exact ⟨u, o, H T vm0 locs X eT hZ hown u a, r⟩
theorem getL {L : List Slot} {i : Nat} {x : Slot} (h : L[i]? = some x) : L.toArray[i]? = some x := by simpa using h
theorem setL {L : List Slot} {i : Nat} {v : Value} (ho : (L[i]?.map okSlot) = some true) (hv : v.category = 1) : storeLocals L.toArray i v = some (L.set i (.val v)).toArray := by
  cases hq : L[i]? with
  | none => simp [hq] at ho
  | some o =>
    rw [XS.store1 (getL hq) (okSlot.one (by simpa [hq] using ho)) hv]
    simp
theorem hbD (F : Fx p c meth bytes ml ret nm) {i : Instr} {len : Nat} (d : Dc bytes pc i len nx) : decode c.code pc = .ok (i, len) := by rw [F.2.1]; exact d.1
/-! single steps -/
theorem Run.iloadN (F : Fx p c meth bytes ml ret nm) {i : Fin 4} {v : Int32} (d : Dc bytes pc (.iload_n i) 1 nx) (hl : L[i.val]? = some (.val (.int v)))
    (K : Run Z n0 p l e R s own m args below meth c Q h k n Ls nx L (.int v :: st)) : Run Z n0 p l e R s own m args below meth c Q h k n Ls pc L st := by
  have hd := hbD F d; obtain ⟨-, rfl⟩ := d
  exact Run.pure (fun T u hA s => XS.iloadN (g := mkF m pc L.toArray st) hA F.1 rfl hd (getL hl) s) K
theorem Run.iload (F : Fx p c meth bytes ml ret nm) {i : Nat} {v : Int32} (d : Dc bytes pc (.iload i) 2 nx) (hl : L[i]? = some (.val (.int v)))
    (K : Run Z n0 p l e R s own m args below meth c Q h k n Ls nx L (.int v :: st)) : Run Z n0 p l e R s own m args below meth c Q h k n Ls pc L st := by
  have hd := hbD F d; obtain ⟨-, rfl⟩ := d
  exact Run.pure (fun T u hA s => XS.iload (g := mkF m pc L.toArray st) hA F.1 rfl hd (getL hl) s) K
theorem Run.aloadN (F : Fx p c meth bytes ml ret nm) {i : Fin 4} {v : Value} (d : Dc bytes pc (.aload_n i) 1 nx) (hl : L[i.val]? = some (.val v)) (hv : v.isRef = true)
    (K : Run Z n0 p l e R s own m args below meth c Q h k n Ls nx L (v :: st)) : Run Z n0 p l e R s own m args below meth c Q h k n Ls pc L st := by
  have hd := hbD F d; obtain ⟨-, rfl⟩ := d
  exact Run.pure (fun T u hA s => XS.aloadN (g := mkF m pc L.toArray st) hA F.1 rfl hd (getL hl) hv s) K
theorem Run.aload (F : Fx p c meth bytes ml ret nm) {i : Nat} {v : Value} (d : Dc bytes pc (.aload i) 2 nx) (hl : L[i]? = some (.val v)) (hv : v.isRef = true)
    (K : Run Z n0 p l e R s own m args below meth c Q h k n Ls nx L (v :: st)) : Run Z n0 p l e R s own m args below meth c Q h k n Ls pc L st := by
  have hd := hbD F d; obtain ⟨-, rfl⟩ := d
  exact Run.pure (fun T u hA s => XS.aload (g := mkF m pc L.toArray st) hA F.1 rfl hd (getL hl) hv s) K
theorem Run.istoreN (F : Fx p c meth bytes ml ret nm) {i : Fin 4} {v : Int32} (d : Dc bytes pc (.istore_n i) 1 nx) (ho : (L[i.val]?.map okSlot) = some true)
    (K : Run Z n0 p l e R s own m args below meth c Q h k n Ls nx (L.set i.val (.val (.int v))) st) : Run Z n0 p l e R s own m args below meth c Q h k n Ls pc L (.int v :: st) := by
  have hd := hbD F d; obtain ⟨-, rfl⟩ := d
  exact Run.pure (fun T u hA s => XS.istoreN (g := mkF m pc L.toArray (.int v :: st)) hA F.1 rfl hd rfl (setL ho rfl) s) K
theorem Run.istore (F : Fx p c meth bytes ml ret nm) {i : Nat} {v : Int32} (d : Dc bytes pc (.istore i) 2 nx) (ho : (L[i]?.map okSlot) = some true)
    (K : Run Z n0 p l e R s own m args below meth c Q h k n Ls nx (L.set i (.val (.int v))) st) : Run Z n0 p l e R s own m args below meth c Q h k n Ls pc L (.int v :: st) := by
  have hd := hbD F d; obtain ⟨-, rfl⟩ := d
  exact Run.pure (fun T u hA s => XS.istore (g := mkF m pc L.toArray (.int v :: st)) hA F.1 rfl hd rfl (setL ho rfl) s) K
theorem cat_ref {v : Value} (hv : v.isRef = true) : v.category = 1 := by rcases ref_cases hv with rfl | ⟨a, rfl⟩ <;> rfl
theorem Run.astoreN (F : Fx p c meth bytes ml ret nm) {i : Fin 4} {v : Value} (d : Dc bytes pc (.astore_n i) 1 nx) (ho : (L[i.val]?.map okSlot) = some true) (hv : v.isRef = true)
    (K : Run Z n0 p l e R s own m args below meth c Q h k n Ls nx (L.set i.val (.val v)) st) : Run Z n0 p l e R s own m args below meth c Q h k n Ls pc L (v :: st) := by
  have hd := hbD F d; obtain ⟨-, rfl⟩ := d
  exact Run.pure (fun T u hA s => XS.astoreN (g := mkF m pc L.toArray (v :: st)) hA F.1 rfl hd rfl hv (setL ho (cat_ref hv)) s) K
theorem Run.astore (F : Fx p c meth bytes ml ret nm) {i : Nat} {v : Value} (d : Dc bytes pc (.astore i) 2 nx) (ho : (L[i]?.map okSlot) = some true) (hv : v.isRef = true)
    (K : Run Z n0 p l e R s own m args below meth c Q h k n Ls nx (L.set i (.val v)) st) : Run Z n0 p l e R s own m args below meth c Q h k n Ls pc L (v :: st) := by
  have hd := hbD F d; obtain ⟨-, rfl⟩ := d
  exact Run.pure (fun T u hA s => XS.astore (g := mkF m pc L.toArray (v :: st)) hA F.1 rfl hd rfl hv (setL ho (cat_ref hv)) s) K
theorem Run.iconst (F : Fx p c meth bytes ml ret nm) {i : Int} {z : Int32} (d : Dc bytes pc (.iconst i) 1 nx) (hz : Int32.ofInt i = z)
    (K : Run Z n0 p l e R s own m args below meth c Q h k n Ls nx L (.int z :: st)) : Run Z n0 p l e R s own m args below meth c Q h k n Ls pc L st := by
  have hd := hbD F d; obtain ⟨-, rfl⟩ := d; subst hz
  exact Run.pure (fun T u hA s => XS.iconst (g := mkF m pc L.toArray st) hA F.1 rfl hd s) K
theorem Run.bipush (F : Fx p c meth bytes ml ret nm) {i : Int} {z : Int32} (d : Dc bytes pc (.bipush i) 2 nx) (hz : (Int8.ofInt i).toInt32 = z)
    (K : Run Z n0 p l e R s own m args below meth c Q h k n Ls nx L (.int z :: st)) : Run Z n0 p l e R s own m args below meth c Q h k n Ls pc L st := by
  have hd := hbD F d; obtain ⟨-, rfl⟩ := d; subst hz
  exact Run.pure (fun T u hA s => XS.bipush (g := mkF m pc L.toArray st) hA F.1 rfl hd s) K
theorem Run.sipush (F : Fx p c meth bytes ml ret nm) {i : Int} {z : Int32} (d : Dc bytes pc (.sipush i) 3 nx) (hz : (Int16.ofInt i).toInt32 = z)
    (K : Run Z n0 p l e R s own m args below meth c Q h k n Ls nx L (.int z :: st)) : Run Z n0 p l e R s own m args below meth c Q h k n Ls pc L st := by
  have hd := hbD F d; obtain ⟨-, rfl⟩ := d; subst hz
  exact Run.pure (fun T u hA s => XS.sipush (g := mkF m pc L.toArray st) hA F.1 rfl hd s) K
theorem Run.aconstNull (F : Fx p c meth bytes ml ret nm) (d : Dc bytes pc .aconst_null 1 nx)
    (K : Run Z n0 p l e R s own m args below meth c Q h k n Ls nx L (.null :: st)) : Run Z n0 p l e R s own m args below meth c Q h k n Ls pc L st := by
  have hd := hbD F d; obtain ⟨-, rfl⟩ := d
  exact Run.pure (fun T u hA s => XS.aconstNull (g := mkF m pc L.toArray st) hA F.1 rfl hd s) K
theorem Run.iadd (F : Fx p c meth bytes ml ret nm) {x y : Int32} (d : Dc bytes pc .iadd 1 nx) (K : Run Z n0 p l e R s own m args below meth c Q h k n Ls nx L (.int (x + y) :: st)) : Run Z n0 p l e R s own m args below meth c Q h k n Ls pc L (.int y :: .int x :: st) := by
  have hd := hbD F d; obtain ⟨-, rfl⟩ := d
  exact Run.pure (fun T u hA s => XS.iadd (g := mkF m pc L.toArray (.int y :: .int x :: st)) hA F.1 rfl hd rfl s) K
theorem Run.isub (F : Fx p c meth bytes ml ret nm) {x y : Int32} (d : Dc bytes pc .isub 1 nx) (K : Run Z n0 p l e R s own m args below meth c Q h k n Ls nx L (.int (x - y) :: st)) : Run Z n0 p l e R s own m args below meth c Q h k n Ls pc L (.int y :: .int x :: st) := by
  have hd := hbD F d; obtain ⟨-, rfl⟩ := d
  exact Run.pure (fun T u hA s => XS.isub (g := mkF m pc L.toArray (.int y :: .int x :: st)) hA F.1 rfl hd rfl s) K
theorem Run.imul (F : Fx p c meth bytes ml ret nm) {x y : Int32} (d : Dc bytes pc .imul 1 nx) (K : Run Z n0 p l e R s own m args below meth c Q h k n Ls nx L (.int (x * y) :: st)) : Run Z n0 p l e R s own m args below meth c Q h k n Ls pc L (.int y :: .int x :: st) := by
  have hd := hbD F d; obtain ⟨-, rfl⟩ := d
  exact Run.pure (fun T u hA s => XS.imul (g := mkF m pc L.toArray (.int y :: .int x :: st)) hA F.1 rfl hd rfl s) K
theorem Run.iand (F : Fx p c meth bytes ml ret nm) {x y : Int32} (d : Dc bytes pc .iand 1 nx) (K : Run Z n0 p l e R s own m args below meth c Q h k n Ls nx L (.int (x &&& y) :: st)) : Run Z n0 p l e R s own m args below meth c Q h k n Ls pc L (.int y :: .int x :: st) := by
  have hd := hbD F d; obtain ⟨-, rfl⟩ := d
  exact Run.pure (fun T u hA s => XS.iand (g := mkF m pc L.toArray (.int y :: .int x :: st)) hA F.1 rfl hd rfl s) K
theorem Run.ior (F : Fx p c meth bytes ml ret nm) {x y : Int32} (d : Dc bytes pc .ior 1 nx) (K : Run Z n0 p l e R s own m args below meth c Q h k n Ls nx L (.int (x ||| y) :: st)) : Run Z n0 p l e R s own m args below meth c Q h k n Ls pc L (.int y :: .int x :: st) := by
  have hd := hbD F d; obtain ⟨-, rfl⟩ := d
  exact Run.pure (fun T u hA s => XT.ior (g := mkF m pc L.toArray (.int y :: .int x :: st)) hA F.1 rfl hd rfl s) K
theorem Run.ixor (F : Fx p c meth bytes ml ret nm) {x y : Int32} (d : Dc bytes pc .ixor 1 nx) (K : Run Z n0 p l e R s own m args below meth c Q h k n Ls nx L (.int (x ^^^ y) :: st)) : Run Z n0 p l e R s own m args below meth c Q h k n Ls pc L (.int y :: .int x :: st) := by
  have hd := hbD F d; obtain ⟨-, rfl⟩ := d
  exact Run.pure (fun T u hA s => XT.ixor (g := mkF m pc L.toArray (.int y :: .int x :: st)) hA F.1 rfl hd rfl s) K
theorem Run.ishr (F : Fx p c meth bytes ml ret nm) {x y : Int32} (d : Dc bytes pc .ishr 1 nx) (K : Run Z n0 p l e R s own m args below meth c Q h k n Ls nx L (.int (x >>> (y &&& 31)) :: st)) : Run Z n0 p l e R s own m args below meth c Q h k n Ls pc L (.int y :: .int x :: st) := by
  have hd := hbD F d; obtain ⟨-, rfl⟩ := d
  exact Run.pure (fun T u hA s => XT.ishr (g := mkF m pc L.toArray (.int y :: .int x :: st)) hA F.1 rfl hd rfl s) K
theorem Run.ishl (F : Fx p c meth bytes ml ret nm) {x y : Int32} (d : Dc bytes pc .ishl 1 nx) (K : Run Z n0 p l e R s own m args below meth c Q h k n Ls nx L (.int (x <<< (y &&& 31)) :: st)) : Run Z n0 p l e R s own m args below meth c Q h k n Ls pc L (.int y :: .int x :: st) := by
  have hd := hbD F d; obtain ⟨-, rfl⟩ := d
  exact Run.pure (fun T u hA s => XT.ishl (g := mkF m pc L.toArray (.int y :: .int x :: st)) hA F.1 rfl hd rfl s) K
theorem Run.iushr (F : Fx p c meth bytes ml ret nm) {x y : Int32} (d : Dc bytes pc .iushr 1 nx) (K : Run Z n0 p l e R s own m args below meth c Q h k n Ls nx L (.int (XT.ushr x y) :: st)) : Run Z n0 p l e R s own m args below meth c Q h k n Ls pc L (.int y :: .int x :: st) := by
  have hd := hbD F d; obtain ⟨-, rfl⟩ := d
  exact Run.pure (fun T u hA s => XT.iushr (g := mkF m pc L.toArray (.int y :: .int x :: st)) hA F.1 rfl hd rfl s) K
theorem Run.idiv (F : Fx p c meth bytes ml ret nm) {x y : Int32} (d : Dc bytes pc .idiv 1 nx) (hy : y ≠ 0) (K : Run Z n0 p l e R s own m args below meth c Q h k n Ls nx L (.int (x / y) :: st)) : Run Z n0 p l e R s own m args below meth c Q h k n Ls pc L (.int y :: .int x :: st) := by
  have hd := hbD F d; obtain ⟨-, rfl⟩ := d
  exact Run.pure (fun T u hA s => XS.idiv (g := mkF m pc L.toArray (.int y :: .int x :: st)) hA F.1 rfl hd rfl hy s) K
theorem Run.irem (F : Fx p c meth bytes ml ret nm) {x y : Int32} (d : Dc bytes pc .irem 1 nx) (hy : y ≠ 0) (K : Run Z n0 p l e R s own m args below meth c Q h k n Ls nx L (.int (x % y) :: st)) : Run Z n0 p l e R s own m args below meth c Q h k n Ls pc L (.int y :: .int x :: st) := by
  have hd := hbD F d; obtain ⟨-, rfl⟩ := d
  exact Run.still (fun T vm0 locs X eT hZ hown u s => iremM (g := mkF m pc L.toArray (.int y :: .int x :: st)) X F.1 rfl hd rfl hy s) K
theorem Run.ineg (F : Fx p c meth bytes ml ret nm) {x : Int32} (d : Dc bytes pc .ineg 1 nx) (K : Run Z n0 p l e R s own m args below meth c Q h k n Ls nx L (.int (-x) :: st)) : Run Z n0 p l e R s own m args below meth c Q h k n Ls pc L (.int x :: st) := by
  have hd := hbD F d; obtain ⟨-, rfl⟩ := d
  exact Run.pure (fun T u hA s => XS.ineg (g := mkF m pc L.toArray (.int x :: st)) hA F.1 rfl hd rfl s) K
abbrev chr (x : Int32) : Int32 := x.toUInt32.toUInt16.toUInt32.toInt32
theorem Run.i2c (F : Fx p c meth bytes ml ret nm) {x : Int32} (d : Dc bytes pc .i2c 1 nx) (K : Run Z n0 p l e R s own m args below meth c Q h k n Ls nx L (.int (chr x) :: st)) : Run Z n0 p l e R s own m args below meth c Q h k n Ls pc L (.int x :: st) := by
  have hd := hbD F d; obtain ⟨-, rfl⟩ := d
  exact Run.pure (fun T u hA s => XT.i2c (g := mkF m pc L.toArray (.int x :: st)) hA F.1 rfl hd rfl s) K
theorem Run.i2b (F : Fx p c meth bytes ml ret nm) {x : Int32} (d : Dc bytes pc .i2b 1 nx) (K : Run Z n0 p l e R s own m args below meth c Q h k n Ls nx L (.int (x.toInt8.toInt32) :: st)) : Run Z n0 p l e R s own m args below meth c Q h k n Ls pc L (.int x :: st) := by
  have hd := hbD F d; obtain ⟨-, rfl⟩ := d
  exact Run.pure (fun T u hA s => XT.i2b (g := mkF m pc L.toArray (.int x :: st)) hA F.1 rfl hd rfl s) K
theorem Run.dup (F : Fx p c meth bytes ml ret nm) {x : Value} (d : Dc bytes pc .dup 1 nx) (hc : x.category = 1) (K : Run Z n0 p l e R s own m args below meth c Q h k n Ls nx L (x :: x :: st)) : Run Z n0 p l e R s own m args below meth c Q h k n Ls pc L (x :: st) := by
  have hd := hbD F d; obtain ⟨-, rfl⟩ := d
  exact Run.pure (fun T u hA s => XS.dup (g := mkF m pc L.toArray (x :: st)) hA F.1 rfl hd rfl hc s) K
theorem Run.dup2 (F : Fx p c meth bytes ml ret nm) {x y : Value} (d : Dc bytes pc .dup2 1 nx) (hc : x.category = 1) (hc' : y.category = 1) (K : Run Z n0 p l e R s own m args below meth c Q h k n Ls nx L (x :: y :: x :: y :: st)) : Run Z n0 p l e R s own m args below meth c Q h k n Ls pc L (x :: y :: st) := by
  have hd := hbD F d; obtain ⟨-, rfl⟩ := d
  exact Run.pure (fun T u hA s => XT.dup2 (g := mkF m pc L.toArray (x :: y :: st)) hA F.1 rfl hd rfl hc hc' s) K
theorem Run.dupX1 (F : Fx p c meth bytes ml ret nm) {x y : Value} (d : Dc bytes pc .dup_x1 1 nx) (hc : x.category = 1) (hc' : y.category = 1) (K : Run Z n0 p l e R s own m args below meth c Q h k n Ls nx L (x :: y :: x :: st)) : Run Z n0 p l e R s own m args below meth c Q h k n Ls pc L (x :: y :: st) := by
  have hd := hbD F d; obtain ⟨-, rfl⟩ := d
  exact Run.pure (fun T u hA s => XT.dupX1 (g := mkF m pc L.toArray (x :: y :: st)) hA F.1 rfl hd rfl hc hc' s) K
theorem Run.pop (F : Fx p c meth bytes ml ret nm) {x : Value} (d : Dc bytes pc .pop 1 nx) (hc : x.category = 1) (K : Run Z n0 p l e R s own m args below meth c Q h k n Ls nx L st) : Run Z n0 p l e R s own m args below meth c Q h k n Ls pc L (x :: st) := by
  have hd := hbD F d; obtain ⟨-, rfl⟩ := d
  exact Run.pure (fun T u hA s => XT.pop (g := mkF m pc L.toArray (x :: st)) hA F.1 rfl hd rfl hc s) K
theorem Run.iinc (F : Fx p c meth bytes ml ret nm) {i : Nat} {cst : Int} {z x : Int32} (d : Dc bytes pc (.iinc i cst) 3 nx) (hz : Int32.ofInt cst = z) (hl : L[i]? = some (.val (.int x)))
    (K : Run Z n0 p l e R s own m args below meth c Q h k n Ls nx (L.set i (.val (.int (x + z)))) st) : Run Z n0 p l e R s own m args below meth c Q h k n Ls pc L st := by
  have hd := hbD F d; obtain ⟨-, rfl⟩ := d; subst hz
  exact Run.pure (fun T u hA s => XS.iinc (g := mkF m pc L.toArray st) hA F.1 rfl hd (getL hl) (setL (by rw [hl]; rfl) rfl) s) K
theorem Run.goto (F : Fx p c meth bytes ml ret nm) {o : Int} {t : Nat} (d : Dc bytes pc (.goto o) 3 nx) (ht : (pc : Int) + o = (t : Int))
    (K : Run Z n0 p l e R s own m args below meth c Q h k n Ls t L st) : Run Z n0 p l e R s own m args below meth c Q h k n Ls pc L st := by
  have hd := hbD F d
  exact Run.pure (fun T u hA s => XS.goto (g := mkF m pc L.toArray st) hA F.1 rfl (pc' := t) rfl hd (by rw [ht]; exact Int.natCast_nonneg _) (by rw [ht]; rfl) s) K
theorem Run.ifYes (F : Fx p c meth bytes ml ret nm) {cd : ClassFile.Cond} {x : Int32} {o : Int} {t : Nat} (d : Dc bytes pc (.ifCond cd o) 3 nx) (ht : (pc : Int) + o = (t : Int)) (hc : ifCond.holds cd x = true)
    (K : Run Z n0 p l e R s own m args below meth c Q h k n Ls t L st) : Run Z n0 p l e R s own m args below meth c Q h k n Ls pc L (.int x :: st) := by
  have hd := hbD F d
  exact Run.pure (fun T u hA s => XS.ifYes (g := mkF m pc L.toArray (.int x :: st)) hA F.1 rfl (pc' := t) rfl hd rfl hc (by rw [ht]; exact Int.natCast_nonneg _) (by rw [ht]; rfl) s) K
theorem Run.ifNo (F : Fx p c meth bytes ml ret nm) {cd : ClassFile.Cond} {x : Int32} {o : Int} (d : Dc bytes pc (.ifCond cd o) 3 nx) (hc : ifCond.holds cd x = false)
    (K : Run Z n0 p l e R s own m args below meth c Q h k n Ls nx L st) : Run Z n0 p l e R s own m args below meth c Q h k n Ls pc L (.int x :: st) := by
  have hd := hbD F d; obtain ⟨-, rfl⟩ := d
  exact Run.pure (fun T u hA s => XS.ifNo (g := mkF m pc L.toArray (.int x :: st)) hA F.1 rfl hd rfl hc s) K
theorem Run.if_ (F : Fx p c meth bytes ml ret nm) {cd : ClassFile.Cond} {x : Int32} {o : Int} {t : Nat} (d : Dc bytes pc (.ifCond cd o) 3 nx) (ht : (pc : Int) + o = (t : Int))
    (K1 : ifCond.holds cd x = true → Run Z n0 p l e R s own m args below meth c Q h k n Ls t L st) (K2 : ifCond.holds cd x = false → Run Z n0 p l e R s own m args below meth c Q h k n Ls nx L st) : Run Z n0 p l e R s own m args below meth c Q h k n Ls pc L (.int x :: st) := by
  cases hc : ifCond.holds cd x with
  | true => exact Run.ifYes F d ht hc (K1 hc)
  | false => exact Run.ifNo F d hc (K2 hc)
theorem Run.icmpYes (F : Fx p c meth bytes ml ret nm) {cd : ClassFile.Cond} {x y : Int32} {o : Int} {t : Nat} (d : Dc bytes pc (.if_icmp cd o) 3 nx) (ht : (pc : Int) + o = (t : Int)) (hc : if_icmp.holds cd x y = true)
    (K : Run Z n0 p l e R s own m args below meth c Q h k n Ls t L st) : Run Z n0 p l e R s own m args below meth c Q h k n Ls pc L (.int y :: .int x :: st) := by
  have hd := hbD F d
  exact Run.pure (fun T u hA s => XS.icmpYes (g := mkF m pc L.toArray (.int y :: .int x :: st)) hA F.1 rfl (pc' := t) rfl hd rfl hc (by rw [ht]; exact Int.natCast_nonneg _) (by rw [ht]; rfl) s) K
theorem Run.icmpNo (F : Fx p c meth bytes ml ret nm) {cd : ClassFile.Cond} {x y : Int32} {o : Int} (d : Dc bytes pc (.if_icmp cd o) 3 nx) (hc : if_icmp.holds cd x y = false)
    (K : Run Z n0 p l e R s own m args below meth c Q h k n Ls nx L st) : Run Z n0 p l e R s own m args below meth c Q h k n Ls pc L (.int y :: .int x :: st) := by
  have hd := hbD F d; obtain ⟨-, rfl⟩ := d
  exact Run.pure (fun T u hA s => XS.icmpNo (g := mkF m pc L.toArray (.int y :: .int x :: st)) hA F.1 rfl hd rfl hc s) K
theorem Run.icmp (F : Fx p c meth bytes ml ret nm) {cd : ClassFile.Cond} {x y : Int32} {o : Int} {t : Nat} (d : Dc bytes pc (.if_icmp cd o) 3 nx) (ht : (pc : Int) + o = (t : Int))
    (K1 : if_icmp.holds cd x y = true → Run Z n0 p l e R s own m args below meth c Q h k n Ls t L st) (K2 : if_icmp.holds cd x y = false → Run Z n0 p l e R s own m args below meth c Q h k n Ls nx L st) : Run Z n0 p l e R s own m args below meth c Q h k n Ls pc L (.int y :: .int x :: st) := by
  cases hc : if_icmp.holds cd x y with
  | true => exact Run.icmpYes F d ht hc (K1 hc)
  | false => exact Run.icmpNo F d hc (K2 hc)
theorem Run.ifnullYes (F : Fx p c meth bytes ml ret nm) {o : Int} {t : Nat} (d : Dc bytes pc (.ifnull o) 3 nx) (ht : (pc : Int) + o = (t : Int))
    (K : Run Z n0 p l e R s own m args below meth c Q h k n Ls t L st) : Run Z n0 p l e R s own m args below meth c Q h k n Ls pc L (.null :: st) := by
  have hd := hbD F d
  exact Run.pure (fun T u hA s => XS.ifnullYes (g := mkF m pc L.toArray (.null :: st)) hA F.1 rfl (pc' := t) rfl hd rfl (by rw [ht]; exact Int.natCast_nonneg _) (by rw [ht]; rfl) s) K
theorem Run.ifnullNo (F : Fx p c meth bytes ml ret nm) {o : Int} {b : Nat} (d : Dc bytes pc (.ifnull o) 3 nx)
    (K : Run Z n0 p l e R s own m args below meth c Q h k n Ls nx L st) : Run Z n0 p l e R s own m args below meth c Q h k n Ls pc L (.ref b :: st) := by
  have hd := hbD F d; obtain ⟨-, rfl⟩ := d
  exact Run.pure (fun T u hA s => XS.ifnullNo (g := mkF m pc L.toArray (.ref b :: st)) hA F.1 rfl hd rfl s) K
theorem Run.ifnonnullYes (F : Fx p c meth bytes ml ret nm) {o : Int} {t : Nat} {b : Nat} (d : Dc bytes pc (.ifnonnull o) 3 nx) (ht : (pc : Int) + o = (t : Int))
    (K : Run Z n0 p l e R s own m args below meth c Q h k n Ls t L st) : Run Z n0 p l e R s own m args below meth c Q h k n Ls pc L (.ref b :: st) := by
  have hd := hbD F d
  exact Run.pure (fun T u hA s => XT.ifnonnullYes (g := mkF m pc L.toArray (.ref b :: st)) hA F.1 rfl (pc' := t) rfl hd rfl (by rw [ht]; exact Int.natCast_nonneg _) (by rw [ht]; rfl) s) K
theorem Run.ifnonnullNo (F : Fx p c meth bytes ml ret nm) {o : Int} (d : Dc bytes pc (.ifnonnull o) 3 nx)
    (K : Run Z n0 p l e R s own m args below meth c Q h k n Ls nx L st) : Run Z n0 p l e R s own m args below meth c Q h k n Ls pc L (.null :: st) := by
  have hd := hbD F d; obtain ⟨-, rfl⟩ := d
  exact Run.pure (fun T u hA s => XT.ifnonnullNo (g := mkF m pc L.toArray (.null :: st)) hA F.1 rfl hd rfl s) K
theorem Run.acmpYes (F : Fx p c meth bytes ml ret nm) {cd : ACond} {x y : Value} {o : Int} {t : Nat} {b : Bool} (d : Dc bytes pc (.if_acmp cd o) 3 nx) (ht : (pc : Int) + o = (t : Int)) (hx : x.isRef = true) (hy : y.isRef = true) (hq : decide (x = y) = b) (hb : acV cd b = true)
    (K : Run Z n0 p l e R s own m args below meth c Q h k n Ls t L st) : Run Z n0 p l e R s own m args below meth c Q h k n Ls pc L (y :: x :: st) := by
  have hd := hbD F d
  exact Run.still (fun T vm0 locs X eT hZ hown u s => Jvm.RoadKit.acmp (g := mkF m pc L.toArray (y :: x :: st)) X F.1 rfl hx hy (pc0 := pc) (pc' := t) (same := b) rfl hd rfl hq (by rw [ht]; exact Int.natCast_nonneg _) (by rw [if_pos hb, ht]; rfl) s) K
theorem Run.acmpNo (F : Fx p c meth bytes ml ret nm) {cd : ACond} {x y : Value} {o : Int} {t : Nat} {b : Bool} (d : Dc bytes pc (.if_acmp cd o) 3 nx) (ht : (pc : Int) + o = (t : Int)) (hx : x.isRef = true) (hy : y.isRef = true) (hq : decide (x = y) = b) (hb : acV cd b = false)
    (K : Run Z n0 p l e R s own m args below meth c Q h k n Ls nx L st) : Run Z n0 p l e R s own m args below meth c Q h k n Ls pc L (y :: x :: st) := by
  have hd := hbD F d; obtain ⟨-, rfl⟩ := d
  exact Run.still (fun T vm0 locs X eT hZ hown u s => Jvm.RoadKit.acmp (g := mkF m pc L.toArray (y :: x :: st)) X F.1 rfl hx hy (pc0 := pc) (pc' := pc + 3) (same := b) rfl hd rfl hq (by rw [ht]; exact Int.natCast_nonneg _) (by rw [if_neg (by simp [hb])]) s) K
theorem Run.ldcInt (F : Fx p c meth bytes ml ret nm) {i : Nat} {v : Int32} (w : (Cond.constant own i v).before a0 Z = true) (d : Dc bytes pc (.ldc i) 2 nx)
    (K : Run Z n0 p l e R s own m args below meth c Q h k n Ls nx L (.int v :: st)) : Run Z n0 p l e R s own m args below meth c Q h k n Ls pc L st := by
  have hd := hbD F d; obtain ⟨-, rfl⟩ := d
  exact Run.still (fun T vm0 locs X eT hZ hown u s => X.ldcInt F.1 hown (mvT hZ w) (g := mkF m pc L.toArray st) rfl hd u s) K
theorem Run.ldcwInt (F : Fx p c meth bytes ml ret nm) {i : Nat} {v : Int32} (w : (Cond.constant own i v).before a0 Z = true) (d : Dc bytes pc (.ldc_w i) 3 nx)
    (K : Run Z n0 p l e R s own m args below meth c Q h k n Ls nx L (.int v :: st)) : Run Z n0 p l e R s own m args below meth c Q h k n Ls pc L st := by
  have hd := hbD F d; obtain ⟨-, rfl⟩ := d
  exact Run.still (fun T vm0 locs X eT hZ hown u s => X.ldcwInt F.1 hown (mvT hZ w) (g := mkF m pc L.toArray st) rfl hd u s) K
/-! arrays -/
/-- the array at a holds vs -/
def Av (Z : State) (h : Heap) (a : Nat) (ty : FieldType) (vs : List Value) : Prop := ∃ c : Cell, Arr Z h a c ty ∧ c.slots.toList = vs ∧ vs.length < 2 ^ 31 ∧ ∀ v ∈ vs, fits ty v = true
theorem Av.lt {a : Nat} {ty : FieldType} {vs : List Value} (A : Av Z h a ty vs) : a < h.size := by obtain ⟨c, A, -⟩ := A; exact A.lt
theorem Av.keep {h' : Heap} {ws : List Addr} {a : Nat} {ty : FieldType} {vs : List Value} (A : Av Z h a ty vs) (K : Keep h h' ws) (q : a ∉ ws) : Av Z h' a ty vs := by
  obtain ⟨c, A, r⟩ := A; exact ⟨c, ⟨K.2.1 a c A.1 q, A.2⟩, r⟩
theorem Av.len {a : Nat} {ty : FieldType} {vs : List Value} (A : Av Z h a ty vs) : vs.length < 2 ^ 31 := by obtain ⟨c, -, -, r, -⟩ := A; exact r
theorem Av.fit {a : Nat} {ty : FieldType} {vs : List Value} (A : Av Z h a ty vs) : ∀ v ∈ vs, fits ty v = true := by obtain ⟨c, -, -, -, r⟩ := A; exact r
theorem Run.arrlen (F : Fx p c meth bytes ml ret nm) {a : Nat} {ty : FieldType} {vs : List Value} (A : Av Z h a ty vs) (d : Dc bytes pc .arraylength 1 nx)
    (K : Run Z n0 p l e R s own m args below meth c Q h k n Ls nx L (.int (Int32.ofNat vs.length) :: st)) : Run Z n0 p l e R s own m args below meth c Q h k n Ls pc L (.ref a :: st) := by
  have hd := hbD F d; obtain ⟨-, rfl⟩ := d
  obtain ⟨cl, A, rfl, -⟩ := A
  refine Run.still (fun T vm0 locs X eT hZ hown u s => X.arraylength F.1 (by rw [eT]; exact A.1) (State.isArrayOf_alike hZ.alike A.2.1) (g := mkF m pc L.toArray (.ref a :: st)) rfl rfl hd u ?_) K
  have q : cl.slots.toList.length = cl.slots.size := by simp
  rw [q] at s
  exact s
theorem inB {vs : List Value} {j : Int32} {i : Nat} {cl : Cell} (e : cl.slots.toList = vs) (hj : ¬ j < 0) (hi : j.toNatClampNeg = i) (hlt : i < vs.length) : ¬ (j < 0 ∨ cl.slots.size ≤ j.toNatClampNeg) := by
  subst e
  have q : cl.slots.toList.length = cl.slots.size := by simp
  rintro (y | y)
  · exact hj y
  · omega
theorem atB {vs : List Value} {j : Int32} {i : Nat} {cl : Cell} {v : Value} (e : cl.slots.toList = vs) (hi : j.toNatClampNeg = i) (hv : vs[i]? = some v) : cl.slots[j.toNatClampNeg]? = some v := by
  subst e hi; simpa using hv
theorem Run.caload (F : Fx p c meth bytes ml ret nm) {a : Nat} {vs : List Value} {j : Int32} {i : Nat} {v : Value} (A : Av Z h a .char vs) (hj : ¬ j < 0) (hi : j.toNatClampNeg = i) (hv : vs[i]? = some v) (d : Dc bytes pc .caload 1 nx)
    (K : Run Z n0 p l e R s own m args below meth c Q h k n Ls nx L (v :: st)) : Run Z n0 p l e R s own m args below meth c Q h k n Ls pc L (.int j :: .ref a :: st) := by
  have hd := hbD F d; obtain ⟨-, rfl⟩ := d
  obtain ⟨cl, A, q, -⟩ := A
  exact Run.still (fun T vm0 locs X eT hZ hown u s => X.caload F.1 (by rw [eT]; exact A.1) (State.isArrayOf_alike hZ.alike A.2.1) A.2.2 (inB q hj hi (List.getElem?_eq_some_iff.mp hv).1) (atB q hi hv) (g := mkF m pc L.toArray (.int j :: .ref a :: st)) rfl rfl hd u s) K
theorem Run.baload (F : Fx p c meth bytes ml ret nm) {a : Nat} {vs : List Value} {j : Int32} {i : Nat} {v : Value} (A : Av Z h a .byte vs) (hj : ¬ j < 0) (hi : j.toNatClampNeg = i) (hv : vs[i]? = some v) (d : Dc bytes pc .baload 1 nx)
    (K : Run Z n0 p l e R s own m args below meth c Q h k n Ls nx L (v :: st)) : Run Z n0 p l e R s own m args below meth c Q h k n Ls pc L (.int j :: .ref a :: st) := by
  have hd := hbD F d; obtain ⟨-, rfl⟩ := d
  obtain ⟨cl, A, q, -⟩ := A
  exact Run.still (fun T vm0 locs X eT hZ hown u s => X.baloadBytes F.1 (by rw [eT]; exact A.1) (State.isArrayOf_alike hZ.alike A.2.1) A.2.2 (inB q hj hi (List.getElem?_eq_some_iff.mp hv).1) (atB q hi hv) (g := mkF m pc L.toArray (.int j :: .ref a :: st)) rfl rfl hd u s) K
theorem Run.iaload (F : Fx p c meth bytes ml ret nm) {a : Nat} {vs : List Value} {j : Int32} {i : Nat} {v : Value} (A : Av Z h a .int vs) (hj : ¬ j < 0) (hi : j.toNatClampNeg = i) (hv : vs[i]? = some v) (d : Dc bytes pc .iaload 1 nx)
    (K : Run Z n0 p l e R s own m args below meth c Q h k n Ls nx L (v :: st)) : Run Z n0 p l e R s own m args below meth c Q h k n Ls pc L (.int j :: .ref a :: st) := by
  have hd := hbD F d; obtain ⟨-, rfl⟩ := d
  obtain ⟨cl, A, q, -⟩ := A
  exact Run.still (fun T vm0 locs X eT hZ hown u s => X.iaload F.1 (by rw [eT]; exact A.1) (State.isArrayOf_alike hZ.alike A.2.1) A.2.2 (inB q hj hi (List.getElem?_eq_some_iff.mp hv).1) (atB q hi hv) (g := mkF m pc L.toArray (.int j :: .ref a :: st)) rfl rfl hd u s) K
theorem Run.aaload (F : Fx p c meth bytes ml ret nm) {a : Nat} {ty : FieldType} {vs : List Value} {j : Int32} {i : Nat} {v : Value} (A : Av Z h a ty vs) (ht : ty.isReference = true) (hj : ¬ j < 0) (hi : j.toNatClampNeg = i) (hv : vs[i]? = some v) (d : Dc bytes pc .aaload 1 nx)
    (K : Run Z n0 p l e R s own m args below meth c Q h k n Ls nx L (v :: st)) : Run Z n0 p l e R s own m args below meth c Q h k n Ls pc L (.int j :: .ref a :: st) := by
  have hd := hbD F d; obtain ⟨-, rfl⟩ := d
  obtain ⟨cl, A, q, -⟩ := A
  exact Run.still (fun T vm0 locs X eT hZ hown u s => X.aaload F.1 (by rw [eT]; exact A.1) (State.isArrayOf_alike hZ.alike A.2.1) ht A.2.2 (inB q hj hi (List.getElem?_eq_some_iff.mp hv).1) (atB q hi hv) (g := mkF m pc L.toArray (.int j :: .ref a :: st)) rfl rfl hd u s) K
/-- a write: what it leaves of the walk's bearings -/
theorem WS.wrote {vm0 : Vm} {locs : List Loc} {k0 : Nat} {h' : Heap} {a : Nat} {sl : Nat} {v : Value} {T' : State} (X' : Stand p l e R (s.setVm vm0) m args below meth c T' (locs ++ [⟨a, sl⟩]) k n) (e' : T'.heap = h') (W : Wr h h' a sl v) (g : n0 ≤ a)
    (hS : s.Since vm0 k0) (hk : k0 ≤ h.size) (hZ : Z.Warmed39 (s.setVm vm0).vm) (hown : (s.setVm vm0).vm.findClass own = some m.cls) (N : Fr n0 locs) (hO : Old Z n0 h) (I : Itn Z vm0 Ls) (kn : Kn s.vm below) : WS Z n0 p l e R s own m args below meth c h' k n Ls T' :=
  ⟨vm0, _, k0, X', e', hS, by rw [W.size]; exact hk, hZ, hown, Fr.snoc X' N g, hO.wr W g, I, kn⟩
theorem Av.set {h' : Heap} {a : Nat} {ty : FieldType} {vs : List Value} {j : Int32} {i : Nat} {v : Value} (A : Av Z h a ty vs) (hi : j.toNatClampNeg = i) (hf : fits ty v = true) (W : Wr h h' a j.toNatClampNeg v) : Av Z h' a ty (vs.set i v) := by
  obtain ⟨cl, A, rfl, q2, q3⟩ := A
  subst hi
  refine ⟨_, A.same W, by simp [Cell.setSlot], by simpa using q2, fun w hw => ?_⟩
  rcases List.mem_or_eq_of_mem_set hw with y | y
  · exact q3 w y
  · exact y ▸ hf
theorem Run.castore (F : Fx p c meth bytes ml ret nm) {a : Nat} {vs : List Value} {j x y : Int32} {i : Nat} (A : Av Z h a .char vs) (g : n0 ≤ a) (hj : ¬ j < 0) (hi : j.toNatClampNeg = i) (hlt : i < vs.length) (hy : nar .char x = y) (d : Dc bytes pc .castore 1 nx)
    (K : ∀ h', Wr h h' a i (.int y) → Keep h h' [a] → h'.size = h.size → Av Z h' a .char (vs.set i (.int y)) → Run Z n0 p l e R s own m args below meth c Q h' k n Ls nx L st) : Run Z n0 p l e R s own m args below meth c Q h k n Ls pc L (.int x :: .int j :: .ref a :: st) := fun T W => by
  have hd := hbD F d; obtain ⟨-, rfl⟩ := d
  obtain ⟨vm0, locs, k0, X, eT, hS, hk, hZ, hown, N, hO, I, kn⟩ := W
  have A' := A
  obtain ⟨cl, A1, q, -⟩ := A
  obtain ⟨T', h', X', e', W', st'⟩ := stC X F.1 hZ eT A1 (j := j) (x := x) (inB q hj hi hlt) (g := mkF m pc L.toArray (.int x :: .int j :: .ref a :: st)) rfl rfl hd
  rw [hy] at W'
  obtain ⟨u, o, r1, r⟩ := K h' (hi ▸ W') (Keep.of_wr W') W'.size (A'.set hi (hy ▸ fits_nar_char x) W') T' (WS.wrote X' e' W' g hS hk hZ hown N hO I kn)
  exact ⟨u, o, st' _ r1, r⟩
theorem Run.bastore (F : Fx p c meth bytes ml ret nm) {a : Nat} {vs : List Value} {j x y : Int32} {i : Nat} (A : Av Z h a .byte vs) (g : n0 ≤ a) (hj : ¬ j < 0) (hi : j.toNatClampNeg = i) (hlt : i < vs.length) (hy : nar .byte x = y) (d : Dc bytes pc .bastore 1 nx)
    (K : ∀ h', Wr h h' a i (.int y) → Keep h h' [a] → h'.size = h.size → Av Z h' a .byte (vs.set i (.int y)) → Run Z n0 p l e R s own m args below meth c Q h' k n Ls nx L st) : Run Z n0 p l e R s own m args below meth c Q h k n Ls pc L (.int x :: .int j :: .ref a :: st) := fun T W => by
  have hd := hbD F d; obtain ⟨-, rfl⟩ := d
  obtain ⟨vm0, locs, k0, X, eT, hS, hk, hZ, hown, N, hO, I, kn⟩ := W
  have A' := A
  obtain ⟨cl, A1, q, -⟩ := A
  obtain ⟨T', h', X', e', W', st'⟩ := stB X F.1 hZ eT A1 (j := j) (x := x) (inB q hj hi hlt) (g := mkF m pc L.toArray (.int x :: .int j :: .ref a :: st)) rfl rfl hd
  rw [hy] at W'
  obtain ⟨u, o, r1, r⟩ := K h' (hi ▸ W') (Keep.of_wr W') W'.size (A'.set hi (hy ▸ fits_nar_byte x) W') T' (WS.wrote X' e' W' g hS hk hZ hown N hO I kn)
  exact ⟨u, o, st' _ r1, r⟩
theorem Run.iastore (F : Fx p c meth bytes ml ret nm) {a : Nat} {vs : List Value} {j x : Int32} {i : Nat} (A : Av Z h a .int vs) (g : n0 ≤ a) (hj : ¬ j < 0) (hi : j.toNatClampNeg = i) (hlt : i < vs.length) (d : Dc bytes pc .iastore 1 nx)
    (K : ∀ h', Wr h h' a i (.int x) → Keep h h' [a] → h'.size = h.size → Av Z h' a .int (vs.set i (.int x)) → Run Z n0 p l e R s own m args below meth c Q h' k n Ls nx L st) : Run Z n0 p l e R s own m args below meth c Q h k n Ls pc L (.int x :: .int j :: .ref a :: st) := fun T W => by
  have hd := hbD F d; obtain ⟨-, rfl⟩ := d
  obtain ⟨vm0, locs, k0, X, eT, hS, hk, hZ, hown, N, hO, I, kn⟩ := W
  have A' := A
  obtain ⟨cl, A1, q, -⟩ := A
  obtain ⟨T', h', X', e', W', st'⟩ := stI X F.1 hZ eT A1 (j := j) (x := x) (inB q hj hi hlt) (g := mkF m pc L.toArray (.int x :: .int j :: .ref a :: st)) rfl rfl hd
  obtain ⟨u, o, r1, r⟩ := K h' (hi ▸ W') (Keep.of_wr W') W'.size (A'.set hi rfl W') T' (WS.wrote X' e' W' g hS hk hZ hown N hO I kn)
  exact ⟨u, o, st' _ r1, r⟩
theorem Keep.ofExt {h h' : Heap} (E : Ext h h') : Keep h h' [] := (Keep.refl h []).ext E
theorem Run.newarray (F : Fx p c meth bytes ml ret nm) {aty : ArrayType} {z : Int32} {len : Nat} (w : (Cond.arrayClass (newarray.typeOf aty)).before a0 Z = true) (hz : ¬ z < 0) (hlen : z.toNatClampNeg = len) (cap : Nat) (hcap : len ≤ cap) (hb : Nat.ble (cap * 8) 536870912 = true) (hc : k + 1 ≤ R.cells) (hl : n + cap ≤ R.slots) (d : Dc bytes pc (.newarray aty) 2 nx)
    (K : ∀ h' a, a = h.size → Keep h h' [] → a < h'.size → Av Z h' a (newarray.typeOf aty) (List.replicate len (defaultValue (newarray.typeOf aty))) → Run Z n0 p l e R s own m args below meth c Q h' (k + 1) (n + cap) Ls nx L (.ref a :: st)) : Run Z n0 p l e R s own m args below meth c Q h k n Ls pc L (.int z :: st) := fun T W => by
  have hd := hbD F d; obtain ⟨-, rfl⟩ := d
  obtain ⟨vm0, locs, k0, X, eT, hS, hk, hZ, hown, N, hO, I, kn⟩ := W
  subst hlen
  obtain ⟨T', h', cA, X', e', E', A', st'⟩ := newP X F.1 hZ w eT (g := mkF m pc L.toArray (.int z :: st)) rfl hd rfl hz hcap (Nat.le_of_ble_eq_true hb) hc hl
  obtain ⟨u, o, r1, r⟩ := K h' h.size rfl (Keep.ofExt E') A'.lt ⟨_, A', by simp [newA], by simpa using (back32 hz).2, fun v hv => by rw [List.eq_of_mem_replicate hv]; cases aty <;> rfl⟩ T' ⟨vm0, locs, k0, X', e', hS, Nat.le_trans hk E'.1, hZ, hown, N, hO.ext E', I, kn⟩
  exact ⟨u, o, st' _ r1, r⟩
/-! objects -/
theorem Run.getfield (F : Fx p c meth bytes ml ret nm) {R0 O f ds host : String} {i : Nat} {a : Nat} {v : Value} (w : (Cond.fieldLink own i R0 f ds).before a0 Z = true ∨ (Cond.fieldLinkNest own i R0 f ds host).before a0 Z = true) (via : Via Z R0 O f ds) (Fd : Fld Z h a O f ds v) (d : Dc bytes pc (.getfield i) 3 nx)
    (K : Run Z n0 p l e R s own m args below meth c Q h k n Ls nx L (v :: st)) : Run Z n0 p l e R s own m args below meth c Q h k n Ls pc L (.ref a :: st) := fun T W => by
  have hd := hbD F d; obtain ⟨-, rfl⟩ := d
  obtain ⟨vm0, locs, k0, X, eT, hS, hk, hZ, hown, N, hO, I, kn⟩ := W
  obtain ⟨T', X', e', st'⟩ := getF X F.1 hZ hown w via eT Fd (g := mkF m pc L.toArray (.ref a :: st)) rfl rfl hd
  obtain ⟨u, o, r1, r⟩ := K T' ⟨vm0, locs, k0, X', e', hS, hk, hZ, hown, N, hO, I, kn⟩
  exact ⟨u, o, st' _ r1, r⟩
theorem Run.getstatic (F : Fx p c meth bytes ml ret nm) {R0 O f ds : String} {i : Nat} {v : Value} (w : (Cond.fieldLink own i R0 f ds).before a0 Z = true) (via : Via Z R0 O f ds) (Fd : Sta Z Z.heap O f ds v) (d : Dc bytes pc (.getstatic i) 3 nx)
    (K : Run Z n0 p l e R s own m args below meth c Q h k n Ls nx L (v :: st)) : Run Z n0 p l e R s own m args below meth c Q h k n Ls pc L st := fun T W => by
  have hd := hbD F d; obtain ⟨-, rfl⟩ := d
  obtain ⟨vm0, locs, k0, X, eT, hS, hk, hZ, hown, N, hO, I, kn⟩ := W
  obtain ⟨T', X', e', st'⟩ := getS X F.1 hZ (host := "") hown w via eT (Fd.ext hO.2) (g := mkF m pc L.toArray st) rfl hd
  obtain ⟨u, o, r1, r⟩ := K T' ⟨vm0, locs, k0, X', e', hS, hk, hZ, hown, N, hO, I, kn⟩
  exact ⟨u, o, st' _ r1, r⟩
theorem Run.putfield (F : Fx p c meth bytes ml ret nm) {R0 O f ds C : String} {i kk : Nat} {a : Nat} {v v' old : Value} {ty : FieldType} (w : (Cond.fieldLink own i R0 f ds).before a0 Z = true) (via : Via Z R0 O f ds) (Fd : Fld Z h a O f ds old) (E : Exa Z h a C) (g : n0 ≤ a)
    (Lw : (Cond.lays C O f ds).before a0 Z = true ∨ ((Cond.laysFinal C O f ds).before a0 Z = true ∧ own = O ∧ nm = "<init>")) (wi : (Cond.instantiable C kk).before a0 Z = true) (hty : parseFieldDescriptor ds = some ty) (hn : narrow ty v = v') (hf : fits ty v' = true) (d : Dc bytes pc (.putfield i) 3 nx)
    (K : ∀ h', Wr h h' a (Jvm.RoadKit.slotOf Z O f ds) v' → Keep h h' [a] → h'.size = h.size → Fld Z h' a O f ds v' → Run Z n0 p l e R s own m args below meth c Q h' k n Ls nx L st) : Run Z n0 p l e R s own m args below meth c Q h k n Ls pc L (v :: .ref a :: st) := fun T W => by
  have hd := hbD F d; obtain ⟨-, rfl⟩ := d
  obtain ⟨vm0, locs, k0, X, eT, hS, hk, hZ, hown, N, hO, I, kn⟩ := W
  have Lw' : (Cond.lays C O f ds).before a0 Z = true ∨ ((Cond.laysFinal C O f ds).before a0 Z = true ∧ own = O ∧ meth.name = "<init>") := by rw [F.2.2.2.2.2]; exact Lw
  obtain ⟨T', h', X', e', W', st'⟩ := putFN X F.1 hZ hown w via eT Fd E Lw' wi hty hn hf (g := mkF m pc L.toArray (v :: .ref a :: st)) rfl rfl hd
  obtain ⟨u, o, r1, r⟩ := K h' W' (Keep.of_wr W') W'.size (Fd.same W') T' (WS.wrote X' e' W' g hS hk hZ hown N hO I kn)
  exact ⟨u, o, st' _ r1, r⟩
theorem Run.new (F : Fx p c meth bytes ml ret nm) {C : String} {i sz : Nat} (w : (Cond.classLink own i C).before a0 Z = true) (wi : (Cond.instantiable C sz).before a0 Z = true) (wz : (Cond.initialized C).before a0 Z = true) (hc : k + 1 ≤ R.cells) (hl : n + sz ≤ R.slots) (d : Dc bytes pc (.new i) 3 nx)
    (K : ∀ h' a, a = h.size → Keep h h' [] → a < h'.size → Exa Z h' a C → (∀ {O f ds : String} {ty : FieldType}, Laid Z a0 C O f ds → parseFieldDescriptor ds = some ty → Fld Z h' a O f ds (defaultValue ty)) → Unt h' a → Run Z n0 p l e R s own m args below meth c Q h' (k + 1) (n + sz) Ls nx L (.ref a :: st)) : Run Z n0 p l e R s own m args below meth c Q h k n Ls pc L st := fun T W => by
  have hd := hbD F d; obtain ⟨-, rfl⟩ := d
  obtain ⟨vm0, locs, k0, X, eT, hS, hk, hZ, hown, N, hO, I, kn⟩ := W
  obtain ⟨T', h', X', e', E', A', D', U', st'⟩ := newO X F.1 hZ hown w wi wz eT (g := mkF m pc L.toArray st) rfl hd hc hl
  obtain ⟨u, o, r1, r⟩ := K h' h.size rfl (Keep.ofExt E') A'.lt A' D' U' T' ⟨vm0, locs, k0, X', e', hS, Nat.le_trans hk E'.1, hZ, hown, N, hO.ext E', I, kn⟩
  exact ⟨u, o, st' _ r1, r⟩
theorem Run.checkcast (F : Fx p c meth bytes ml ret nm) {C : String} {i : Nat} {a : Nat} (w : (Cond.classLink own i C).before a0 Z = true) (E : Ins Z h a C true) (d : Dc bytes pc (.checkcast i) 3 nx)
    (K : Run Z n0 p l e R s own m args below meth c Q h k n Ls nx L (.ref a :: st)) : Run Z n0 p l e R s own m args below meth c Q h k n Ls pc L (.ref a :: st) := fun T W => by
  have hd := hbD F d; obtain ⟨-, rfl⟩ := d
  obtain ⟨vm0, locs, k0, X, eT, hS, hk, hZ, hown, N, hO, I, kn⟩ := W
  obtain ⟨T', X', e', st'⟩ := castY X F.1 hZ hown w eT E (g := mkF m pc L.toArray (.ref a :: st)) rfl rfl hd
  obtain ⟨u, o, r1, r⟩ := K T' ⟨vm0, locs, k0, X', e', hS, hk, hZ, hown, N, hO, I, kn⟩
  exact ⟨u, o, st' _ r1, r⟩
theorem Run.checkcastNull (F : Fx p c meth bytes ml ret nm) {i : Nat} (d : Dc bytes pc (.checkcast i) 3 nx)
    (K : Run Z n0 p l e R s own m args below meth c Q h k n Ls nx L (.null :: st)) : Run Z n0 p l e R s own m args below meth c Q h k n Ls pc L (.null :: st) := by
  have hd := hbD F d; obtain ⟨-, rfl⟩ := d
  exact Run.still (fun T vm0 locs X eT hZ hown u s => X.checkcastNull F.1 (g := mkF m pc L.toArray (.null :: st)) rfl rfl hd u s) K
theorem Run.instYes (F : Fx p c meth bytes ml ret nm) {C : String} {i : Nat} {a : Nat} (w : (Cond.classLink own i C).before a0 Z = true) (E : Ins Z h a C true) (d : Dc bytes pc (.instanceof i) 3 nx)
    (K : Run Z n0 p l e R s own m args below meth c Q h k n Ls nx L (.int 1 :: st)) : Run Z n0 p l e R s own m args below meth c Q h k n Ls pc L (.ref a :: st) := fun T W => by
  have hd := hbD F d; obtain ⟨-, rfl⟩ := d
  obtain ⟨vm0, locs, k0, X, eT, hS, hk, hZ, hown, N, hO, I, kn⟩ := W
  obtain ⟨T', X', e', st'⟩ := instY X F.1 hZ hown w eT E (g := mkF m pc L.toArray (.ref a :: st)) rfl rfl hd
  obtain ⟨u, o, r1, r⟩ := K T' ⟨vm0, locs, k0, X', e', hS, hk, hZ, hown, N, hO, I, kn⟩
  exact ⟨u, o, st' _ r1, r⟩
theorem Run.instNull (F : Fx p c meth bytes ml ret nm) {i : Nat} (d : Dc bytes pc (.instanceof i) 3 nx)
    (K : Run Z n0 p l e R s own m args below meth c Q h k n Ls nx L (.int 0 :: st)) : Run Z n0 p l e R s own m args below meth c Q h k n Ls pc L (.null :: st) := by
  have hd := hbD F d; obtain ⟨-, rfl⟩ := d
  exact Run.still (fun T vm0 locs X eT hZ hown u s => X.instanceofNull F.1 (g := mkF m pc L.toArray (.null :: st)) rfl rfl hd u s) K
theorem Run.objInit (F : Fx p c meth bytes ml ret nm) {i : Nat} {a : Nat} (w1 : (Cond.methodLink own i Lib.objectInit).before a0 Z = true) (w2 : (Cond.instanceMethod Lib.objectInit).before a0 Z = true) (w3 : (Cond.code Lib.objectInit ⟨#[0xb1]⟩ 1 none).before a0 Z = true)
    (hsz : L.length = ml) (hf : Nat.ble 1 R.frames = true) (hl : Nat.ble ((st.map fun v => v.category).sum + 12) R.locals = true) (d : Dc bytes pc (.invokespecial i) 3 nx)
    (K : Run Z n0 p l e R s own m args below meth c Q h k n Ls nx L st) : Run Z n0 p l e R s own m args below meth c Q h k n Ls pc L (.ref a :: st) := fun T W => by
  have hd := hbD F d; obtain ⟨-, rfl⟩ := d
  obtain ⟨vm0, locs, k0, X, eT, hS, hk, hZ, hown, N, hO, I, kn⟩ := W
  obtain ⟨T', X', e', st'⟩ := initO X F.1 hZ hown w1 w2 w3 eT (g := mkF m pc L.toArray (.ref a :: st)) rfl (by show L.toArray.size = _; rw [F.2.2.1, ← hsz]; simp) rfl hd (Nat.le_of_ble_eq_true hf) (W := (st.map fun v => v.category).sum) (by show 2 * 0 + _ ≤ _; omega) (Nat.le_of_ble_eq_true hl)
  obtain ⟨u, o, r1, r⟩ := K T' ⟨vm0, locs, k0, X', e', hS, hk, hZ, hown, N, hO, I, kn⟩
  exact ⟨u, o, st' _ r1, r⟩
/-! returns -/
theorem Run.ended {v : Option Value} (hv : meth.sig.returnType = none → v = none) (hlk : meth.locks = false) (hc : k ≤ R.cells) (hl : n ≤ R.slots) (hQ : Q v h Ls)
    (H : ∀ T vm0 locs, Stand p l e R (s.setVm vm0) m args below meth c T locs k n → ∀ fs, (∀ (f : JFrame) (acts : List Action), f.method = m → f.locked = none → f.entered = [] → (doReturn e (T.setTop f) acts v).1 = T.setFrames fs) → Steps p.tables e below (T.setTop (mkF m pc L.toArray st)) (T.setFrames fs)) :
    Run Z n0 p l e R s own m args below meth c Q h k n Ls pc L st := fun T W => by
  obtain ⟨vm0, locs, k0, X, eT, hS, hk, hZ, hown, N, hO, I, kn⟩ := W
  have hi : T.vm.interned = vm0.interned := X.warmed.interned_eq
  obtain ⟨fs, h1, h2, h3, h4⟩ := X.leaveW hS (by rw [eT]; exact hk) hv hlk
  refine ⟨_, _, H T vm0 locs X fs h1, h2, h3, v, locs, Ls, rfl, ?_, ?_, I.eq hi, N, h4.1, h4.2.1, h4.2.2.1, h4.2.2.2.mono hc hl⟩
  · show Q v T.heap Ls; rw [eT]; exact hQ
  · show Old Z n0 T.heap; rw [eT]; exact hO
theorem Run.ireturn {t : FieldType} (F : Fx p c meth bytes ml (some t) nm) {z : Int32} {Q : Value → Heap → Lits → Prop} (ht : t = .int ∨ t = .boolean ∨ t = .byte ∨ t = .char ∨ t = .short) (hn : narrow t (.int z) = .int z) (hc : k ≤ R.cells) (hl : n ≤ R.slots) (d : Dc bytes pc .ireturn 1 nx) (hQ : Q (.int z) h Ls) :
    Run Z n0 p l e R s own m args below meth c (RV Q) h k n Ls pc L (.int z :: st) :=
  Run.ended (v := some (.int z)) (fun q => by rw [F.2.2.2.1] at q; cases q) F.2.2.2.2.1 hc hl ⟨_, rfl, hQ⟩ fun T vm0 locs X fs hr => retOut X F.1 F.2.2.2.1 hn (Or.inl ⟨rfl, ht, _, rfl⟩) (hbD F d) hr
theorem Run.areturn {t : FieldType} (F : Fx p c meth bytes ml (some t) nm) {v : Value} {Q : Value → Heap → Lits → Prop} (ht : t.isReference = true) (hv : v.isRef = true) (hc : k ≤ R.cells) (hl : n ≤ R.slots) (d : Dc bytes pc .areturn 1 nx) (hQ : Q v h Ls) :
    Run Z n0 p l e R s own m args below meth c (RV Q) h k n Ls pc L (v :: st) :=
  Run.ended (v := some v) (fun q => by rw [F.2.2.2.1] at q; cases q) F.2.2.2.2.1 hc hl ⟨_, rfl, hQ⟩ fun T vm0 locs X fs hr => retOut X F.1 F.2.2.2.1 (by rcases ref_cases hv with rfl | ⟨a, rfl⟩ <;> cases t <;> simp [FieldType.isReference] at ht <;> rfl) (Or.inr (Or.inr (Or.inr (Or.inr ⟨rfl, ht, hv⟩)))) (hbD F d) hr
theorem Run.return_ (F : Fx p c meth bytes ml none nm) {Q : Heap → Lits → Prop} (hc : k ≤ R.cells) (hl : n ≤ R.slots) (d : Dc bytes pc .return_ 1 nx) (hQ : Q h Ls) :
    Run Z n0 p l e R s own m args below meth c (RN Q) h k n Ls pc L [] :=
  Run.ended (v := none) (fun q => rfl) F.2.2.2.2.1 hc hl ⟨rfl, hQ⟩ fun T vm0 locs X fs hr => X.returnOut F.1 F.2.2.2.1 (hbD F d) hr
/-! calls -/
theorem Con.back {y : MethodName} {by' : ByteArray} {ml' : Nat} {ret' : Option FieldType} {rm : Room} {as : List Value} {Qy : Option Value → Heap → Lits → Prop} {len W : Nat} (C : Con l Z n0 y by' ml' ret' rm as h Ls [] Qy) (hZ : Z.Warmed39 s.vm) (I : Itn Z s.vm Ls) (kn : Kn s.vm below)
    (wc : (Cond.code y by' ml' ret').before a0 Z = true) (wz : (Cond.initialized y.cls).before a0 Z = true) (hf : rm.frames + 1 ≤ R.frames) (hl : W + (ml' + 11) + rm.locals ≤ R.locals) :
    BackS l R p e below s args y len W (fun A a => a = as.toArray ∧ A.U.heap = h ∧ A.cells + rm.cells ≤ R.cells ∧ A.slots + rm.slots ≤ R.slots)
      (fun A _ v B => ∃ L Ls', Qy v B.U.heap Ls' ∧ Old Z n0 B.U.heap ∧ Itn Z B.U.vm Ls' ∧ Fr n0 L ∧ B.locs = A.locs ++ L ∧ B.cells = A.cells + rm.cells ∧ B.slots = A.slots + rm.slots) :=
  BackS.of_freeWG (bytes := by') (maxL := ml') (ret := ret') (E := fun _ _ o t L k n => k = rm.cells ∧ n = rm.slots ∧ ∃ v Ls', o = .returned v ∧ Qy v t.heap Ls' ∧ Old Z n0 t.heap ∧ Itn Z t.vm Ls' ∧ Fr n0 L) C hf hl
    (fun m meth c A a Y hp => have hU : Z.Warmed39 A.U.vm := wtrans hZ Y.warmed
      ⟨by show (Cond.and _ .tt).before a A.U = true; rw [Cond.before_and, mv hU wc]; rfl, mv hU wc, mv hU wz, hp.2.2.1, hp.2.2.2⟩)
    (fun m meth c A a g mk Y hp => ⟨hp.1, wtrans hZ Y.warmed, hp.2.1, I.eq Y.warmed.interned_eq⟩)
    (fun m meth c A a g mk Y hp hg => by
      have e1 : (A.U.setTop g).frames = .java g :: below := by rw [State.frames_setTop' _ Y.here.top, Y.tail]
      rw [e1]
      exact (kn.alike Y.warmed.alike).push (by rw [hg]; exact Y.method'))
    (fun _ _ _ _ ⟨v, L, Ls', h1, h2, h3, h4, h5, h6⟩ => ⟨L, _, _, h6, rfl, rfl, v, Ls', h1, h2, h3, h4, h5⟩)
    (fun m meth c A a g mk v t L k n Y hp _ _ ⟨e1, e2, v', Ls', e3, e4, e5, e6, e7⟩ => by cases e3; subst e1 e2; exact ⟨L, Ls', e4, e5, e6, e7, rfl, rfl, rfl⟩)
theorem hyOf {C : String} (h : (C == "java/lang/invoke/MethodHandle" || C == "java/lang/invoke/VarHandle") = false) : C ≠ "java/lang/invoke/MethodHandle" ∧ C ≠ "java/lang/invoke/VarHandle" := by simpa using h
theorem Run.callStatic (F : Fx p c meth bytes ml ret nm) {i : Nat} {y : MethodName} {by' : ByteArray} {ml' : Nat} {ret' : Option FieldType} {rm : Room} {as : List Value} {Qy : Option Value → Heap → Lits → Prop} {sig : MethodDescriptor}
    (wl : (Cond.methodLink own i y).before a0 Z = true) (ws : (Cond.static y).before a0 Z = true) (wz : (Cond.initialized y.cls).before a0 Z = true) (wc : (Cond.code y by' ml' ret').before a0 Z = true)
    (C : Con l Z n0 y by' ml' ret' rm as h Ls [] Qy) (hy : (y.cls == "java/lang/invoke/MethodHandle" || y.cls == "java/lang/invoke/VarHandle") = false) (hsig : parseMethodDescriptor y.desc = some sig) (hlen : as.length = sig.parameters.length) (hsz : L.length = ml)
    (hf : Nat.ble (rm.frames + 1) R.frames = true) (hl : Nat.ble ((st.map fun v => v.category).sum + (ml' + 11) + rm.locals) R.locals = true) (hc : k + rm.cells ≤ R.cells) (hs : n + rm.slots ≤ R.slots) {st0 : List Value} (hst : st0 = as.reverse ++ st) (d : Dc bytes pc (.invokestatic i) 3 nx)
    (K : ∀ v h' Ls', Qy v h' Ls' → Old Z n0 h' → h.size ≤ h'.size → Run Z n0 p l e R s own m args below meth c Q h' (k + rm.cells) (n + rm.slots) Ls' nx L (v.toList ++ st)) : Run Z n0 p l e R s own m args below meth c Q h k n Ls pc L st0 := fun T W => by
  have hd := hbD F d; obtain ⟨-, rfl⟩ := d
  obtain ⟨vm0, locs, k0, X, eT, hS, hk, hZ, hown, N, hO, I, kn⟩ := W
  subst hst
  obtain ⟨v, vm1, B, -, X', hS', hg, ⟨L1, Ls', q1, q2, q3, q4, q5, q6, q7⟩, st'⟩ := callSS X F.1 hown (mvT hZ wl) (mvT hZ ws) (mvT hZ wz) (mvT hZ wc) (hyOf hy) (C.back hZ I (kn.alike hS.1.alike) wc wz (Nat.le_of_ble_eq_true hf) (Nat.le_of_ble_eq_true hl)) (g := mkF m pc L.toArray (as.reverse ++ st)) rfl (by show L.toArray.size = _; rw [F.2.2.1, ← hsz]; simp) (argsL := as) (rest := st) (lenOf hsig hlen) rfl (by show 2 * 0 + _ ≤ _; omega) hd (fun _ _ => ⟨rfl, eT, hc, hs⟩)
  dsimp only [Pt.U, Pt.locs, Pt.cells, Pt.slots] at X' hS' hg q1 q2 q3 q5 q6 q7 st'
  rw [q5, q6, q7] at X'
  rw [eT] at hg
  obtain ⟨u, o, r1, r⟩ := K v _ Ls' q1 q2 hg B.1 ⟨B.1.vm, _, _, X', rfl, hS.trans hS' (Nat.le_trans hk hg), Nat.le_refl _, State.Warmed39.trans hZ hS'.1, (hS'.1.alike.findClass _ _).trans hown, N.app q4, q2, q3, kn⟩
  exact ⟨u, o, st'.trans r1, r⟩
theorem Run.callInit (F : Fx p c meth bytes ml ret nm) {i : Nat} {y : MethodName} {by' : ByteArray} {ml' : Nat} {rm : Room} {a : Nat} {as : List Value} {Qy : Option Value → Heap → Lits → Prop} {sig : MethodDescriptor}
    (wl : (Cond.methodLink own i y).before a0 Z = true) (ws : (Cond.instanceMethod y).before a0 Z = true) (wz : (Cond.initialized y.cls).before a0 Z = true) (wc : (Cond.code y by' ml' none).before a0 Z = true)
    (C : Con l Z n0 y by' ml' none rm (.ref a :: as) h Ls [] Qy) (hi : y.name = "<init>") (hy : (y.cls == "java/lang/invoke/MethodHandle" || y.cls == "java/lang/invoke/VarHandle") = false) (hsig : parseMethodDescriptor y.desc = some sig) (hlen : as.length = sig.parameters.length) (hsz : L.length = ml)
    (hf : Nat.ble (rm.frames + 1) R.frames = true) (hl : Nat.ble ((st.map fun v => v.category).sum + (ml' + 11) + rm.locals) R.locals = true) (hc : k + rm.cells ≤ R.cells) (hs : n + rm.slots ≤ R.slots) {st0 : List Value} (hst : st0 = as.reverse ++ .ref a :: st) (d : Dc bytes pc (.invokespecial i) 3 nx)
    (K : ∀ v h' Ls', Qy v h' Ls' → Old Z n0 h' → h.size ≤ h'.size → Run Z n0 p l e R s own m args below meth c Q h' (k + rm.cells) (n + rm.slots) Ls' nx L (v.toList ++ st)) : Run Z n0 p l e R s own m args below meth c Q h k n Ls pc L st0 := fun T W => by
  have hd := hbD F d; obtain ⟨-, rfl⟩ := d
  obtain ⟨vm0, locs, k0, X, eT, hS, hk, hZ, hown, N, hO, I, kn⟩ := W
  subst hst
  obtain ⟨v, vm1, B, -, X', hS', hg, ⟨L1, Ls', q1, q2, q3, q4, q5, q6, q7⟩, st'⟩ := X.specialBackS F.1 hi hown (mvT hZ wl) (mvT hZ ws) (mvT hZ wc) (hyOf hy) (C.back hZ I (kn.alike hS.1.alike) wc wz (Nat.le_of_ble_eq_true hf) (Nat.le_of_ble_eq_true hl)) (g := mkF m pc L.toArray (as.reverse ++ .ref a :: st)) rfl (by show L.toArray.size = _; rw [F.2.2.1, ← hsz]; simp) (Steps.refl _) (a := a) (argsL := as) (rest := st) (lenOf hsig hlen) rfl (by show 2 * 0 + _ ≤ _; omega) hd (fun _ _ => ⟨rfl, eT, hc, hs⟩)
  dsimp only [Pt.U, Pt.locs, Pt.cells, Pt.slots] at X' hS' hg q1 q2 q3 q5 q6 q7 st'
  rw [q5, q6, q7] at X'
  rw [eT] at hg
  obtain ⟨u, o, r1, r⟩ := K v _ Ls' q1 q2 hg B.1 ⟨B.1.vm, _, _, X', rfl, hS.trans hS' (Nat.le_trans hk hg), Nat.le_refl _, State.Warmed39.trans hZ hS'.1, (hS'.1.alike.findClass _ _).trans hown, N.app q4, q2, q3, kn⟩
  exact ⟨u, o, st'.trans r1, r⟩
theorem Run.callVirtual (F : Fx p c meth bytes ml ret nm) {i : Nat} {y z : MethodName} {K0 : String} {by' : ByteArray} {ml' : Nat} {ret' : Option FieldType} {rm : Room} {a : Nat} {as : List Value} {Qy : Option Value → Heap → Lits → Prop} {sig : MethodDescriptor}
    (wl : (Cond.methodLink own i y).before a0 Z = true) (wd : (Cond.declares y).before a0 Z = true) (nf : ∀ U : State, Z.Warmed39 U.vm → NotFace U y) (wsel : (Cond.selects K0 y z).before a0 Z = true) (ws : (Cond.instanceMethod z).before a0 Z = true) (wz : (Cond.initialized z.cls).before a0 Z = true) (wc : (Cond.code z by' ml' ret').before a0 Z = true) (E : Exa Z h a K0)
    (C : Con l Z n0 z by' ml' ret' rm (.ref a :: as) h Ls [] Qy) (hy : (y.cls == "java/lang/invoke/MethodHandle" || y.cls == "java/lang/invoke/VarHandle") = false) (hsig : parseMethodDescriptor y.desc = some sig) (hlen : as.length = sig.parameters.length) (hsz : L.length = ml)
    (hf : Nat.ble (rm.frames + 1) R.frames = true) (hl : Nat.ble ((st.map fun v => v.category).sum + (ml' + 11) + rm.locals) R.locals = true) (hc : k + rm.cells ≤ R.cells) (hs : n + rm.slots ≤ R.slots) {st0 : List Value} (hst : st0 = as.reverse ++ .ref a :: st) (d : Dc bytes pc (.invokevirtual i) 3 nx)
    (K : ∀ v h' Ls', Qy v h' Ls' → Old Z n0 h' → h.size ≤ h'.size → Run Z n0 p l e R s own m args below meth c Q h' (k + rm.cells) (n + rm.slots) Ls' nx L (v.toList ++ st)) : Run Z n0 p l e R s own m args below meth c Q h k n Ls pc L st0 := fun T W => by
  have hd := hbD F d; obtain ⟨-, rfl⟩ := d
  obtain ⟨vm0, locs, k0, X, eT, hS, hk, hZ, hown, N, hO, I, kn⟩ := W
  subst hst
  obtain ⟨cq, kq, qa, qb, qc⟩ := isOf hZ eT E
  obtain ⟨v, vm1, B, -, X', hS', hg, ⟨L1, Ls', q1, q2, q3, q4, q5, q6, q7⟩, st'⟩ := X.virtualBackS F.1 hown (mvT hZ wl) (mvT hZ wd) (nf _ hZ) (mvT hZ wsel) (mvT hZ ws) (hyOf hy) (C.back hZ I (kn.alike hS.1.alike) wc wz (Nat.le_of_ble_eq_true hf) (Nat.le_of_ble_eq_true hl)) qa qc (g := mkF m pc L.toArray (as.reverse ++ .ref a :: st)) rfl (by show L.toArray.size = _; rw [F.2.2.1, ← hsz]; simp) (Steps.refl _) (argsL := as) (rest := st) (lenOf hsig hlen) rfl (by show 2 * 0 + _ ≤ _; omega) hd (fun _ _ => ⟨rfl, eT, hc, hs⟩)
  dsimp only [Pt.U, Pt.locs, Pt.cells, Pt.slots] at X' hS' hg q1 q2 q3 q5 q6 q7 st'
  rw [q5, q6, q7] at X'
  rw [eT] at hg
  obtain ⟨u, o, r1, r⟩ := K v _ Ls' q1 q2 hg B.1 ⟨B.1.vm, _, _, X', rfl, hS.trans hS' (Nat.le_trans hk hg), Nat.le_refl _, State.Warmed39.trans hZ hS'.1, (hS'.1.alike.findClass _ _).trans hown, N.app q4, q2, q3, kn⟩
  exact ⟨u, o, st'.trans r1, r⟩
end Laws
end Jvm.Own
namespace Jvm.Own
open Sem ClassFile Op Lib Jvm.Stand Jvm.Free Jvm.LawKit Jvm.RoadKit
def b2i (b : Bool) : Int32 := if b then 1 else 0
theorem ic_lt (x y : Int32) : if_icmp.holds .lt x y = decide (x.toInt < y.toInt) := by simp [if_icmp.holds, Int32.lt_iff_toInt_lt]
theorem ic_ge (x y : Int32) : if_icmp.holds .ge x y = decide (y.toInt ≤ x.toInt) := by simp [if_icmp.holds, Int32.le_iff_toInt_le]
theorem ic_gt (x y : Int32) : if_icmp.holds .gt x y = decide (y.toInt < x.toInt) := by simp [if_icmp.holds, Int32.lt_iff_toInt_lt]
theorem ic_le (x y : Int32) : if_icmp.holds .le x y = decide (x.toInt ≤ y.toInt) := by simp [if_icmp.holds, Int32.le_iff_toInt_le]
theorem ic_eq (x y : Int32) : if_icmp.holds .eq x y = decide (x.toInt = y.toInt) := by
  by_cases q : x = y
  · subst q; simp [if_icmp.holds]
  · have : x.toInt ≠ y.toInt := fun e => q (Int32.toInt_inj.mp e)
    simp [if_icmp.holds, q, this]
theorem ic_ne (x y : Int32) : if_icmp.holds .ne x y = decide (x.toInt ≠ y.toInt) := by
  by_cases q : x = y
  · simp [if_icmp.holds, q]
  · have : x.toInt ≠ y.toInt := fun e => q (Int32.toInt_inj.mp e)
    simp [if_icmp.holds, q, this]
section Branch
variable {Z : State} {n0 : Nat} {p : Program} {l : Launch} {e : Env} {R : Room} {s : State} {own : String} {m : MethodId} {args : Array Value} {below : List Frame} {meth : Method} {c : Code} {Q : Option Value → Heap → Lits → Prop} {h : Heap} {k n : Nat} {Ls : Lits} {pc nx : Nat} {L : List Slot} {st : List Value}
variable {bytes : ByteArray} {ml : Nat} {ret : Option FieldType} {nm : String} {a0 : Array Value}

theorem Run.icmp_lt (F : Fx p c meth bytes ml ret nm) {x y : Int32} {o : Int} {t : Nat} (d : Dc bytes pc (.if_icmp .lt o) 3 nx) (ht : (pc : Int) + o = (t : Int)) {xi yi : Int} (hx : x.toInt = xi) (hy : y.toInt = yi)
    (K1 : xi < yi → Run Z n0 p l e R s own m args below meth c Q h k n Ls t L st) (K2 : yi ≤ xi → Run Z n0 p l e R s own m args below meth c Q h k n Ls nx L st) : Run Z n0 p l e R s own m args below meth c Q h k n Ls pc L (.int y :: .int x :: st) := by
  subst hx hy
  refine Run.icmp F d ht (fun q => K1 ?_) (fun q => K2 ?_)
  · rw [ic_lt] at q; exact of_decide_eq_true q
  · rw [ic_lt] at q; have := of_decide_eq_false q; omega
theorem Run.icmp_ge (F : Fx p c meth bytes ml ret nm) {x y : Int32} {o : Int} {t : Nat} (d : Dc bytes pc (.if_icmp .ge o) 3 nx) (ht : (pc : Int) + o = (t : Int)) {xi yi : Int} (hx : x.toInt = xi) (hy : y.toInt = yi)
    (K1 : yi ≤ xi → Run Z n0 p l e R s own m args below meth c Q h k n Ls t L st) (K2 : xi < yi → Run Z n0 p l e R s own m args below meth c Q h k n Ls nx L st) : Run Z n0 p l e R s own m args below meth c Q h k n Ls pc L (.int y :: .int x :: st) := by
  subst hx hy
  refine Run.icmp F d ht (fun q => K1 ?_) (fun q => K2 ?_)
  · rw [ic_ge] at q; exact of_decide_eq_true q
  · rw [ic_ge] at q; have := of_decide_eq_false q; omega
theorem Run.icmp_gt (F : Fx p c meth bytes ml ret nm) {x y : Int32} {o : Int} {t : Nat} (d : Dc bytes pc (.if_icmp .gt o) 3 nx) (ht : (pc : Int) + o = (t : Int)) {xi yi : Int} (hx : x.toInt = xi) (hy : y.toInt = yi)
    (K1 : yi < xi → Run Z n0 p l e R s own m args below meth c Q h k n Ls t L st) (K2 : xi ≤ yi → Run Z n0 p l e R s own m args below meth c Q h k n Ls nx L st) : Run Z n0 p l e R s own m args below meth c Q h k n Ls pc L (.int y :: .int x :: st) := by
  subst hx hy
  refine Run.icmp F d ht (fun q => K1 ?_) (fun q => K2 ?_)
  · rw [ic_gt] at q; exact of_decide_eq_true q
  · rw [ic_gt] at q; have := of_decide_eq_false q; omega
theorem Run.icmp_le (F : Fx p c meth bytes ml ret nm) {x y : Int32} {o : Int} {t : Nat} (d : Dc bytes pc (.if_icmp .le o) 3 nx) (ht : (pc : Int) + o = (t : Int)) {xi yi : Int} (hx : x.toInt = xi) (hy : y.toInt = yi)
    (K1 : xi ≤ yi → Run Z n0 p l e R s own m args below meth c Q h k n Ls t L st) (K2 : yi < xi → Run Z n0 p l e R s own m args below meth c Q h k n Ls nx L st) : Run Z n0 p l e R s own m args below meth c Q h k n Ls pc L (.int y :: .int x :: st) := by
  subst hx hy
  refine Run.icmp F d ht (fun q => K1 ?_) (fun q => K2 ?_)
  · rw [ic_le] at q; exact of_decide_eq_true q
  · rw [ic_le] at q; have := of_decide_eq_false q; omega
theorem Run.icmp_eq (F : Fx p c meth bytes ml ret nm) {x y : Int32} {o : Int} {t : Nat} (d : Dc bytes pc (.if_icmp .eq o) 3 nx) (ht : (pc : Int) + o = (t : Int)) {xi yi : Int} (hx : x.toInt = xi) (hy : y.toInt = yi)
    (K1 : xi = yi → Run Z n0 p l e R s own m args below meth c Q h k n Ls t L st) (K2 : xi ≠ yi → Run Z n0 p l e R s own m args below meth c Q h k n Ls nx L st) : Run Z n0 p l e R s own m args below meth c Q h k n Ls pc L (.int y :: .int x :: st) := by
  subst hx hy
  refine Run.icmp F d ht (fun q => K1 ?_) (fun q => K2 ?_)
  · rw [ic_eq] at q; exact of_decide_eq_true q
  · rw [ic_eq] at q; have := of_decide_eq_false q; omega
theorem Run.icmp_ne (F : Fx p c meth bytes ml ret nm) {x y : Int32} {o : Int} {t : Nat} (d : Dc bytes pc (.if_icmp .ne o) 3 nx) (ht : (pc : Int) + o = (t : Int)) {xi yi : Int} (hx : x.toInt = xi) (hy : y.toInt = yi)
    (K1 : xi ≠ yi → Run Z n0 p l e R s own m args below meth c Q h k n Ls t L st) (K2 : xi = yi → Run Z n0 p l e R s own m args below meth c Q h k n Ls nx L st) : Run Z n0 p l e R s own m args below meth c Q h k n Ls pc L (.int y :: .int x :: st) := by
  subst hx hy
  refine Run.icmp F d ht (fun q => K1 ?_) (fun q => K2 ?_)
  · rw [ic_ne] at q; exact of_decide_eq_true q
  · rw [ic_ne] at q; have := of_decide_eq_false q; omega
theorem Run.if_lt (F : Fx p c meth bytes ml ret nm) {x : Int32} {o : Int} {t : Nat} (d : Dc bytes pc (.ifCond .lt o) 3 nx) (ht : (pc : Int) + o = (t : Int)) {xi : Int} (hx : x.toInt = xi)
    (K1 : xi < 0 → Run Z n0 p l e R s own m args below meth c Q h k n Ls t L st) (K2 : 0 ≤ xi → Run Z n0 p l e R s own m args below meth c Q h k n Ls nx L st) : Run Z n0 p l e R s own m args below meth c Q h k n Ls pc L (.int x :: st) := by
  subst hx
  have z : (0 : Int32).toInt = 0 := rfl
  refine Run.if_ F d ht (fun q => K1 ?_) (fun q => K2 ?_)
  · rw [if0, ic_lt, z] at q; exact of_decide_eq_true q
  · rw [if0, ic_lt, z] at q; have := of_decide_eq_false q; omega
theorem Run.if_ge (F : Fx p c meth bytes ml ret nm) {x : Int32} {o : Int} {t : Nat} (d : Dc bytes pc (.ifCond .ge o) 3 nx) (ht : (pc : Int) + o = (t : Int)) {xi : Int} (hx : x.toInt = xi)
    (K1 : 0 ≤ xi → Run Z n0 p l e R s own m args below meth c Q h k n Ls t L st) (K2 : xi < 0 → Run Z n0 p l e R s own m args below meth c Q h k n Ls nx L st) : Run Z n0 p l e R s own m args below meth c Q h k n Ls pc L (.int x :: st) := by
  subst hx
  have z : (0 : Int32).toInt = 0 := rfl
  refine Run.if_ F d ht (fun q => K1 ?_) (fun q => K2 ?_)
  · rw [if0, ic_ge, z] at q; exact of_decide_eq_true q
  · rw [if0, ic_ge, z] at q; have := of_decide_eq_false q; omega
theorem Run.if_gt (F : Fx p c meth bytes ml ret nm) {x : Int32} {o : Int} {t : Nat} (d : Dc bytes pc (.ifCond .gt o) 3 nx) (ht : (pc : Int) + o = (t : Int)) {xi : Int} (hx : x.toInt = xi)
    (K1 : 0 < xi → Run Z n0 p l e R s own m args below meth c Q h k n Ls t L st) (K2 : xi ≤ 0 → Run Z n0 p l e R s own m args below meth c Q h k n Ls nx L st) : Run Z n0 p l e R s own m args below meth c Q h k n Ls pc L (.int x :: st) := by
  subst hx
  have z : (0 : Int32).toInt = 0 := rfl
  refine Run.if_ F d ht (fun q => K1 ?_) (fun q => K2 ?_)
  · rw [if0, ic_gt, z] at q; exact of_decide_eq_true q
  · rw [if0, ic_gt, z] at q; have := of_decide_eq_false q; omega
theorem Run.if_le (F : Fx p c meth bytes ml ret nm) {x : Int32} {o : Int} {t : Nat} (d : Dc bytes pc (.ifCond .le o) 3 nx) (ht : (pc : Int) + o = (t : Int)) {xi : Int} (hx : x.toInt = xi)
    (K1 : xi ≤ 0 → Run Z n0 p l e R s own m args below meth c Q h k n Ls t L st) (K2 : 0 < xi → Run Z n0 p l e R s own m args below meth c Q h k n Ls nx L st) : Run Z n0 p l e R s own m args below meth c Q h k n Ls pc L (.int x :: st) := by
  subst hx
  have z : (0 : Int32).toInt = 0 := rfl
  refine Run.if_ F d ht (fun q => K1 ?_) (fun q => K2 ?_)
  · rw [if0, ic_le, z] at q; exact of_decide_eq_true q
  · rw [if0, ic_le, z] at q; have := of_decide_eq_false q; omega
theorem Run.if_eq (F : Fx p c meth bytes ml ret nm) {x : Int32} {o : Int} {t : Nat} (d : Dc bytes pc (.ifCond .eq o) 3 nx) (ht : (pc : Int) + o = (t : Int)) {xi : Int} (hx : x.toInt = xi)
    (K1 : xi = 0 → Run Z n0 p l e R s own m args below meth c Q h k n Ls t L st) (K2 : xi ≠ 0 → Run Z n0 p l e R s own m args below meth c Q h k n Ls nx L st) : Run Z n0 p l e R s own m args below meth c Q h k n Ls pc L (.int x :: st) := by
  subst hx
  have z : (0 : Int32).toInt = 0 := rfl
  refine Run.if_ F d ht (fun q => K1 ?_) (fun q => K2 ?_)
  · rw [if0, ic_eq, z] at q; exact of_decide_eq_true q
  · rw [if0, ic_eq, z] at q; have := of_decide_eq_false q; omega
theorem Run.if_ne (F : Fx p c meth bytes ml ret nm) {x : Int32} {o : Int} {t : Nat} (d : Dc bytes pc (.ifCond .ne o) 3 nx) (ht : (pc : Int) + o = (t : Int)) {xi : Int} (hx : x.toInt = xi)
    (K1 : xi ≠ 0 → Run Z n0 p l e R s own m args below meth c Q h k n Ls t L st) (K2 : xi = 0 → Run Z n0 p l e R s own m args below meth c Q h k n Ls nx L st) : Run Z n0 p l e R s own m args below meth c Q h k n Ls pc L (.int x :: st) := by
  subst hx
  have z : (0 : Int32).toInt = 0 := rfl
  refine Run.if_ F d ht (fun q => K1 ?_) (fun q => K2 ?_)
  · rw [if0, ic_ne, z] at q; exact of_decide_eq_true q
  · rw [if0, ic_ne, z] at q; have := of_decide_eq_false q; omega
theorem Run.ifB_eq (F : Fx p c meth bytes ml ret nm) {b : Bool} {o : Int} {t : Nat} (d : Dc bytes pc (.ifCond .eq o) 3 nx) (ht : (pc : Int) + o = (t : Int))
    (K1 : b = false → Run Z n0 p l e R s own m args below meth c Q h k n Ls t L st) (K2 : b = true → Run Z n0 p l e R s own m args below meth c Q h k n Ls nx L st) : Run Z n0 p l e R s own m args below meth c Q h k n Ls pc L (.int (b2i b) :: st) := by
  cases b
  · exact Run.ifYes F d ht rfl (K1 rfl)
  · exact Run.ifNo F d rfl (K2 rfl)
theorem Run.ifB_ne (F : Fx p c meth bytes ml ret nm) {b : Bool} {o : Int} {t : Nat} (d : Dc bytes pc (.ifCond .ne o) 3 nx) (ht : (pc : Int) + o = (t : Int))
    (K1 : b = true → Run Z n0 p l e R s own m args below meth c Q h k n Ls t L st) (K2 : b = false → Run Z n0 p l e R s own m args below meth c Q h k n Ls nx L st) : Run Z n0 p l e R s own m args below meth c Q h k n Ls pc L (.int (b2i b) :: st) := by
  cases b
  · exact Run.ifNo F d rfl (K2 rfl)
  · exact Run.ifYes F d ht rfl (K1 rfl)
theorem Run.icmpB_eq (F : Fx p c meth bytes ml ret nm) {b b' : Bool} {o : Int} {t : Nat} (d : Dc bytes pc (.if_icmp .eq o) 3 nx) (ht : (pc : Int) + o = (t : Int))
    (K1 : b = b' → Run Z n0 p l e R s own m args below meth c Q h k n Ls t L st) (K2 : b ≠ b' → Run Z n0 p l e R s own m args below meth c Q h k n Ls nx L st) : Run Z n0 p l e R s own m args below meth c Q h k n Ls pc L (.int (b2i b') :: .int (b2i b) :: st) := by
  cases b <;> cases b'
  · exact Run.icmpYes F d ht rfl (K1 rfl)
  · exact Run.icmpNo F d rfl (K2 (by decide))
  · exact Run.icmpNo F d rfl (K2 (by decide))
  · exact Run.icmpYes F d ht rfl (K1 rfl)
theorem Run.icmpB_ne (F : Fx p c meth bytes ml ret nm) {b b' : Bool} {o : Int} {t : Nat} (d : Dc bytes pc (.if_icmp .ne o) 3 nx) (ht : (pc : Int) + o = (t : Int))
    (K1 : b ≠ b' → Run Z n0 p l e R s own m args below meth c Q h k n Ls t L st) (K2 : b = b' → Run Z n0 p l e R s own m args below meth c Q h k n Ls nx L st) : Run Z n0 p l e R s own m args below meth c Q h k n Ls pc L (.int (b2i b') :: .int (b2i b) :: st) := by
  cases b <;> cases b'
  · exact Run.icmpNo F d rfl (K2 rfl)
  · exact Run.icmpYes F d ht rfl (K1 (by decide))
  · exact Run.icmpYes F d ht rfl (K1 (by decide))
  · exact Run.icmpNo F d rfl (K2 rfl)
/-- a loop's head: P r .. with r the turns left -/
theorem Run.rec (P : Nat → Heap → Nat → Nat → Lits → List Slot → List Value → Prop)
    (step : ∀ r h k n Ls L st, P r h k n Ls L st → (∀ r' h' k' n' Ls' L' st', r' < r → P r' h' k' n' Ls' L' st' → Run Z n0 p l e R s own m args below meth c Q h' k' n' Ls' pc L' st') → Run Z n0 p l e R s own m args below meth c Q h k n Ls pc L st) :
    ∀ r h k n Ls L st, P r h k n Ls L st → Run Z n0 p l e R s own m args below meth c Q h k n Ls pc L st := fun r => by
  induction r using Nat.strongRecOn with
  | ind r ih => exact fun h k n Ls L st hP => step r h k n Ls L st hP fun r' h' k' n' Ls' L' st' hr hP' => ih r' hr h' k' n' Ls' L' st' hP'
/-- a place where roads meet -/
theorem Run.via {pcJ : Nat} (P : Heap → Nat → Nat → Lits → List Slot → List Value → Prop)
    (J : ∀ h k n Ls L st, P h k n Ls L st → Run Z n0 p l e R s own m args below meth c Q h k n Ls pcJ L st) (K : (∀ h k n Ls L st, P h k n Ls L st → Run Z n0 p l e R s own m args below meth c Q h k n Ls pcJ L st) → Run Z n0 p l e R s own m args below meth c Q h k n Ls pc L st) : Run Z n0 p l e R s own m args below meth c Q h k n Ls pc L st := K J
/-- .. the same, only the stack told -/
theorem Run.viaS {pcJ : Nat} (P : List Value → Prop)
    (J : ∀ st', P st' → Run Z n0 p l e R s own m args below meth c Q h k n Ls pcJ L st') (K : (∀ st', P st' → Run Z n0 p l e R s own m args below meth c Q h k n Ls pcJ L st') → Run Z n0 p l e R s own m args below meth c Q h k n Ls pc L st) : Run Z n0 p l e R s own m args below meth c Q h k n Ls pc L st := K J
/-- as if more had been made -/
theorem Run.more {k' n' : Nat} (hk : k ≤ k') (hn : n ≤ n') (K : Run Z n0 p l e R s own m args below meth c Q h k' n' Ls pc L st) : Run Z n0 p l e R s own m args below meth c Q h k n Ls pc L st := fun T W => by
  obtain ⟨vm0, locs, k0, X, r⟩ := W
  exact K T ⟨vm0, locs, k0, X.mono hk hn, r⟩
end Branch
end Jvm.Own
namespace Jvm.Own
open Sem ClassFile Op Lib Jvm.Stand Jvm.Free Jvm.LawKit Jvm.RoadKit
theorem i32_nn {i : Nat} (h : i < 2 ^ 31) : ¬ Int32.ofNat i < 0 := by
  rw [Int32.lt_iff_toInt_lt, Int32.toInt_ofNat_small h]
  have z : (0 : Int32).toInt = 0 := rfl
  omega
theorem i32_tn {i : Nat} (h : i < 2 ^ 31) : (Int32.ofNat i).toNatClampNeg = i := Jvm.Free.XT.n32 h
theorem i32_ti {i : Nat} (h : i < 2 ^ 31) : (Int32.ofNat i).toInt = i := Int32.toInt_ofNat_small h
theorem i32_eq {x : Int32} {i : Nat} (h : x.toInt = i) : x = Int32.ofNat i := by
  apply Int32.toInt_inj.mp
  have := x.toInt_lt
  rw [h, Int32.toInt_ofNat_small (by omega)]
theorem i32_nneg {x : Int32} (h : 0 ≤ x.toInt) : ¬ x < 0 := by
  rw [Int32.lt_iff_toInt_lt]; have z : (0 : Int32).toInt = 0 := rfl; omega
theorem i32_nat {x : Int32} {i : Nat} (h : x.toInt = i) : x.toNatClampNeg = i := by show x.toInt.toNat = i; omega
/-- the byte that holds a char -/
def lb (c : Int32) : Value := .int c.toInt8.toInt32
theorem chr_toInt (x : Int32) : (chr x).toInt = x.toInt % 65536 := by
  have e : (chr x).toBitVec.toNat = x.toBitVec.toNat % 65536 := by
    show x.toUInt32.toUInt16.toUInt32.toNat = _
    rw [UInt16.toNat_toUInt32, UInt32.toNat_toUInt16]; rfl
  have h1 : (chr x).toInt = (chr x).toBitVec.toInt := rfl
  have h2 : x.toInt = x.toBitVec.toInt := rfl
  rw [h1, h2, BitVec.toInt_eq_toNat_cond, BitVec.toInt_eq_toNat_cond, e]
  have := x.toBitVec.isLt
  split <;> split <;> omega
theorem chr_id {x : Int32} (h0 : 0 ≤ x.toInt) (h1 : x.toInt < 65536) : chr x = x := Int32.toInt_inj.mp (by rw [chr_toInt]; omega)
theorem chr_chr (x : Int32) : chr (chr x) = chr x := chr_id (by rw [chr_toInt]; omega) (by rw [chr_toInt]; omega)
theorem nar_char (x : Int32) : nar .char x = chr x := rfl
theorem narrow_chr (x : Int32) : narrow .char (.int (chr x)) = .int (chr x) := by
  have : narrow .char (.int (chr x)) = .int (chr (chr x)) := rfl
  rw [this, chr_chr]
theorem narrow_char {x : Int32} (h0 : 0 ≤ x.toInt) (h1 : x.toInt < 65536) : narrow .char (.int x) = .int x := by rw [← chr_id h0 h1]; exact narrow_chr x
theorem and255 (x : Int32) : (x &&& 255).toInt = x.toInt % 256 := c_mask x 255 8 (by decide) (by decide)
theorem low8 {c : Int32} (h0 : 0 ≤ c.toInt) (h1 : c.toInt < 256) : chr (c.toInt8.toInt32 &&& 255) = c := by
  apply Int32.toInt_inj.mp
  have := c_i2b c
  rw [chr_toInt, and255]; omega
theorem narB (c : Int32) : nar .byte c.toInt8.toInt32 = c.toInt8.toInt32 := by
  show c.toInt8.toInt32.toInt8.toInt32 = _
  simp
theorem b2i_narrow (b : Bool) : narrow .boolean (.int (b2i b)) = .int (b2i b) := by cases b <;> rfl
theorem take_set {cs : List Int32} {i r : Nat} {c : Int32} (hi : i + (r + 1) = cs.length) (hc : cs[i]? = some c) :
    ((cs.take i).map lb ++ List.replicate (r + 1) (Value.int 0)).set i (lb c) = (cs.take (i + 1)).map lb ++ List.replicate r (Value.int 0) := by
  have hl : ((cs.take i).map lb).length = i := by simp; omega
  rw [List.set_append_right _ _ (by omega), hl, Nat.sub_self, List.replicate_succ, List.set_cons_zero, List.take_succ, hc]
  simp
theorem mapInt_get {cs : List Int32} {i : Nat} {c : Int32} (h : cs[i]? = some c) : (cs.map Value.int)[i]? = some (.int c) := by simp [h]
theorem lb_get {cs : List Int32} {i : Nat} {c : Int32} (h : cs[i]? = some c) : (cs.map lb)[i]? = some (.int c.toInt8.toInt32) := by simp [h, lb]
theorem coder0 (n : Nat) : ((XT.ushr (Int32.ofNat n - Int32.ofNat n) 31).toInt8.toInt32) = 0 := by
  rw [Int32.sub_self]; decide
theorem i32_pred {i : Nat} (h : i < 2 ^ 31) : (Int32.ofNat i - 1).toInt = (i : Int) - 1 := by
  have h1 := c_isub (Int32.ofNat i) 1
  have h2 := rng32 (Int32.ofNat i - 1)
  have h3 : (1 : Int32).toInt = 1 := rfl
  rw [i32_ti h, h3] at h1
  omega
theorem chr255 (x : Int32) : 0 ≤ (chr (x &&& 255)).toInt ∧ (chr (x &&& 255)).toInt < 256 := by rw [chr_toInt, and255]; omega
theorem i32_mod {x y : Int32} (hx : 0 ≤ x.toInt) (hy : 0 < y.toInt) : (x % y).toInt = x.toInt % y.toInt := by
  rw [Int32.toInt_mod, Int.tmod_eq_emod_of_nonneg hx]
theorem mask31 (x : Int32) : (x &&& 2147483647).toInt = x.toInt % 2147483648 := c_mask x 2147483647 31 (by decide) (by decide)
theorem ltE {Z : State} {h : Heap} {a : Nat} {C : String} (E : Exa Z h a C) : a < h.size := E.lt
theorem ninN {x y : Nat} {L : List Nat} (q : x ≠ y) (r : x ∉ L) : x ∉ y :: L := fun z => (List.mem_cons.mp z).elim q r
theorem mem1 {x : Nat} : x ∈ [x] := List.mem_singleton.mpr rfl
theorem mem2 {x y : Nat} : x ∈ [x, y] := List.mem_cons_self ..
theorem mem3 {x y : Nat} : y ∈ [x, y] := List.mem_cons_of_mem _ mem1
end Jvm.Own
namespace Jvm.Own
open Sem ClassFile Op Lib Jvm.Stand Jvm.Free Jvm.LawKit Jvm.RoadKit Jvm.Free.SB Jvm.Free.SBG
/-- a String and its bytes -/
def Str (Z : State) (h : Heap) (a b : Nat) (co : Int32) (vs : List Value) : Prop :=
  Exa Z h a "java/lang/String" ∧ Fld Z h a "java/lang/String" "coder" "B" (.int co) ∧ Fld Z h a "java/lang/String" "value" "[B" (.ref b) ∧ Av Z h b .byte vs
theorem Str.keep {Z : State} {h h' : Heap} {ws : List Addr} {a b : Nat} {co : Int32} {vs : List Value} (S : Str Z h a b co vs) (K : Keep h h' ws) (q : a ∉ ws) (q' : b ∉ ws) : Str Z h' a b co vs :=
  ⟨S.1.keep K, S.2.1.keep K q, S.2.2.1.keep K q, S.2.2.2.keep K q'⟩
theorem Str.la {Z : State} {h : Heap} {a b : Nat} {co : Int32} {vs : List Value} (S : Str Z h a b co vs) : a < h.size := S.1.lt
theorem Str.lb {Z : State} {h : Heap} {a b : Nat} {co : Int32} {vs : List Value} (S : Str Z h a b co vs) : b < h.size := S.2.2.2.lt
def litB (text : String) : List Value := text.toList.map fun c => Value.int (Jvm.Lit.byteI c.toNat.toUInt16)
theorem slStr {Z U : State} {q : SQ} {cS : ClassId} {units : Array UInt16} {text : String} (hal : Z.vm.Alike U.vm) (htext : utf16ToString? units = some text) (ht : ∀ c ∈ text.toList, c.toNat < 256) (S : Sl q cS U)
    (hk : ∃ kS : Class, U.vm.classes[cS]? = some kS ∧ kS.kind = .ordinary ∧ q.sC.slots.size = kS.instanceTypes.size) (hB : U.vm.findClass "[B" = some q.SA.cls) (hb : q.SA.slots = stringBytes units) : Str Z U.heap q.sa q.sd 0 (litB text) := by
  obtain ⟨⟨s1, s2, s3, ⟨cv, kv, iv, s4, s4'⟩, ⟨cc, kc, ic, s5, s5'⟩, s6, s7, s8, s9, s10, s11, s12, s13, s14, s15, s16⟩, hf, hc⟩ := S
  obtain ⟨kv', z4⟩ := ff_back hal s4
  obtain ⟨kc', z5⟩ := ff_back hal s5
  obtain ⟨kS, k1, -, k3⟩ := hk
  have hfZ : Z.vm.findClass "java/lang/String" = some q.sC.cls := by rw [← hal.findClass, hc]; exact hf
  obtain ⟨kz, hkz, -⟩ := Vm.findClass_spec hfZ
  obtain ⟨kz', hkz', ekz⟩ := hal.2.2 _ _ hkz
  have e1 : kz' = kS := Option.some.inj (hkz'.symm.trans (hc ▸ k1))
  have hlat := Jvm.ClassFile.lat_of_text htext ht
  have hsl : q.SA.slots = units.map fun u => Value.int (Jvm.Lit.byteI u) := by rw [hb, SBG.stringBytes_lat hlat]; rfl
  have hl : q.SA.slots.toList = litB text := by
    rw [hsl, Array.toList_map, Jvm.ClassFile.units_of_text htext ht, List.map_map]; rfl
  obtain ⟨hst, k9, hk9, comp, hkind⟩ := s11
  have hBZ : Z.vm.findClass "[B" = some q.SA.cls := by rw [← hal.findClass]; exact hB
  obtain ⟨kb, hkb, -⟩ := Vm.findClass_spec hBZ
  obtain ⟨kb', hkb', ekb⟩ := hal.2.2 _ _ hkb
  have e9 : k9 = kb' := Option.some.inj (hk9.symm.trans hkb')
  refine ⟨⟨q.sC, kz, s1, hfZ, hkz, s3, fun _ => by rw [k3, ← e1, ekz]⟩, ⟨q.sC, cc, kc', ic, q.fSC, s1, z5, s7, s2, s3, by rw [← hal.assignable]; exact s5', s9⟩,
    ⟨q.sC, cv, kv', iv, q.fSV, s1, z4, s6, s2, s3, by rw [← hal.assignable]; exact s4', s8⟩, q.SA, ⟨s10, ⟨hst, kb, hkb, comp, by rw [e9, ekb] at hkind; exact hkind⟩, s12⟩, hl, ?_, fun v hv => ?_⟩
  · rw [← hl]; simpa [s13] using s14
  · rw [← hl] at hv
    obtain ⟨j, hj, rfl⟩ := List.mem_iff_getElem.mp hv
    have hj' : j < q.SA.slots.size := by simpa using hj
    have := s16 j hj'
    rw [getD_of (Array.getElem?_eq_getElem hj')] at this
    simpa using this
section Lit
variable {Z : State} {n0 : Nat} {p : Program} {l : Launch} {e : Env} {R : Room} {s : State} {own : String} {m : MethodId} {args : Array Value} {below : List Frame} {meth : Method} {c : Code} {Q : Option Value → Heap → Lits → Prop} {h : Heap} {k n : Nat} {pc nx : Nat} {L : List Slot} {st : List Value}
variable {bytes : ByteArray} {ml : Nat} {ret : Option FieldType} {nm : String} {a0 : Array Value} {T : State} {locs : List Loc} {cells slots : Nat}
/-- the walk's own place taken for a start: nothing written, nothing made yet -/
theorem anew (X : Stand p l e R s m args below meth c T locs cells slots) (hc : cells ≤ R.cells) (hn : slots ≤ R.slots) :
    ∃ s2 : State, s2.heap = T.heap ∧ s2.vm = T.vm ∧ T = s2.setFrames T.frames ∧ Stand p l e { R with cells := R.cells - cells, slots := R.slots - slots } s2 m args below meth c T [] 0 0 := by
  have X1 : Stand p l e R (s.setVm T.vm) m args below meth c T locs cells slots := X.retabled X.warmed.wide
  have e1 : T = { (s.setVm T.vm).setFrames T.frames with heap := T.heap, slotsUsed := T.slotsUsed } := X1.same.1
  refine ⟨{ s.setVm T.vm with heap := T.heap, slotsUsed := T.slotsUsed }, rfl, rfl, e1, X1.admits, X1.cas, X1.clock, X1.frames, ?_, X1.hears, X1.method, X1.code, X1.here, X1.tail, State.WarmedH.refl _, X1.limits, X1.bytes, ?_⟩
  · have r := X1.room
    have hb : T.slotsTrue = true := X1.book
    have h1 := X1.heapSize
    have h2 := X1.used
    simp only [State.hasRoom, Bool.and_eq_true, decide_eq_true_eq] at r ⊢
    obtain ⟨⟨⟨⟨r1, r2⟩, r3⟩, r4⟩, r5⟩ := r
    refine ⟨⟨⟨⟨r1, r2⟩, ?_⟩, ?_⟩, hb⟩
    · show T.heap.size + (R.cells - cells) ≤ _; omega
    · show T.slotsUsed + (R.slots - slots) ≤ _; omega
  · refine ⟨e1, Nat.le_refl _, Nat.le_refl _, ?_, ?_, fun a cl ha => ⟨cl, ha, rfl, rfl, fun _ _ => rfl⟩⟩
    · show T.slotsUsed = T.slotsUsed + ((T.heap.toList.drop T.heap.size).map (·.slots.size)).sum
      rw [List.drop_eq_nil_of_le (by simp)]; rfl
    · show ((T.heap.toList.drop T.heap.size).map (·.slots.size)).sum ≤ 0
      rw [List.drop_eq_nil_of_le (by simp)]; exact Nat.le_refl _
/-- .. and back: what was made from there is made from the true start -/
theorem ofAnew (X : Stand p l e R s m args below meth c T locs cells slots) {s2 T2 : State} {R2 : Room} {k2 n2 : Nat} (hT : T = s2.setFrames T.frames) (X0 : Stand p l e R2 s2 m args below meth c T [] 0 0)
    (X2 : Stand p l e R2 (s2.setVm T2.vm) m args below meth c T2 [] k2 n2) (hS : s2.Since T2.vm T2.heap.size) :
    Stand p l e R (s.setVm T2.vm) m args below meth c T2 locs (cells + k2) (slots + n2) ∧ s.Since T2.vm T2.heap.size := by
  have hW : T.Warmed39 T2.vm := by rw [hT]; exact hS.1
  have hB : T.Booked T2.vm T2.heap.size := by rw [hT]; exact hS.2
  have q : s2.sameButNew (T2.setVm s2.vm) [] k2 n2 := X2.same.setVm s2.vm
  have q' : T.sameButNew (T2.setVm T.vm) [] k2 n2 := by
    rw [hT]
    obtain ⟨q1, q2⟩ := q
    refine ⟨?_, q2⟩
    rw [State.setFrames_setFrames]
    exact q1
  have r := X.movedW X2.here X2.tail (X2.limits.trans X0.limits.symm) (X2.bytes.trans X0.bytes.symm) hW hB q'
  rw [List.append_nil] at r
  exact r
/-- a String constant, whatever the table holds of it -/
theorem Run.ldcS {lt : List (String × Addr)} {text : String} {P : Addr → Addr → Prop} (F : Fx p c meth bytes ml ret nm) {i : Nat} (w : (Cond.stringLink own i text).before a0 Z = true) (wS : ∀ a ∈ Bundle.stringAtoms, a.before a0 Z = true) (hh : Jvm.Lit.constHeld Z own i) (hcw : Jvm.Lit.compactW.before a0 Z = true)
    (ht : ∀ c ∈ text.toList, c.toNat < 256) (hLs : ∀ t ∈ lt, t.1 = text → ∃ b, Str Z h t.2 b 0 (litB text) ∧ P t.2 b) (cap : Nat) (hcap : 4 * text.toList.length ≤ cap) (hbig0 : Nat.ble cap 536870912 = true) (hc : k + 2 ≤ R.cells) (hl : n + (cap + 4) ≤ R.slots) (d : Dc bytes pc (.ldc i) 2 nx)
    (K : ∀ h' a b, Keep h h' [] → Str Z h' a b 0 (litB text) → ((a < n0 ∧ b < n0) ∨ (h.size ≤ a ∧ h.size ≤ b) ∨ P a b) → Run Z n0 p l e R s own m args below meth c Q h' (k + 2) (n + (cap + 4)) (some ((text, a) :: lt)) nx L (.ref a :: st)) :
    Run Z n0 p l e R s own m args below meth c Q h k n (some lt) pc L st := fun T W => by
  have hbig : cap ≤ 536870912 := Nat.le_of_ble_eq_true hbig0
  have hd := hbD F d; obtain ⟨-, rfl⟩ := d
  obtain ⟨vm0, locs, k0, X, eT, hS, hk, hZ, hown, N, hO, I, kn⟩ := W
  have hi : T.vm.interned = vm0.interned := X.warmed.interned_eq
  have X1 : Stand p l e R (s.setVm T.vm) m args below meth c T locs k n := X.retabled X.warmed.wide
  have hW0 : (s.setVm vm0).Warmed39 T.vm := X.warmed.wide
  have hS1 : s.Since T.vm h.size := hS.trans (X.warmed.since h.size) hk
  have hZ1 : Z.Warmed39 T.vm := State.Warmed39.trans hZ hW0
  have hown1 : T.vm.findClass own = some m.cls := (hW0.alike.findClass _ _).trans hown
  have I1 : Itn Z T.vm (some lt) := I.eq hi
  have wi : (Cond.instantiable "java/lang/String" 4).before a0 Z = true := wS _ (by simp [Bundle.stringAtoms, Bundle.sN])
  have wa : (Cond.arrayClass .byte).before a0 Z = true := wS _ (by simp [Bundle.stringAtoms])
  have hH : ConstHeldL Z own i := heldStart hh w ht hcw wa wi
  have w1 : (Cond.stringLink own i text).before args (s.setVm T.vm) = true := mvS hZ1 w
  obtain ⟨kk, cf, si, units, hkk, hcf, hcp, hu, hnm, htext, hres⟩ := Cond.stringLink_spec (s := s.setVm T.vm) hown1 w1
  have hkk' : T.vm.classes[m.cls]? = some kk := hkk
  -- the class at the start of the law
  have hownZ : Z.vm.findClass own = some m.cls := by rw [← hZ1.alike.findClass]; exact hown1
  obtain ⟨kz, cz, iz, uz, hkz, hcfz, hcpz, huz, hnmz, htextz, hresz⟩ := Cond.stringLink_spec hownZ w
  obtain ⟨kk2, hkk2, ekk, -, eent, -⟩ := hZ1.2.2.2 _ kz hkz
  cases hkk'.symm.trans hkk2
  have ecf : cz = cf := by have q : kk.cf = kz.cf := by rw [ekk]
                           rw [hcf, hcfz] at q; exact (Option.some.inj q).symm
  subst ecf
  cases hcpz.symm.trans hcp
  cases huz.symm.trans hu
  -- what is held where the walk stands
  have held : ∀ a, (kk.resolved[i]? = some (some (.string a)) ∨ (kk.resolved[i]? = some none ∧ T.vm.interned.find? (fun p => p.1 == units) = some (units, a))) → ∃ b, Str Z h a b 0 (litB text) ∧ ((a < n0 ∧ b < n0) ∨ P a b) := by
    intro a ha
    have fromZ : SlOf Z a units → ∃ b, Str Z h a b 0 (litB text) ∧ ((a < n0 ∧ b < n0) ∨ P a b) := by
      rintro ⟨q, cS, rfl, S, hkS, hB, hb⟩
      have R0 := slStr (Vm.Alike.refl _) htext ht S hkS hB hb
      refine ⟨q.sd, R0.keep (Keep.ofExt hO.2) nin0 nin0, Or.inl ⟨?_, ?_⟩⟩
      · have := R0.la; rw [hO.1] at this; exact this
      · have := R0.lb; rw [hO.1] at this; exact this
    have fromI : kz.resolved[i]? = some none → T.vm.interned.find? (fun p => p.1 == units) = some (units, a) → ∃ b, Str Z h a b 0 (litB text) ∧ ((a < n0 ∧ b < n0) ∨ P a b) := by
      intro hop hf
      obtain ⟨more, em, hm⟩ := I1 lt rfl
      rw [em, Array.find?_append] at hf
      cases hs : Z.vm.interned.find? (fun p => p.1 == units) with
      | some pr =>
        rw [hs] at hf
        exact fromZ (hH _ kz cz si units a hownZ hkz hcfz hcpz huz (Or.inr ⟨hop, by rw [hs]; simpa using hf⟩))
      | none =>
        rw [hs, Option.none_or] at hf
        obtain ⟨t, htm, h1, h2⟩ := hm _ (Array.mem_of_find?_eq_some hf)
        have e1 : t.1 = text := Option.some.inj (h1.symm.trans htext)
        obtain ⟨b, hb, hp⟩ := hLs t htm e1
        have e2 : t = (text, a) := Prod.ext e1 h2.symm
        subst e2
        exact ⟨b, hb, Or.inr hp⟩
    rcases eent i with e0 | ⟨hop, r, e1, hr | ⟨a3, t, si', us, rfl, -, q3, q4, q5⟩⟩
    · rcases ha with h0 | ⟨h0, hf⟩
      · exact fromZ (hH _ kz cz si units a hownZ hkz hcfz hcpz huz (Or.inl (e0 ▸ h0)))
      · exact fromI (e0 ▸ h0) hf
    · exfalso
      cases r <;> simp [State.rightAt, hkz, hcfz, hnmz] at hr
    · rw [hcfz] at q3 q4
      have e3 : si' = si := by have := q3.symm.trans hcpz; simpa using this
      subst e3
      have e4 : us = units := by simpa [ConstantPool.utf8?, huz] using q4.symm
      subst e4
      rcases ha with h0 | ⟨h0, hf⟩
      · have ea : a3 = a := by have := e1.symm.trans h0; simpa using this
        subst ea
        exact fromI hop q5
      · have := e1.symm.trans h0; simp at this
  have more1 : ∀ a, Itn Z T.vm (some ((text, a) :: lt)) := fun a lt' hlt' => by
    obtain ⟨more, em, hm⟩ := I1 lt rfl
    cases hlt'
    exact ⟨more, em, fun q hq => by obtain ⟨t, h1, h2⟩ := hm q hq; exact ⟨t, List.mem_cons_of_mem _ h1, h2⟩⟩
  rcases hres with hopen | ⟨a, hra⟩
  · cases hf : T.vm.interned.find? (fun p => p.1 == units) with
    | some pr =>
      obtain ⟨u', a⟩ := pr
      have hu' : u' = units := by have := Array.find?_some hf; simpa using this
      subst hu'
      obtain ⟨b, S, hpos⟩ := held a (Or.inr ⟨hopen, hf⟩)
      have q2 : kk.cf.bind (namesOf? ·.constantPool i) = some (.string text) := by rw [hcf]; exact hnm
      have q3 : kk.cf.bind (·.constantPool[i]?) = some (.string si) := by rw [hcf]; exact hcp
      have q4 : kk.cf.bind (·.constantPool.utf8? si) = some u' := by rw [hcf]; simp [ConstantPool.utf8?, hu]
      have hW : (s.setVm T.vm).Warmed39 (T.vm.noted m.cls i (.string a)) := (State.Warmed39.refl (s.setVm T.vm)).notedString hkk (Or.inl hopen) q2 q3 q4 hf
      have X2 : Stand p l e R (s.setVm (T.vm.noted m.cls i (.string a))) m args below meth c (T.setVm (T.vm.noted m.cls i (.string a))) locs k n := X1.retabled hW
      have hS2 : s.Since (T.vm.noted m.cls i (.string a)) h.size := hS1.trans ⟨hW, fun j pp hj hp => by
        have : T.vm.interned[j]? = some pp := hp
        exact absurd (Array.getElem?_eq_some_iff.mp this).1 (Nat.not_lt.mpr hj)⟩ (Nat.le_refl _)
      obtain ⟨u, o, r1, r⟩ := K h a b (Keep.refl _ _) S (hpos.imp id Or.inr) _ ⟨_, locs, h.size, X2.mono (Nat.le_add_right _ _) (Nat.le_add_right _ _), eT, hS2, Nat.le_refl _, State.Warmed39.trans (t := s.setVm T.vm) hZ1 hW, (hW.alike.findClass _ _).trans hown1, N, hO, (more1 a).eq rfl, kn⟩
      refine ⟨u, o, ?_, r⟩
      show Steps p.tables e below (T.setTop { method := m, pc := pc, locals := L.toArray, stack := st, locked := none }) u
      jvm_step X.here [F.1, hd, ldc.wp_string_found (e := e) (s := T) (f := mkF m pc L.toArray st) X.here.top hkk' hcf hcp hu hopen hf]
      exact r1
    | none =>
      obtain ⟨s2, e2h, e2v, hT, X0⟩ := anew X1 (by omega) (by omega)
      have X0' : Stand p l e { R with cells := R.cells - k, slots := R.slots - n } s2 m args below meth c T [] 0 0 := X0
      have hown2 : s2.vm.findClass own = some m.cls := by rw [e2v]; exact hown1
      have hZ2 : Z.Warmed39 s2.vm := by rw [e2v]; exact hZ1
      have hkk2 : s2.vm.classes[m.cls]? = some kk := by rw [e2v]; exact hkk'
      have vac : ConstHeldL s2 own i := fun c' k' cf' i' us' a' h1 h2 h3 h4 h5 h6 => by
        exfalso
        cases hown2.symm.trans h1
        cases hkk2.symm.trans h2
        cases hcf.symm.trans h3
        cases hcp.symm.trans h4
        cases hu.symm.trans h5
        rcases h6 with h6 | ⟨-, h6⟩
        · have := hopen.symm.trans h6; simp at this
        · rw [e2v, hf] at h6; cases h6
      obtain ⟨a, T2, X2, hS2, ⟨k2, hk2, hr2⟩, hkeep, -, hint, ⟨us, hus, hin⟩, stp⟩ := X0'.ldcColdF (fun b cl hb => by rw [e2h] at hb; exact hb) F.1 (own := own) (text := text) hown2 (mvS (s := s2) hZ2 w) (fun dd hdd => by
        have q := wS dd hdd
        simp only [Bundle.stringAtoms, List.mem_cons, List.not_mem_nil, or_false] at hdd
        rcases hdd with rfl | rfl | rfl | rfl | rfl | rfl | rfl
        · exact mv (s := s2) hZ2 q
        · exact mv (s := s2) hZ2 q
        · exact mvA (s := s2) hZ2 q
        · exact mv (s := s2) hZ2 q
        · exact mv (s := s2) hZ2 q
        · exact mv (s := s2) hZ2 q
        · exact mv (s := s2) hZ2 q) vac (fun us hus => Jvm.ClassFile.lat_of_text hus ht) (g := mkF m pc L.toArray st) rfl hd (n := cap) hcap hbig (by show 0 + 2 ≤ R.cells - k; omega) (by show 0 + (cap + 4) ≤ R.slots - n; omega)
      obtain ⟨X3, hS3⟩ := ofAnew X1 hT X0' X2 hS2
      -- the pair that came is this constant's
      obtain ⟨k2', hk2', -, -, ee2, -⟩ := hS2.1.2.2.2 _ kk hkk2
      cases hk2.symm.trans hk2'
      have hfind : T2.vm.interned.find? (fun p => p.1 == units) = some (units, a) := by
        rcases ee2 i with e0 | ⟨-, r, e1, hr | ⟨a3, t, si', us', rfl, -, q3, q4, q5⟩⟩
        · have := (e0.symm.trans hr2).symm.trans hopen; simp at this
        · exfalso
          cases e1.symm.trans hr2
          simp [State.rightAt, hkk2, hcf, hnm] at hr
        · rw [hcf] at q3 q4
          have e3 : si' = si := by have := q3.symm.trans hcp; simpa using this
          subst e3
          have e4 : us' = units := by simpa [ConstantPool.utf8?, hu] using q4.symm
          subst e4
          have ea : a3 = a := by have := e1.symm.trans hr2; simpa using this
          subst ea
          exact q5
      have hpush : T2.vm.interned = T.vm.interned.push (units, a) := by
        rcases hint with e0 | ⟨u2, a2, -, e0⟩
        · rw [e0, hf] at hfind; cases hfind
        · rw [e0, ← Array.append_singleton, Array.find?_append, hf, Option.none_or] at hfind
          have hmem := Array.mem_of_find?_eq_some hfind
          have : (units, a) = (u2, a2) := by simpa using hmem
          rw [this]; exact e0
      have hge : h.size ≤ a := by
        have := (hS2.2 T.vm.interned.size (units, a) (by rw [e2v]; exact Nat.le_refl _) (by rw [hpush]; simp)).1
        rw [e2h, eT] at this; exact this
      obtain ⟨q, cS, rfl, S, hkS, hB, hb, hpos⟩ := hin
      have hal2 : Z.vm.Alike T2.vm := (State.Warmed39.trans hZ2 hS2.1).alike
      have SS := slStr hal2 hus ht S hkS hB hb
      have hpos' : h.size ≤ q.sd := by
        rcases hpos with ⟨x, -⟩ | ⟨-, y⟩
        · rw [e2h, eT] at x; exact absurd x (Nat.not_lt.mpr hge)
        · rw [eT] at y; exact y
      have E : Ext h T2.heap := ext_of fun b hb => by rw [← eT] at hb ⊢; exact hkeep b hb
      obtain ⟨u, o, r1, r⟩ := K T2.heap q.sa q.sd (Keep.ofExt E) SS (Or.inr (Or.inl ⟨hge, hpos'⟩)) T2 ⟨T2.vm, locs, T2.heap.size, X3.mono (by omega) (by omega), rfl, hS1.trans hS3 E.1, Nat.le_refl _, State.Warmed39.trans hZ2 hS2.1, (hS2.1.alike.findClass _ _).trans hown2, N, hO.ext E, fun lt' hlt' => by
        cases hlt'
        obtain ⟨more, em, hm⟩ := I1 lt rfl
        refine ⟨more.push (units, q.sa), by rw [hpush, em]; simp, fun pp hpp => ?_⟩
        rcases Array.mem_push.mp hpp with y | y
        · obtain ⟨t, h1, h2⟩ := hm pp y; exact ⟨t, List.mem_cons_of_mem _ h1, h2⟩
        · subst y; exact ⟨(text, q.sa), List.mem_cons_self .., htext, rfl⟩, kn⟩
      exact ⟨u, o, stp _ r1, r⟩
  · obtain ⟨b, S, hpos⟩ := held a (Or.inl hra)
    have Lt : Lit (s.setVm T.vm) own i a := by
      have : (s.setVm T.vm).vm.findClass own = some m.cls := hown1
      have k1 : T.vm.findClass own = some m.cls := hown1
      show State.resolvedAt? _ _ _ = _
      simp [State.resolvedAt?, k1, hkk', hra]
    obtain ⟨u, o, r1, r⟩ := K h a b (Keep.refl _ _) S (hpos.imp id Or.inr) T ⟨T.vm, locs, h.size, X1.mono (Nat.le_add_right _ _) (Nat.le_add_right _ _), eT, hS1, Nat.le_refl _, hZ1, hown1, N, hO, more1 a, kn⟩
    exact ⟨u, o, ldcAgain (s := s) (vm0 := T.vm) X1 F.1 hZ1 hown1 w Lt (g := mkF m pc L.toArray st) rfl hd u r1, r⟩
end Lit
end Jvm.Own
namespace Jvm.Own
open Sem ClassFile Op Lib Jvm.Stand Jvm.Free Jvm.LawKit Jvm.RoadKit
/-- the two bytes of a char, low one first -/
def hb0 (c : Int32) : Value := .int ((c >>> ((0 : Int32) &&& 31)).toInt8.toInt32)
def hb1 (c : Int32) : Value := .int ((c >>> ((8 : Int32) &&& 31)).toInt8.toInt32)
def u16 : List Int32 → List Value
  | [] => []
  | c :: cs => hb0 c :: hb1 c :: u16 cs
theorem u16_len (cs : List Int32) : (u16 cs).length = 2 * cs.length := by
  induction cs with
  | nil => rfl
  | cons c cs ih => simp only [u16, List.length_cons, ih]; omega
theorem u16_app (cs ds : List Int32) : u16 (cs ++ ds) = u16 cs ++ u16 ds := by
  induction cs with
  | nil => rfl
  | cons c cs ih => simp only [List.cons_append, u16, ih]
theorem u16_get {cs : List Int32} {i : Nat} {c : Int32} (h : cs[i]? = some c) : (u16 cs)[2 * i]? = some (hb0 c) ∧ (u16 cs)[2 * i + 1]? = some (hb1 c) := by
  induction cs generalizing i with
  | nil => simp at h
  | cons d cs ih =>
    cases i with
    | zero => simp at h; subst h; exact ⟨rfl, rfl⟩
    | succ i =>
      have h' : cs[i]? = some c := by simpa using h
      obtain ⟨h1, h2⟩ := ih h'
      have e : 2 * (i + 1) = (2 * i + 1) + 1 := by omega
      constructor
      · rw [e]; simpa [u16] using h1
      · rw [e]; simpa [u16] using h2
theorem u16_set {cs : List Int32} {i r : Nat} {c : Int32} (hi : i + (r + 1) = cs.length) (hc : cs[i]? = some c) :
    ((u16 (cs.take i) ++ List.replicate (2 * (r + 1)) (Value.int 0)).set (2 * i) (hb0 c)).set (2 * i + 1) (hb1 c) = u16 (cs.take (i + 1)) ++ List.replicate (2 * r) (Value.int 0) := by
  have hl : (u16 (cs.take i)).length = 2 * i := by rw [u16_len]; simp; omega
  have e : 2 * (r + 1) = (2 * r + 1) + 1 := by omega
  rw [List.set_append_right _ _ (by omega), hl, Nat.sub_self, e, List.replicate_succ, List.replicate_succ, List.set_cons_zero, List.set_append_right _ _ (by omega), hl, show 2 * i + 1 - 2 * i = 0 + 1 by omega, List.set_cons_succ, List.set_cons_zero, List.take_succ, hc, u16_app]
  simp [u16]
theorem hb0_val {c : Int32} : (c >>> ((0 : Int32) &&& 31)) = c := by
  have := c_ishr c 0 0 (by decide)
  apply Int32.toInt_inj.mp; rw [this]; simp
theorem shr8 (c : Int32) : (c >>> ((8 : Int32) &&& 31)).toInt = c.toInt / 256 := c_ishr c 8 8 (by decide)
theorem or_add {x y : Int32} (hx0 : 0 ≤ x.toInt) (hx : x.toInt < 256) (hy0 : 0 ≤ y.toInt) (hy : y.toInt < 256) :
    ((x <<< ((0 : Int32) &&& 31)) ||| (y <<< ((8 : Int32) &&& 31))).toInt = x.toInt + 256 * y.toInt := by
  have e1 : (x <<< ((0 : Int32) &&& 31)) = x := by
    apply Int32.toInt_inj.mp
    have h := c_ishl x 0 0 (by decide)
    have r := rng32 (x <<< ((0 : Int32) &&& 31))
    simp only [Nat.pow_zero] at h
    omega
  have e2 : (y <<< ((8 : Int32) &&& 31)).toInt = 256 * y.toInt := by
    have h := c_ishl y 8 8 (by decide)
    have r := rng32 (y <<< ((8 : Int32) &&& 31))
    have p8 : ((2 ^ 8 : Nat) : Int) = 256 := by decide
    rw [p8] at h
    omega
  rw [e1]
  generalize hz : (y <<< ((8 : Int32) &&& 31)) = z at e2 ⊢
  have nx : (x.toBitVec.toNat : Int) = x.toInt := by
    have h1 : x.toInt = if 2 * x.toBitVec.toNat < 2 ^ 32 then (x.toBitVec.toNat : Int) else (x.toBitVec.toNat : Int) - ((2 ^ 32 : Nat) : Int) := BitVec.toInt_eq_toNat_cond x.toBitVec
    have h2 := x.toBitVec.isLt
    split at h1 <;> omega
  have nz : (z.toBitVec.toNat : Int) = 256 * y.toInt := by
    have h1 : z.toInt = if 2 * z.toBitVec.toNat < 2 ^ 32 then (z.toBitVec.toNat : Int) else (z.toBitVec.toNat : Int) - ((2 ^ 32 : Nat) : Int) := BitVec.toInt_eq_toNat_cond z.toBitVec
    have h2 := z.toBitVec.isLt
    split at h1 <;> omega
  have key : (x ||| z).toBitVec.toNat = x.toBitVec.toNat + z.toBitVec.toNat := by
    rw [Int32.toBitVec_or, BitVec.toNat_or]
    obtain ⟨q, hq⟩ : ∃ q, z.toBitVec.toNat = 2 ^ 8 * q := ⟨y.toInt.toNat, by omega⟩
    rw [hq, Nat.or_comm, ← Nat.two_pow_add_eq_or_of_lt (by omega : x.toBitVec.toNat < 2 ^ 8)]
    omega
  have h1 : (x ||| z).toInt = (x ||| z).toBitVec.toInt := rfl
  rw [h1, BitVec.toInt_eq_toNat_cond, key]
  split <;> omega
theorem b255 (x : Int32) : (x.toInt8.toInt32 &&& 255).toInt = x.toInt % 256 := by
  have := c_i2b x
  rw [and255]; omega
/-- a char written and read -/
theorem utf_rt {c : Int32} (h0 : 0 ≤ c.toInt) (h1 : c.toInt < 65536) :
    chr ((((c >>> ((0 : Int32) &&& 31)).toInt8.toInt32 &&& 255) <<< ((0 : Int32) &&& 31)) ||| (((c >>> ((8 : Int32) &&& 31)).toInt8.toInt32 &&& 255) <<< ((8 : Int32) &&& 31))) = c := by
  have a1 := b255 (c >>> ((0 : Int32) &&& 31))
  have a2 := b255 (c >>> ((8 : Int32) &&& 31))
  rw [hb0_val] at a1
  rw [shr8] at a2
  have h := or_add (x := (c >>> ((0 : Int32) &&& 31)).toInt8.toInt32 &&& 255) (y := (c >>> ((8 : Int32) &&& 31)).toInt8.toInt32 &&& 255) (by rw [hb0_val, a1]; omega) (by rw [hb0_val, a1]; omega) (by rw [a2]; omega) (by rw [a2]; omega)
  apply Int32.toInt_inj.mp
  rw [chr_toInt, h, hb0_val, a1, a2]
  omega
theorem i32_dbl {i : Nat} (h : 2 * i < 2 ^ 31) : Int32.ofNat i <<< ((1 : Int32) &&& 31) = Int32.ofNat (2 * i) := by
  apply Int32.toInt_inj.mp
  have h1 := c_ishl (Int32.ofNat i) 1 1 (by decide)
  have r := rng32 (Int32.ofNat i <<< ((1 : Int32) &&& 31))
  have p : ((2 ^ 1 : Nat) : Int) = 2 := by decide
  rw [i32_ti (by omega), p] at h1
  rw [i32_ti h]
  omega
theorem coder1 {n : Nat} (h : 0 < n) (h2 : 2 * n < 2 ^ 31) : ((XT.ushr (Int32.ofNat n - Int32.ofNat (2 * n)) 31).toInt8.toInt32) = 1 := by
  have e : (XT.ushr (Int32.ofNat n - Int32.ofNat (2 * n)) 31) = 1 := by
    apply Int32.toInt_inj.mp
    have h1 := c_iushr (Int32.ofNat n - Int32.ofNat (2 * n)) 31 31 (by decide) (by decide)
    have h3 := c_isub (Int32.ofNat n) (Int32.ofNat (2 * n))
    have r := rng32 (Int32.ofNat n - Int32.ofNat (2 * n))
    rw [i32_ti (by omega), i32_ti h2] at h3
    have p : ((2 ^ 31 : Nat) : Int) = 2147483648 := by decide
    rw [p] at h1
    show ((Int32.ofNat n - Int32.ofNat (2 * n)).toUInt32 >>> ((31 : Int32) &&& 31).toUInt32).toInt32.toInt = _
    rw [h1]
    have : (1 : Int32).toInt = 1 := rfl
    omega
  rw [e]; decide
theorem fits_hb0 (c : Int32) : nar .byte ((c >>> ((0 : Int32) &&& 31)).toInt8.toInt32) = (c >>> ((0 : Int32) &&& 31)).toInt8.toInt32 := narB _
/-- all chars below 256 -/
def lat (cs : List Int32) : Bool := cs.all fun c => decide (c.toInt < 256)
def coOf (cs : List Int32) : Int32 := if lat cs then 0 else 1
def byOf (cs : List Int32) : List Value := if lat cs then cs.map lb else u16 cs
theorem lb_inj {c d : Int32} (hc : 0 ≤ c.toInt ∧ c.toInt < 256) (hd : 0 ≤ d.toInt ∧ d.toInt < 256) (h : lb c = lb d) : c = d := by
  have e : c.toInt8.toInt32 = d.toInt8.toInt32 := by simpa [lb] using h
  rw [← low8 hc.1 hc.2, ← low8 hd.1 hd.2, e]
theorem map_lb_inj {cs ds : List Int32} (hc : ∀ c ∈ cs, 0 ≤ c.toInt ∧ c.toInt < 256) (hd : ∀ c ∈ ds, 0 ≤ c.toInt ∧ c.toInt < 256) (h : cs.map lb = ds.map lb) : cs = ds := by
  induction cs generalizing ds with
  | nil => cases ds with
    | nil => rfl
    | cons d ds => simp at h
  | cons c cs ih => cases ds with
    | nil => simp at h
    | cons d ds =>
      simp only [List.map_cons, List.cons.injEq] at h
      rw [lb_inj (hc c (List.mem_cons_self ..)) (hd d (List.mem_cons_self ..)) h.1, ih (fun x hx => hc x (List.mem_cons_of_mem _ hx)) (fun x hx => hd x (List.mem_cons_of_mem _ hx)) h.2]
end Jvm.Own
namespace Jvm.Own
open Sem ClassFile Op Lib Jvm.Stand Jvm.Free Jvm.LawKit Jvm.RoadKit
theorem Fld.one {Z : State} {h : Heap} {a : Nat} {C n d : String} {v w : Value} (F : Fld Z h a C n d v) (G : Fld Z h a C n d w) : v = w := by
  obtain ⟨c1, cf1, k1, i1, f1, a1, a2, -, -, -, -, a7⟩ := F
  obtain ⟨c2, cf2, k2, i2, f2, b1, b2, -, -, -, -, b7⟩ := G
  cases a1.symm.trans b1
  cases a2.symm.trans b2
  exact Option.some.inj (a7.symm.trans b7)
theorem Av.one {Z : State} {h : Heap} {a : Nat} {ty ty' : FieldType} {vs ws : List Value} (A : Av Z h a ty vs) (B : Av Z h a ty' ws) : vs = ws := by
  obtain ⟨c1, A1, rfl, -⟩ := A
  obtain ⟨c2, B1, rfl, -⟩ := B
  cases A1.1.symm.trans B1.1
  rfl
theorem Str.uniq {Z : State} {h : Heap} {x b d : Nat} {co co2 : Int32} {vs ws : List Value} (S : Str Z h x b co vs) (T : Str Z h x d co2 ws) : co = co2 ∧ b = d ∧ vs = ws := by
  have e1 := Fld.one S.2.1 T.2.1
  have e2 := Fld.one S.2.2.1 T.2.2.1
  cases e1; cases e2
  exact ⟨rfl, rfl, Av.one S.2.2.2 T.2.2.2⟩
theorem set_self {cs : List Int32} {i : Nat} {c : Int32} (h : cs[i]? = some c) : cs.set i c = cs := by
  apply List.ext_getElem?
  intro j
  by_cases hj : i = j
  · subst hj; rw [List.getElem?_set_self (List.getElem?_eq_some_iff.mp h).1, h]
  · rw [List.getElem?_set_ne hj]
theorem static_int {s : State} {args : Array Value} {C n d : String} {v : Int32} (h : (Cond.eq (.static C n d) (.int v)).value args s none s [] = some true) : (Term.static C n d).eval args s none [] s = some (.int v) := by
  obtain ⟨x, y, e1, e2, -, -⟩ := cmp_v (Or.inl h)
  cases (Term.int_eval v).symm.trans e2
  cases x <;> simp [Cond.value, e1, Term.int_eval] at h
  rw [e1, h]
end Jvm.Own
namespace Jvm.Own
open Sem ClassFile Op Lib Jvm.Stand Jvm.Free Jvm.LawKit Jvm.RoadKit
theorem decl_of {a : Array Value} {U : State} {y : MethodName} {by' : ByteArray} {ml' : Nat} {ret' : Option FieldType} (w : (Cond.instanceMethod y).before a U = true) (wc : (Cond.code y by' ml' ret').before a U = true) : (Cond.declares y).before a U = true := by
  obtain ⟨mk, meth, h1, h2, h3, h4⟩ := Cond.instanceMethod_spec w
  obtain ⟨m2, cM, q1, -, -, -, -, -, -, hsig⟩ := Cond.code_spec h1 wc
  cases h2.symm.trans q1
  simp [Cond.before, Cond.holds, Cond.value, h1, h2, h3, hsig]
theorem nf_cls {a : Array Value} {U : State} {x y : MethodName} {C : String} (wsel : (Cond.selects C x x).before a U = true) (wd : (Cond.declares x).before a U = true) (hc : x.cls = y.cls) : NotFace U y := fun r0 h0 => by
  obtain ⟨m, meth, hn, -⟩ := Cond.declares_spec wd
  obtain ⟨kr, h1, h2⟩ := notFace_of_selects wsel m hn
  have e1 := findClass_of_methodNamed hn
  have e2 := findClass_of_methodNamed h0
  rw [hc] at e1
  have e3 : m.cls = r0.cls := Option.some.inj (e1.symm.trans e2)
  rw [← e3]
  exact ⟨kr, h1, h2⟩
theorem same_own {a : Array Value} {U : State} {y : MethodName} (wd : (Cond.declares y).before a U = true) (nf : NotFace U y) (hy : (y.cls == "java/lang/invoke/MethodHandle" || y.cls == "java/lang/invoke/VarHandle") = false) : (Cond.sameMethod y.cls y.cls y.name y.desc).before a U = true := by
  obtain ⟨m, meth, hn, -⟩ := Cond.declares_spec wd
  obtain ⟨kr, h1, h2⟩ := nf m hn
  have hc := findClass_of_methodNamed hn
  have hf := State.methodFound?_of_named hn (hyOf hy)
  have hn' : U.methodNamed? ⟨y.cls, y.name, y.desc⟩ = some m := hn
  simp [Cond.before, Cond.holds, Cond.value, hc, hf, hn', h1, h2]
theorem stretch_eq {vs : List Value} {sp n : Nat} {dv : Value} (h : sp + n ≤ vs.length) : ((List.range n).map fun i => vs.getD (sp + i) dv) = (vs.drop sp).take n := by
  apply List.ext_getElem?
  intro i
  by_cases hi : i < n
  · rw [List.getElem?_map, List.getElem?_range hi, List.getElem?_take_of_lt hi, List.getElem?_drop, Option.map_some, List.getD_eq_getElem?_getD, List.getElem?_eq_getElem (show sp + i < vs.length by omega)]; rfl
  · rw [List.getElem?_eq_none (by simp; omega), List.getElem?_eq_none (by simp; omega)]
theorem Av.arv {Z : State} {h : Heap} {a : Nat} {ty : FieldType} {vs : List Value} (A : Av Z h a ty vs) (dv : Value) : ∃ k, Arv Z h a k ty (Int32.ofNat vs.length) vs dv := by
  obtain ⟨c, A, rfl, q, f⟩ := A
  have hs : c.slots.toList.length = c.slots.size := by simp
  rw [hs] at q ⊢
  refine ⟨c.cls, c, A, rfl, (i32_tn q).symm, i32_nn q, ?_, ?_⟩
  · intro i hi
    rw [List.getD_eq_getElem?_getD, Array.getElem?_toList, Array.getElem?_eq_getElem hi]; rfl
  · intro i hi
    rw [List.getD_eq_getElem?_getD, List.getElem?_eq_getElem (show i < c.slots.toList.length by rw [hs]; exact hi)]
    exact f _ (List.getElem_mem _)
theorem avOf {Z : State} {h : Heap} {a : Nat} {k : ClassId} {ty : FieldType} {z : Int32} {vs : List Value} {dv : Value} (A : Arv Z h a k ty z vs dv) (hl : vs.length = z.toNatClampNeg) : Av Z h a ty vs := by
  obtain ⟨c, A, -, q, q0, H, G⟩ := A
  have e : c.slots.toList = vs := by
    apply List.ext_getElem?
    intro i
    by_cases hi : i < c.slots.size
    · rw [Array.getElem?_toList, H i hi, List.getD_eq_getElem?_getD, List.getElem?_eq_getElem (show i < vs.length by omega)]; rfl
    · rw [List.getElem?_eq_none (by simp; omega), List.getElem?_eq_none (by omega)]
  refine ⟨c, A, e, ?_, ?_⟩
  · rw [hl]; have := z.toInt_lt; simp only [Int32.toNatClampNeg]; omega
  · intro v hv
    obtain ⟨i, hi, rfl⟩ := List.mem_iff_getElem.mp hv
    have := G i (by omega)
    rw [List.getD_eq_getElem?_getD, List.getElem?_eq_getElem hi] at this
    exact this
section Jdk
variable {Z : State} {n0 : Nat} {p : Program} {l : Launch} {e : Env} {R : Room} {s : State} {own : String} {m : MethodId} {args : Array Value} {below : List Frame} {meth : Method} {c : Code} {Q : Option Value → Heap → Lits → Prop} {h : Heap} {k n : Nat} {Ls : Lits} {pc nx : Nat} {L : List Slot} {st : List Value}
variable {bytes : ByteArray} {ml : Nat} {ret : Option FieldType} {nm : String} {a0 : Array Value}
/-- super.m(..) -/
theorem Run.callSuper (F : Fx p c meth bytes ml ret nm) {i : Nat} {y : MethodName} {K0 : String} {by' : ByteArray} {ml' : Nat} {ret' : Option FieldType} {rm : Room} {a : Nat} {as : List Value} {Qy : Option Value → Heap → Lits → Prop} {sig : MethodDescriptor}
    (wl : (Cond.methodLink own i y).before a0 Z = true) (wm : (Cond.sameMethod y.cls y.cls y.name y.desc).before a0 Z = true) (ws : (Cond.instanceMethod y).before a0 Z = true) (wu : (Cond.superclass own y.cls).before a0 Z = true) (wz : (Cond.initialized y.cls).before a0 Z = true) (wc : (Cond.code y by' ml' ret').before a0 Z = true) (E : Ins Z h a K0 true)
    (C : Con l Z n0 y by' ml' ret' rm (.ref a :: as) h Ls [] Qy) (hn : y.name ≠ "<init>") (hsig : parseMethodDescriptor y.desc = some sig) (hlen : as.length = sig.parameters.length) (hsz : L.length = ml)
    (hf : Nat.ble (rm.frames + 1) R.frames = true) (hl : Nat.ble ((st.map fun v => v.category).sum + (ml' + 11) + rm.locals) R.locals = true) (hc : k + rm.cells ≤ R.cells) (hs : n + rm.slots ≤ R.slots) {st0 : List Value} (hst : st0 = as.reverse ++ .ref a :: st) (d : Dc bytes pc (.invokespecial i) 3 nx)
    (K : ∀ v h' Ls', Qy v h' Ls' → Old Z n0 h' → h.size ≤ h'.size → Run Z n0 p l e R s own m args below meth c Q h' (k + rm.cells) (n + rm.slots) Ls' nx L (v.toList ++ st)) : Run Z n0 p l e R s own m args below meth c Q h k n Ls pc L st0 := fun T W => by
  have hd := hbD F d; obtain ⟨-, rfl⟩ := d
  obtain ⟨vm0, locs, k0, X, eT, hS, hk, hZ, hown, N, hO, I, kn⟩ := W
  subst hst
  obtain ⟨v, vm1, B, -, X', hS', hg, ⟨L1, Ls', q1, q2, q3, q4, q5, q6, q7⟩, st'⟩ := superBackS X F.1 hZ hown wl wm ws wu hn (C.back hZ I (kn.alike hS.1.alike) wc wz (Nat.le_of_ble_eq_true hf) (Nat.le_of_ble_eq_true hl)) eT E (g := mkF m pc L.toArray (as.reverse ++ .ref a :: st)) rfl (by show L.toArray.size = _; rw [F.2.2.1, ← hsz]; simp) wc (argsL := as) (rest := st) (lenOf hsig hlen) rfl (by show 2 * 0 + _ ≤ _; omega) hd (fun _ _ => ⟨rfl, eT, hc, hs⟩)
  dsimp only [Pt.U, Pt.locs, Pt.cells, Pt.slots] at X' hS' hg q1 q2 q3 q5 q6 q7 st'
  rw [q5, q6, q7] at X'
  rw [eT] at hg
  obtain ⟨u, o, r1, r⟩ := K v _ Ls' q1 q2 hg B.1 ⟨B.1.vm, _, _, X', rfl, hS.trans hS' (Nat.le_trans hk hg), Nat.le_refl _, State.Warmed39.trans hZ hS'.1, (hS'.1.alike.findClass _ _).trans hown, N.app q4, q2, q3, kn⟩
  exact ⟨u, o, st'.trans r1, r⟩
theorem Run.lookHit (F : Fx p c meth bytes ml ret nm) {x : Int32} {df : Int} {pairs : Array (Int × Int)} {ln t : Nat} {ky off : Int} (d : Dc bytes pc (.lookupswitch df pairs) ln nx) (hs : (pairs.toList.zip (pairs.toList.drop 1)).all (fun (a, next) => a.1 < next.1) = true) (hfind : pairs.find? (·.1 == x.toInt) = some (ky, off)) (ht : (pc : Int) + off = t)
    (K : Run Z n0 p l e R s own m args below meth c Q h k n Ls t L st) : Run Z n0 p l e R s own m args below meth c Q h k n Ls pc L (.int x :: st) := by
  have hd := hbD F d; obtain ⟨-, rfl⟩ := d
  have ht' : ((pc : Int) + off).toNat = t := by omega
  subst ht'
  exact Run.still (fun T vm0 locs X eT hZ hown u s => X.lookupswitchHit F.1 (g := mkF m pc L.toArray (.int x :: st)) rfl rfl hd hs hfind (by show 0 ≤ (pc : Int) + off; omega) u s) K
theorem Run.lookMiss (F : Fx p c meth bytes ml ret nm) {x : Int32} {df : Int} {pairs : Array (Int × Int)} {ln t : Nat} (d : Dc bytes pc (.lookupswitch df pairs) ln nx) (hs : (pairs.toList.zip (pairs.toList.drop 1)).all (fun (a, next) => a.1 < next.1) = true) (hfind : pairs.find? (·.1 == x.toInt) = none) (ht : (pc : Int) + df = t)
    (K : Run Z n0 p l e R s own m args below meth c Q h k n Ls t L st) : Run Z n0 p l e R s own m args below meth c Q h k n Ls pc L (.int x :: st) := by
  have hd := hbD F d; obtain ⟨-, rfl⟩ := d
  have ht' : ((pc : Int) + df).toNat = t := by omega
  subst ht'
  exact Run.still (fun T vm0 locs X eT hZ hown u s => X.lookupswitchMiss F.1 (g := mkF m pc L.toArray (.int x :: st)) rfl rfl hd hs hfind (by show 0 ≤ (pc : Int) + df; omega) u s) K
/-- System.arraycopy between arrays of one primitive kind -/
theorem Run.arraycopy (F : Fx p c meth bytes ml ret nm) {i : Nat} {a b : Nat} {ty : FieldType} {vs vd us : List Value} {sp dp nn : Nat} {x y z : Int32}
    (w1 : (Cond.methodLink own i Jvm.Stand.acN).before a0 Z = true) (w2 : (Cond.native Jvm.Stand.acN).before a0 Z = true) (w3 : (Cond.static Jvm.Stand.acN).before a0 Z = true) (w4 : (Cond.initialized "java/lang/System").before a0 Z = true)
    (A : Av Z h a ty vs) (B : Av Z h b ty vd) (hty : refKind ty = false) (g : n0 ≤ b) (hx : x.toInt = sp) (hy : y.toInt = dp) (hz : z.toInt = nn) (h4 : sp + nn ≤ vs.length) (h5 : dp + nn ≤ vd.length) (hus : (vs.drop sp).take nn = us) (hsz : L.length = ml)
    (hf : Nat.ble 1 R.frames = true) (hl : Nat.ble ((st.map fun v => v.category).sum + 18) R.locals = true) (d : Dc bytes pc (.invokestatic i) 3 nx)
    (K : ∀ h', Keep h h' [b] → Av Z h' b ty (vd.take dp ++ us ++ vd.drop (dp + nn)) → Run Z n0 p l e R s own m args below meth c Q h' k n Ls nx L st) : Run Z n0 p l e R s own m args below meth c Q h k n Ls pc L (.int z :: .int y :: .ref b :: .int x :: .ref a :: st) := fun T W => by
  have hd := hbD F d; obtain ⟨-, rfl⟩ := d
  obtain ⟨vm0, locs, k0, X, eT, hS, hk, hZ, hown, N, hO, I, kn⟩ := W
  have lA := A.len
  have lB := B.len
  obtain ⟨kA, A'⟩ := A.arv .null
  obtain ⟨kB, B'⟩ := B.arv .null
  have e1 := i32_nat hx
  have e2 := i32_nat hy
  have e3 := i32_nat hz
  have ew : nativeFrameWords "java/lang/System" "arraycopy" 5 = 7 := by first | decide | simp [nativeFrameWords]
  subst hus
  obtain ⟨T', h', L', X', e', N', K', B2, st'⟩ := cpA X F.1 hZ hown w1 w2 w3 w4 eT A' B' (us := (vs.drop sp).take nn) (Or.inl ⟨rfl, hty⟩) (sp := x) (dp := y) (nn := z) (i32_nneg (by omega)) (i32_nneg (by omega)) (i32_nneg (by omega)) (by rw [e1, e3, i32_tn lA]; exact h4) (by rw [e2, e3, i32_tn lB]; exact h5) (by rw [e1, e3]; exact (stretch_eq h4).symm) (by rw [e2, e3]; exact h5) N g (g := mkF m pc L.toArray (.int z :: .int y :: .ref b :: .int x :: .ref a :: st)) rfl (by show L.toArray.size = _; rw [F.2.2.1, ← hsz]; simp) (rest := st) rfl hd (Nat.le_of_ble_eq_true hf) (W := (st.map fun v => v.category).sum) (by show 2 * 0 + _ ≤ _; omega) (by rw [ew]; exact Nat.le_of_ble_eq_true hl)
  rw [e2, e3] at B2
  have B3 := avOf B2 (by rw [i32_tn lB]; simp; omega)
  obtain ⟨u, o, r1, r⟩ := K h' K' B3 T' ⟨vm0, L', k0, X', e', hS, Nat.le_trans hk K'.1, hZ, hown, N', hO.keep K' (allS g all0), I, kn⟩
  exact ⟨u, o, st' _ r1, r⟩
/-- array.clone() -/
theorem Run.clone (F : Fx p c meth bytes ml ret nm) {i : Nat} {ad : String} {a : Nat} {ty : FieldType} {vs : List Value}
    (w1 : (Cond.methodLink own i ⟨ad, "clone", "()Ljava/lang/Object;"⟩).before a0 Z = true) (w2 : (Cond.sameMethod ad "java/lang/Object" "clone" "()Ljava/lang/Object;").before a0 Z = true) (w3 : (Cond.native ⟨"java/lang/Object", "clone", "()Ljava/lang/Object;"⟩).before a0 Z = true) (w4 : (Cond.instanceMethod ⟨"java/lang/Object", "clone", "()Ljava/lang/Object;"⟩).before a0 Z = true) (w5 : (Cond.selects ad ⟨ad, "clone", "()Ljava/lang/Object;"⟩ ⟨"java/lang/Object", "clone", "()Ljava/lang/Object;"⟩).before a0 Z = true) (w6 : (Cond.castable ad "java/lang/Cloneable").before a0 Z = true)
    (A : Av Z h a ty vs) (E : Exa Z h a ad) (hsz : L.length = ml) (hf : Nat.ble 1 R.frames = true) (hl : Nat.ble ((st.map fun v => v.category).sum + 14) R.locals = true) (cap : Nat) (hcap : vs.length ≤ cap) (hc : k + 1 ≤ R.cells) (hs : n + cap ≤ R.slots) (d : Dc bytes pc (.invokevirtual i) 3 nx)
    (K : ∀ h' b, b = h.size → Keep h h' [] → Av Z h' b ty vs → Exa Z h' b ad → Run Z n0 p l e R s own m args below meth c Q h' (k + 1) (n + cap) Ls nx L (.ref b :: st)) : Run Z n0 p l e R s own m args below meth c Q h k n Ls pc L (.ref a :: st) := fun T W => by
  have hd := hbD F d; obtain ⟨-, rfl⟩ := d
  obtain ⟨vm0, locs, k0, X, eT, hS, hk, hZ, hown, N, hO, I, kn⟩ := W
  have lA := A.len
  obtain ⟨kA, A'⟩ := A.arv .null
  obtain ⟨T', h', X', e', E', A2, E2, st'⟩ := cloneH X F.1 hZ hown w1 w2 w3 w4 w5 w6 eT (Arv.arh A') E (g := mkF m pc L.toArray (.ref a :: st)) rfl (by show L.toArray.size = _; rw [F.2.2.1, ← hsz]; simp) (rest := st) rfl hd (Nat.le_of_ble_eq_true hf) (W := (st.map fun v => v.category).sum) (cap := cap) (by show 2 * 0 + _ ≤ _; omega) (Nat.le_of_ble_eq_true hl) (by rw [i32_tn lA]; exact hcap) hc hs
  have A3 : Av Z h' h.size ty vs := avOf (show Arv Z h' h.size kA ty _ vs .null from A2) (by rw [i32_tn lA])
  obtain ⟨u, o, r1, r⟩ := K h' h.size rfl (Keep.ofExt E') A3 E2 T' ⟨vm0, locs, k0, X', e', hS, Nat.le_trans hk E'.1, hZ, hown, N, hO.ext E', I, kn⟩
  exact ⟨u, o, st' _ r1, r⟩
/-- newarray, with the name of the array's class -/
theorem Run.newarrayE (F : Fx p c meth bytes ml ret nm) {aty : ArrayType} {z : Int32} {len : Nat} {ad : String} (w : (Cond.arrayClass (newarray.typeOf aty)).before a0 Z = true) (had : "[" ++ (newarray.typeOf aty).toString = ad) (hz : ¬ z < 0) (hlen : z.toNatClampNeg = len) (cap : Nat) (hcap : len ≤ cap) (hb : Nat.ble (cap * 8) 536870912 = true) (hc : k + 1 ≤ R.cells) (hl : n + cap ≤ R.slots) (d : Dc bytes pc (.newarray aty) 2 nx)
    (K : ∀ h' a, a = h.size → Keep h h' [] → a < h'.size → Av Z h' a (newarray.typeOf aty) (List.replicate len (defaultValue (newarray.typeOf aty))) → Exa Z h' a ad → Run Z n0 p l e R s own m args below meth c Q h' (k + 1) (n + cap) Ls nx L (.ref a :: st)) : Run Z n0 p l e R s own m args below meth c Q h k n Ls pc L (.int z :: st) := fun T W => by
  have hd := hbD F d; obtain ⟨-, rfl⟩ := d
  obtain ⟨vm0, locs, k0, X, eT, hS, hk, hZ, hown, N, hO, I, kn⟩ := W
  subst hlen
  obtain ⟨T', h', cA, X', e', E', A', E2, st'⟩ := newPE X F.1 hZ w eT (g := mkF m pc L.toArray (.int z :: st)) rfl hd rfl hz hcap (Nat.le_of_ble_eq_true hb) hc hl had
  obtain ⟨u, o, r1, r⟩ := K h' h.size rfl (Keep.ofExt E') A'.lt ⟨_, A', by simp [newA], by simpa using (back32 hz).2, fun v hv => by rw [List.eq_of_mem_replicate hv]; cases aty <;> rfl⟩ E2 T' ⟨vm0, locs, k0, X', e', hS, Nat.le_trans hk E'.1, hZ, hown, N, hO.ext E', I, kn⟩
  exact ⟨u, o, st' _ r1, r⟩
end Jdk
end Jvm.Own
namespace Jvm.Own
open Sem ClassFile Op Lib Jvm.Stand Jvm.Free Jvm.LawKit Jvm.RoadKit
theorem i32_add {a b : Nat} (h : a + b < 2 ^ 31) : Int32.ofNat a + Int32.ofNat b = Int32.ofNat (a + b) := by
  apply Int32.toInt_inj.mp
  have h1 := c_iadd (Int32.ofNat a) (Int32.ofNat b)
  have h2 := rng32 (Int32.ofNat a + Int32.ofNat b)
  rw [i32_ti (i := a) (by omega), i32_ti (i := b) (by omega)] at h1
  rw [i32_ti h]
  omega
theorem i32_subI {a b : Nat} (ha : a < 2 ^ 31) (hb : b < 2 ^ 31) : (Int32.ofNat a - Int32.ofNat b).toInt = (a : Int) - b := by
  have h1 := c_isub (Int32.ofNat a) (Int32.ofNat b)
  have h2 := rng32 (Int32.ofNat a - Int32.ofNat b)
  rw [i32_ti ha, i32_ti hb] at h1
  omega
theorem i32_sub {a b : Nat} (h : b ≤ a) (ha : a < 2 ^ 31) : Int32.ofNat a - Int32.ofNat b = Int32.ofNat (a - b) := by
  apply i32_eq
  rw [i32_subI ha (by omega)]
  omega
/-- bytes a char, by the coder -/
def wd (u : Bool) : Nat := if u then 2 else 1
theorem wd_pos (u : Bool) : 0 < wd u := by cases u <;> decide
theorem shl_b2i (u : Bool) {a : Nat} (h : 2 * a < 2 ^ 31) : Int32.ofNat a <<< (b2i u &&& 31) = Int32.ofNat (wd u * a) := by
  cases u
  · apply Int32.toInt_inj.mp
    have h1 : ((Int32.ofNat a <<< (b2i false &&& 31)).toInt - (Int32.ofNat a).toInt * (2 ^ 0 : Nat)) % 4294967296 = 0 := c_ishl (Int32.ofNat a) 0 0 (by decide)
    have h2 := rng32 (Int32.ofNat a <<< (b2i false &&& 31))
    have e : wd false * a = a := by simp [wd]
    rw [e, i32_ti (i := a) (by omega)]
    rw [i32_ti (i := a) (by omega)] at h1
    simp only [Nat.pow_zero] at h1
    omega
  · have e : wd true * a = 2 * a := by simp [wd]
    rw [e]; exact i32_dbl h
theorem shr_b2i (u : Bool) {a : Nat} (h : a < 2 ^ 31) : Int32.ofNat a >>> (b2i u &&& 31) = Int32.ofNat (a / wd u) := by
  cases u
  · apply Int32.toInt_inj.mp
    have h1 : (Int32.ofNat a >>> (b2i false &&& 31)).toInt = (Int32.ofNat a).toInt / (2 ^ 0 : Nat) := c_ishr (Int32.ofNat a) 0 0 (by decide)
    have e : a / wd false = a := by simp [wd]
    rw [h1, e]; simp
  · apply Int32.toInt_inj.mp
    have h1 : (Int32.ofNat a >>> (b2i true &&& 31)).toInt = (Int32.ofNat a).toInt / (2 ^ 1 : Nat) := c_ishr (Int32.ofNat a) 1 1 (by decide)
    have e : a / wd true = a / 2 := by simp [wd]
    have p : ((2 ^ 1 : Nat) : Int) = 2 := by decide
    rw [h1, e, i32_ti h, p, i32_ti (i := a / 2) (by omega)]
    omega
theorem ior_nn {x y : Int32} (hx : 0 ≤ x.toInt) (hy : 0 ≤ y.toInt) : 0 ≤ (x ||| y).toInt := by
  have e : ∀ z : Int32, z.toBitVec.msb = decide (z.toInt < 0) := fun z => BitVec.msb_eq_toInt
  have h1 := e x
  have h2 := e y
  have h3 := e (x ||| y)
  rw [decide_eq_false (by omega)] at h1 h2
  have h4 : (x ||| y).toBitVec.msb = (x.toBitVec.msb || y.toBitVec.msb) := BitVec.msb_or
  rw [h1, h2] at h4
  rw [h4] at h3
  have := of_decide_eq_false h3.symm
  omega
/-- the bytes of a builder's or a String's chars -/
def byts (u : Bool) (ds : List Int32) : List Value := if u then u16 ds else ds.map lb
theorem byts_len (u : Bool) (ds : List Int32) : (byts u ds).length = wd u * ds.length := by
  cases u
  · simp [byts, wd]
  · simp [byts, wd, u16_len]
theorem byts_app (u : Bool) (ds es : List Int32) : byts u (ds ++ es) = byts u ds ++ byts u es := by
  cases u
  · simp [byts]
  · simp [byts, u16_app]
theorem coOf_b (cs : List Int32) : coOf cs = b2i (!lat cs) := by
  unfold coOf b2i
  cases lat cs
  · simp
  · simp
theorem byOf_b (cs : List Int32) : byOf cs = byts (!lat cs) cs := by
  unfold byOf byts
  cases lat cs
  · simp
  · simp
theorem lat_app (cs ds : List Int32) : lat (cs ++ ds) = (lat cs && lat ds) := by simp [lat, List.all_append]
theorem set2 {A : List Value} {j : Nat} {r0 r1 p q : Value} {R : List Value} (h : A.length = 2 * j) : ((A ++ r0 :: r1 :: R).set (2 * j) p).set (2 * j + 1) q = A ++ p :: q :: R := by
  rw [List.set_append_right _ _ (by omega), h, Nat.sub_self, List.set_cons_zero, List.set_append_right _ _ (by omega), h, show 2 * j + 1 - 2 * j = 0 + 1 by omega, List.set_cons_succ, List.set_cons_zero]
theorem set1 {A : List Value} {j : Nat} {r p : Value} {R : List Value} (h : A.length = j) : (A ++ r :: R).set j p = A ++ p :: R := by
  rw [List.set_append_right _ _ (by omega), h, Nat.sub_self, List.set_cons_zero]
theorem low8' {c : Int32} (h0 : 0 ≤ c.toInt) (h1 : c.toInt < 256) : c.toInt8.toInt32 &&& 255 = c := by
  apply Int32.toInt_inj.mp
  have := c_i2b c
  rw [and255]; omega
abbrev SBN : String := "java/lang/StringBuilder"
abbrev ASB : String := "java/lang/AbstractStringBuilder"
/-- a StringBuilder x with its array v of cap bytes, that holds the chars ds -/
def Sb (Z : State) (h : Heap) (x v : Nat) (u : Bool) (cap : Nat) (ds : List Int32) : Prop :=
  Exa Z h x SBN ∧ Fld Z h x ASB "value" "[B" (.ref v) ∧ Fld Z h x ASB "coder" "B" (.int (b2i u)) ∧ Fld Z h x ASB "count" "I" (.int (Int32.ofNat ds.length)) ∧ Fld Z h x ASB "maybeLatin1" "Z" (.int 0) ∧ Exa Z h v "[B" ∧ ∃ tl : List Value, tl.length + wd u * ds.length = cap ∧ Av Z h v .byte (byts u ds ++ tl)
theorem Sb.keep {Z : State} {h h' : Heap} {ws : List Addr} {x v : Nat} {u : Bool} {cap : Nat} {ds : List Int32} (S : Sb Z h x v u cap ds) (K : Keep h h' ws) (q : x ∉ ws) (q' : v ∉ ws) : Sb Z h' x v u cap ds := by
  obtain ⟨a, b, c, d, e, f, tl, g, i⟩ := S
  exact ⟨a.keep K, b.keep K q, c.keep K q, d.keep K q, e.keep K q, f.keep K, tl, g, i.keep K q'⟩
theorem Sb.ne {Z : State} {h : Heap} {x v : Nat} {u : Bool} {cap : Nat} {ds : List Int32} (S : Sb Z h x v u cap ds) : x ≠ v := Exa.ne S.1 S.2.2.2.2.2.1 (by decide)
theorem Sb.lt {Z : State} {h : Heap} {x v : Nat} {u : Bool} {cap : Nat} {ds : List Int32} (S : Sb Z h x v u cap ds) : x < h.size ∧ v < h.size := ⟨ltE S.1, ltE S.2.2.2.2.2.1⟩
end Jvm.Own
namespace Jvm.Pilot.@@N@@
open Jvm Jvm.ClassFile Sem Op Lib Jvm.Free Jvm.Stand Jvm.LawKit Jvm.RoadKit Bundle Jvm.Own Jvm.Pilot.@@N@@.Jvm.D
theorem pn0 : plainName "java/lang/String" = true := by first | (simp [plainName, overriddenIn]; done) | decide +kernel
theorem pn1 : plainName "jdk/internal/util/Preconditions" = true := by first | (simp [plainName, overriddenIn]; done) | decide +kernel
theorem pn2 : plainName "java/lang/StringLatin1" = true := by first | (simp [plainName, overriddenIn]; done) | decide +kernel
theorem pn3 : plainName "java/lang/StringUTF16" = true := by first | (simp [plainName, overriddenIn]; done) | decide +kernel
theorem pn4 : plainName "java/lang/AbstractStringBuilder" = true := by first | (simp [plainName, overriddenIn]; done) | decide +kernel
theorem pn5 : plainName "java/lang/StringBuilder" = true := by first | (simp [plainName, overriddenIn]; done) | decide +kernel
theorem pn6 : plainName "jdk/internal/util/ArraysSupport" = true := by first | (simp [plainName, overriddenIn]; done) | decide +kernel
theorem pn7 : plainName "java/util/Arrays" = true := by first | (simp [plainName, overriddenIn]; done) | decide +kernel
theorem pn8 : plainName "com/example/twice_to_once/twicetoonce/cli/RecordLines" = true := by first | (simp [plainName, overriddenIn]; done) | decide +kernel
theorem pn9 : plainName "com/example/twice_to_once/twicetoonce/cli/RecordLinesFieldPinLaw" = true := by first | (simp [plainName, overriddenIn]; done) | decide +kernel
theorem pf_max : plainFor (⟨"java/lang/Math", "max", "(II)I"⟩ : MethodName) = true := by decide +kernel
theorem pf_min : plainFor (⟨"java/lang/Math", "min", "(II)I"⟩ : MethodName) = true := by decide +kernel
theorem pd0 : parseMethodDescriptor "()B" = some ⟨[], some .byte⟩ := by decide +kernel
theorem pd1 : parseMethodDescriptor "(IILjava/util/function/BiFunction;)I" = some ⟨[.int, .int, (.object "java/util/function/BiFunction")], some .int⟩ := by decide +kernel
theorem pd2 : parseMethodDescriptor "(II)V" = some ⟨[.int, .int], none⟩ := by decide +kernel
theorem pd3 : parseMethodDescriptor "(I)I" = some ⟨[.int], some .int⟩ := by decide +kernel
theorem pd4 : parseMethodDescriptor "([B)I" = some ⟨[(.array .byte)], some .int⟩ := by decide +kernel
theorem pd5 : parseMethodDescriptor "(I[B)V" = some ⟨[.int, (.array .byte)], none⟩ := by decide +kernel
theorem pd6 : parseMethodDescriptor "([BI)C" = some ⟨[(.array .byte), .int], some .char⟩ := by decide +kernel
theorem pd7 : parseMethodDescriptor "()Z" = some ⟨[], some .boolean⟩ := by decide +kernel
theorem pd8 : parseMethodDescriptor "()I" = some ⟨[], some .int⟩ := by decide +kernel
theorem pd9 : parseMethodDescriptor "(II)I" = some ⟨[.int, .int], some .int⟩ := by decide +kernel
theorem pd10 : parseMethodDescriptor "(III)I" = some ⟨[.int, .int, .int], some .int⟩ := by decide +kernel
theorem pd11 : parseMethodDescriptor "([BI)[B" = some ⟨[(.array .byte), .int], some (.array .byte)⟩ := by decide +kernel
theorem pd12 : parseMethodDescriptor "([BII)V" = some ⟨[(.array .byte), .int, .int], none⟩ := by decide +kernel
theorem pd13 : parseMethodDescriptor "(IIILjava/util/function/BiFunction;)I" = some ⟨[.int, .int, .int, (.object "java/util/function/BiFunction")], some .int⟩ := by decide +kernel
theorem pd14 : parseMethodDescriptor "(II[B)V" = some ⟨[.int, .int, (.array .byte)], none⟩ := by decide +kernel
theorem pd15 : parseMethodDescriptor "([BI[BII)V" = some ⟨[(.array .byte), .int, (.array .byte), .int, .int], none⟩ := by decide +kernel
theorem pd16 : parseMethodDescriptor "(I)[B" = some ⟨[.int], some (.array .byte)⟩ := by decide +kernel
theorem pd17 : parseMethodDescriptor "(I)V" = some ⟨[.int], none⟩ := by decide +kernel
theorem pd18 : parseMethodDescriptor "()V" = some ⟨[], none⟩ := by decide +kernel
theorem pd19 : parseMethodDescriptor "(C)Z" = some ⟨[.char], some .boolean⟩ := by decide +kernel
theorem pd20 : parseMethodDescriptor "(C)Ljava/lang/AbstractStringBuilder;" = some ⟨[.char], some (.object "java/lang/AbstractStringBuilder")⟩ := by decide +kernel
theorem pd21 : parseMethodDescriptor "(Ljava/lang/String;)V" = some ⟨[(.object "java/lang/String")], none⟩ := by decide +kernel
theorem pd22 : parseMethodDescriptor "([BIB)V" = some ⟨[(.array .byte), .int, .byte], none⟩ := by decide +kernel
theorem pd23 : parseMethodDescriptor "(ILjava/lang/String;)V" = some ⟨[.int, (.object "java/lang/String")], none⟩ := by decide +kernel
theorem pd24 : parseMethodDescriptor "(Ljava/lang/String;)Ljava/lang/AbstractStringBuilder;" = some ⟨[(.object "java/lang/String")], some (.object "java/lang/AbstractStringBuilder")⟩ := by decide +kernel
theorem pd25 : parseMethodDescriptor "([BII)[B" = some ⟨[(.array .byte), .int, .int], some (.array .byte)⟩ := by decide +kernel
theorem pd26 : parseMethodDescriptor "()[B" = some ⟨[], some (.array .byte)⟩ := by decide +kernel
theorem pd27 : parseMethodDescriptor "(Ljava/lang/AbstractStringBuilder;Ljava/lang/Void;)V" = some ⟨[(.object "java/lang/AbstractStringBuilder"), (.object "java/lang/Void")], none⟩ := by decide +kernel
theorem pd28 : parseMethodDescriptor "(Ljava/lang/StringBuilder;)V" = some ⟨[(.object "java/lang/StringBuilder")], none⟩ := by decide +kernel
theorem pd29 : parseMethodDescriptor "([CI[BII)I" = some ⟨[(.array .char), .int, (.array .byte), .int, .int], some .int⟩ := by decide +kernel
theorem pd30 : parseMethodDescriptor "([CII)[B" = some ⟨[(.array .char), .int, .int], some (.array .byte)⟩ := by decide +kernel
theorem pd31 : parseMethodDescriptor "([BI)B" = some ⟨[(.array .byte), .int], some .byte⟩ := by decide +kernel
theorem pd32 : parseMethodDescriptor "([CIILjava/lang/Void;)V" = some ⟨[(.array .char), .int, .int, (.object "java/lang/Void")], none⟩ := by decide +kernel
theorem pd33 : parseMethodDescriptor "(C)Ljava/lang/StringBuilder;" = some ⟨[.char], some (.object "java/lang/StringBuilder")⟩ := by decide +kernel
theorem pd34 : parseMethodDescriptor "(Ljava/lang/String;)Ljava/lang/StringBuilder;" = some ⟨[(.object "java/lang/String")], some (.object "java/lang/StringBuilder")⟩ := by decide +kernel
theorem pd35 : parseMethodDescriptor "()Ljava/lang/String;" = some ⟨[], some (.object "java/lang/String")⟩ := by decide +kernel
theorem pd36 : parseMethodDescriptor "(I)C" = some ⟨[.int], some .char⟩ := by decide +kernel
theorem pd37 : parseMethodDescriptor "(C)C" = some ⟨[.char], some .char⟩ := by decide +kernel
theorem pd38 : parseMethodDescriptor "(Ljava/lang/String;)Ljava/lang/String;" = some ⟨[(.object "java/lang/String")], some (.object "java/lang/String")⟩ := by decide +kernel
theorem pd39 : parseMethodDescriptor "(Ljava/lang/String;[CII)Z" = some ⟨[(.object "java/lang/String"), (.array .char), .int, .int], some .boolean⟩ := by decide +kernel
theorem pd40 : parseMethodDescriptor "([C)V" = some ⟨[(.array .char)], none⟩ := by decide +kernel
theorem pd41 : parseMethodDescriptor "([CIC)I" = some ⟨[(.array .char), .int, .char], some .int⟩ := by decide +kernel
theorem d7_0 : Dc jdk_42_method_152_code 0 (.getstatic 38) 3 3 := ⟨by decide +kernel, rfl⟩
theorem d7_3 : Dc jdk_42_method_152_code 3 (.ifCond .eq 10) 3 6 := ⟨by decide +kernel, rfl⟩
theorem d7_6 : Dc jdk_42_method_152_code 6 (.aload_n 0) 1 7 := ⟨by decide +kernel, rfl⟩
theorem d7_7 : Dc jdk_42_method_152_code 7 (.getfield 15) 3 10 := ⟨by decide +kernel, rfl⟩
theorem d7_10 : Dc jdk_42_method_152_code 10 (.goto 4) 3 13 := ⟨by decide +kernel, rfl⟩
theorem d7_13 : Dc jdk_42_method_152_code 13 (.iconst 1) 1 14 := ⟨by decide +kernel, rfl⟩
theorem d7_14 : Dc jdk_42_method_152_code 14 (.ireturn) 1 15 := ⟨by decide +kernel, rfl⟩
theorem d6_0 : Dc jdk_42_method_54_code 0 (.aload_n 0) 1 1 := ⟨by decide +kernel, rfl⟩
theorem d6_1 : Dc jdk_42_method_54_code 1 (.getfield 9) 3 4 := ⟨by decide +kernel, rfl⟩
theorem d6_4 : Dc jdk_42_method_54_code 4 (.arraylength) 1 5 := ⟨by decide +kernel, rfl⟩
theorem d6_5 : Dc jdk_42_method_54_code 5 (.aload_n 0) 1 6 := ⟨by decide +kernel, rfl⟩
theorem d6_6 : Dc jdk_42_method_54_code 6 (.invokevirtual 335) 3 9 := ⟨by decide +kernel, rfl⟩
theorem d6_9 : Dc jdk_42_method_54_code 9 (.ishr) 1 10 := ⟨by decide +kernel, rfl⟩
theorem d6_10 : Dc jdk_42_method_54_code 10 (.ireturn) 1 11 := ⟨by decide +kernel, rfl⟩
theorem d25_0 : Dc jdk_42_method_154_code 0 (.getstatic 38) 3 3 := ⟨by decide +kernel, rfl⟩
theorem d25_3 : Dc jdk_42_method_154_code 3 (.ifCond .eq 14) 3 6 := ⟨by decide +kernel, rfl⟩
theorem d25_6 : Dc jdk_42_method_154_code 6 (.aload_n 0) 1 7 := ⟨by decide +kernel, rfl⟩
theorem d25_7 : Dc jdk_42_method_154_code 7 (.getfield 15) 3 10 := ⟨by decide +kernel, rfl⟩
theorem d25_10 : Dc jdk_42_method_154_code 10 (.ifCond .ne 7) 3 13 := ⟨by decide +kernel, rfl⟩
theorem d25_13 : Dc jdk_42_method_154_code 13 (.iconst 1) 1 14 := ⟨by decide +kernel, rfl⟩
theorem d25_14 : Dc jdk_42_method_154_code 14 (.goto 4) 3 17 := ⟨by decide +kernel, rfl⟩
theorem d25_17 : Dc jdk_42_method_154_code 17 (.iconst 0) 1 18 := ⟨by decide +kernel, rfl⟩
theorem d25_18 : Dc jdk_42_method_154_code 18 (.ireturn) 1 19 := ⟨by decide +kernel, rfl⟩
theorem d28_0 : Dc jdk_41_method_11_code 0 (.iload_n 0) 1 1 := ⟨by decide +kernel, rfl⟩
theorem d28_1 : Dc jdk_41_method_11_code 1 (.ifCond .lt 8) 3 4 := ⟨by decide +kernel, rfl⟩
theorem d28_4 : Dc jdk_41_method_11_code 4 (.iload_n 0) 1 5 := ⟨by decide +kernel, rfl⟩
theorem d28_5 : Dc jdk_41_method_11_code 5 (.iload_n 1) 1 6 := ⟨by decide +kernel, rfl⟩
theorem d28_6 : Dc jdk_41_method_11_code 6 (.if_icmp .lt 10) 3 9 := ⟨by decide +kernel, rfl⟩
theorem d28_9 : Dc jdk_41_method_11_code 9 (.aload_n 2) 1 10 := ⟨by decide +kernel, rfl⟩
theorem d28_10 : Dc jdk_41_method_11_code 10 (.iload_n 0) 1 11 := ⟨by decide +kernel, rfl⟩
theorem d28_11 : Dc jdk_41_method_11_code 11 (.iload_n 1) 1 12 := ⟨by decide +kernel, rfl⟩
theorem d28_12 : Dc jdk_41_method_11_code 12 (.invokestatic 95) 3 15 := ⟨by decide +kernel, rfl⟩
theorem d28_15 : Dc jdk_41_method_11_code 15 (.athrow) 1 16 := ⟨by decide +kernel, rfl⟩
theorem d28_16 : Dc jdk_41_method_11_code 16 (.iload_n 0) 1 17 := ⟨by decide +kernel, rfl⟩
theorem d28_17 : Dc jdk_41_method_11_code 17 (.ireturn) 1 18 := ⟨by decide +kernel, rfl⟩
theorem d27_0 : Dc jdk_42_method_155_code 0 (.iload_n 0) 1 1 := ⟨by decide +kernel, rfl⟩
theorem d27_1 : Dc jdk_42_method_155_code 1 (.iload_n 1) 1 2 := ⟨by decide +kernel, rfl⟩
theorem d27_2 : Dc jdk_42_method_155_code 2 (.getstatic 1053) 3 5 := ⟨by decide +kernel, rfl⟩
theorem d27_5 : Dc jdk_42_method_155_code 5 (.invokestatic 1059) 3 8 := ⟨by decide +kernel, rfl⟩
theorem d27_8 : Dc jdk_42_method_155_code 8 (.pop) 1 9 := ⟨by decide +kernel, rfl⟩
theorem d27_9 : Dc jdk_42_method_155_code 9 (.return_) 1 10 := ⟨by decide +kernel, rfl⟩
theorem d26_0 : Dc jdk_43_method_2_code 0 (.iload_n 1) 1 1 := ⟨by decide +kernel, rfl⟩
theorem d26_1 : Dc jdk_43_method_2_code 1 (.aload_n 0) 1 2 := ⟨by decide +kernel, rfl⟩
theorem d26_2 : Dc jdk_43_method_2_code 2 (.arraylength) 1 3 := ⟨by decide +kernel, rfl⟩
theorem d26_3 : Dc jdk_43_method_2_code 3 (.invokestatic 9) 3 6 := ⟨by decide +kernel, rfl⟩
theorem d26_6 : Dc jdk_43_method_2_code 6 (.aload_n 0) 1 7 := ⟨by decide +kernel, rfl⟩
theorem d26_7 : Dc jdk_43_method_2_code 7 (.iload_n 1) 1 8 := ⟨by decide +kernel, rfl⟩
theorem d26_8 : Dc jdk_43_method_2_code 8 (.baload) 1 9 := ⟨by decide +kernel, rfl⟩
theorem d26_9 : Dc jdk_43_method_2_code 9 (.sipush 255) 3 12 := ⟨by decide +kernel, rfl⟩
theorem d26_12 : Dc jdk_43_method_2_code 12 (.iand) 1 13 := ⟨by decide +kernel, rfl⟩
theorem d26_13 : Dc jdk_43_method_2_code 13 (.i2c) 1 14 := ⟨by decide +kernel, rfl⟩
theorem d26_14 : Dc jdk_43_method_2_code 14 (.ireturn) 1 15 := ⟨by decide +kernel, rfl⟩
theorem d48_0 : Dc jdk_52_method_4_code 0 (.getstatic 44) 3 3 := ⟨by decide +kernel, rfl⟩
theorem d48_3 : Dc jdk_52_method_4_code 3 (.ifCond .ne 25) 3 6 := ⟨by decide +kernel, rfl⟩
theorem d48_6 : Dc jdk_52_method_4_code 6 (.iload_n 1) 1 7 := ⟨by decide +kernel, rfl⟩
theorem d48_7 : Dc jdk_52_method_4_code 7 (.ifCond .lt 11) 3 10 := ⟨by decide +kernel, rfl⟩
theorem d48_10 : Dc jdk_52_method_4_code 10 (.iload_n 1) 1 11 := ⟨by decide +kernel, rfl⟩
theorem d48_11 : Dc jdk_52_method_4_code 11 (.aload_n 0) 1 12 := ⟨by decide +kernel, rfl⟩
theorem d48_12 : Dc jdk_52_method_4_code 12 (.invokestatic 48) 3 15 := ⟨by decide +kernel, rfl⟩
theorem d48_15 : Dc jdk_52_method_4_code 15 (.if_icmp .lt 13) 3 18 := ⟨by decide +kernel, rfl⟩
theorem d48_18 : Dc jdk_52_method_4_code 18 (.new 52) 3 21 := ⟨by decide +kernel, rfl⟩
theorem d48_21 : Dc jdk_52_method_4_code 21 (.dup) 1 22 := ⟨by decide +kernel, rfl⟩
theorem d48_22 : Dc jdk_52_method_4_code 22 (.ldc 54) 2 24 := ⟨by decide +kernel, rfl⟩
theorem d48_24 : Dc jdk_52_method_4_code 24 (.invokespecial 56) 3 27 := ⟨by decide +kernel, rfl⟩
theorem d48_27 : Dc jdk_52_method_4_code 27 (.athrow) 1 28 := ⟨by decide +kernel, rfl⟩
theorem d48_28 : Dc jdk_52_method_4_code 28 (.iload_n 1) 1 29 := ⟨by decide +kernel, rfl⟩
theorem d48_29 : Dc jdk_52_method_4_code 29 (.iconst 1) 1 30 := ⟨by decide +kernel, rfl⟩
theorem d48_30 : Dc jdk_52_method_4_code 30 (.ishl) 1 31 := ⟨by decide +kernel, rfl⟩
theorem d48_31 : Dc jdk_52_method_4_code 31 (.istore_n 1) 1 32 := ⟨by decide +kernel, rfl⟩
theorem d48_32 : Dc jdk_52_method_4_code 32 (.aload_n 0) 1 33 := ⟨by decide +kernel, rfl⟩
theorem d48_33 : Dc jdk_52_method_4_code 33 (.iload_n 1) 1 34 := ⟨by decide +kernel, rfl⟩
theorem d48_34 : Dc jdk_52_method_4_code 34 (.iinc 1 1) 3 37 := ⟨by decide +kernel, rfl⟩
theorem d48_37 : Dc jdk_52_method_4_code 37 (.iload_n 2) 1 38 := ⟨by decide +kernel, rfl⟩
theorem d48_38 : Dc jdk_52_method_4_code 38 (.getstatic 59) 3 41 := ⟨by decide +kernel, rfl⟩
theorem d48_41 : Dc jdk_52_method_4_code 41 (.ishr) 1 42 := ⟨by decide +kernel, rfl⟩
theorem d48_42 : Dc jdk_52_method_4_code 42 (.i2b) 1 43 := ⟨by decide +kernel, rfl⟩
theorem d48_43 : Dc jdk_52_method_4_code 43 (.bastore) 1 44 := ⟨by decide +kernel, rfl⟩
theorem d48_44 : Dc jdk_52_method_4_code 44 (.aload_n 0) 1 45 := ⟨by decide +kernel, rfl⟩
theorem d48_45 : Dc jdk_52_method_4_code 45 (.iload_n 1) 1 46 := ⟨by decide +kernel, rfl⟩
theorem d48_46 : Dc jdk_52_method_4_code 46 (.iload_n 2) 1 47 := ⟨by decide +kernel, rfl⟩
theorem d48_47 : Dc jdk_52_method_4_code 47 (.getstatic 63) 3 50 := ⟨by decide +kernel, rfl⟩
theorem d48_50 : Dc jdk_52_method_4_code 50 (.ishr) 1 51 := ⟨by decide +kernel, rfl⟩
theorem d48_51 : Dc jdk_52_method_4_code 51 (.i2b) 1 52 := ⟨by decide +kernel, rfl⟩
theorem d48_52 : Dc jdk_52_method_4_code 52 (.bastore) 1 53 := ⟨by decide +kernel, rfl⟩
theorem d48_53 : Dc jdk_52_method_4_code 53 (.return_) 1 54 := ⟨by decide +kernel, rfl⟩
theorem d49_0 : Dc jdk_52_method_5_code 0 (.getstatic 44) 3 3 := ⟨by decide +kernel, rfl⟩
theorem d49_3 : Dc jdk_52_method_5_code 3 (.ifCond .ne 25) 3 6 := ⟨by decide +kernel, rfl⟩
theorem d49_6 : Dc jdk_52_method_5_code 6 (.iload_n 1) 1 7 := ⟨by decide +kernel, rfl⟩
theorem d49_7 : Dc jdk_52_method_5_code 7 (.ifCond .lt 11) 3 10 := ⟨by decide +kernel, rfl⟩
theorem d49_10 : Dc jdk_52_method_5_code 10 (.iload_n 1) 1 11 := ⟨by decide +kernel, rfl⟩
theorem d49_11 : Dc jdk_52_method_5_code 11 (.aload_n 0) 1 12 := ⟨by decide +kernel, rfl⟩
theorem d49_12 : Dc jdk_52_method_5_code 12 (.invokestatic 48) 3 15 := ⟨by decide +kernel, rfl⟩
theorem d49_15 : Dc jdk_52_method_5_code 15 (.if_icmp .lt 13) 3 18 := ⟨by decide +kernel, rfl⟩
theorem d49_18 : Dc jdk_52_method_5_code 18 (.new 52) 3 21 := ⟨by decide +kernel, rfl⟩
theorem d49_21 : Dc jdk_52_method_5_code 21 (.dup) 1 22 := ⟨by decide +kernel, rfl⟩
theorem d49_22 : Dc jdk_52_method_5_code 22 (.ldc 54) 2 24 := ⟨by decide +kernel, rfl⟩
theorem d49_24 : Dc jdk_52_method_5_code 24 (.invokespecial 56) 3 27 := ⟨by decide +kernel, rfl⟩
theorem d49_27 : Dc jdk_52_method_5_code 27 (.athrow) 1 28 := ⟨by decide +kernel, rfl⟩
theorem d49_28 : Dc jdk_52_method_5_code 28 (.iload_n 1) 1 29 := ⟨by decide +kernel, rfl⟩
theorem d49_29 : Dc jdk_52_method_5_code 29 (.iconst 1) 1 30 := ⟨by decide +kernel, rfl⟩
theorem d49_30 : Dc jdk_52_method_5_code 30 (.ishl) 1 31 := ⟨by decide +kernel, rfl⟩
theorem d49_31 : Dc jdk_52_method_5_code 31 (.istore_n 1) 1 32 := ⟨by decide +kernel, rfl⟩
theorem d49_32 : Dc jdk_52_method_5_code 32 (.aload_n 0) 1 33 := ⟨by decide +kernel, rfl⟩
theorem d49_33 : Dc jdk_52_method_5_code 33 (.iload_n 1) 1 34 := ⟨by decide +kernel, rfl⟩
theorem d49_34 : Dc jdk_52_method_5_code 34 (.iinc 1 1) 3 37 := ⟨by decide +kernel, rfl⟩
theorem d49_37 : Dc jdk_52_method_5_code 37 (.baload) 1 38 := ⟨by decide +kernel, rfl⟩
theorem d49_38 : Dc jdk_52_method_5_code 38 (.sipush 255) 3 41 := ⟨by decide +kernel, rfl⟩
theorem d49_41 : Dc jdk_52_method_5_code 41 (.iand) 1 42 := ⟨by decide +kernel, rfl⟩
theorem d49_42 : Dc jdk_52_method_5_code 42 (.getstatic 59) 3 45 := ⟨by decide +kernel, rfl⟩
theorem d49_45 : Dc jdk_52_method_5_code 45 (.ishl) 1 46 := ⟨by decide +kernel, rfl⟩
theorem d49_46 : Dc jdk_52_method_5_code 46 (.aload_n 0) 1 47 := ⟨by decide +kernel, rfl⟩
theorem d49_47 : Dc jdk_52_method_5_code 47 (.iload_n 1) 1 48 := ⟨by decide +kernel, rfl⟩
theorem d49_48 : Dc jdk_52_method_5_code 48 (.baload) 1 49 := ⟨by decide +kernel, rfl⟩
theorem d49_49 : Dc jdk_52_method_5_code 49 (.sipush 255) 3 52 := ⟨by decide +kernel, rfl⟩
theorem d49_52 : Dc jdk_52_method_5_code 52 (.iand) 1 53 := ⟨by decide +kernel, rfl⟩
theorem d49_53 : Dc jdk_52_method_5_code 53 (.getstatic 63) 3 56 := ⟨by decide +kernel, rfl⟩
theorem d49_56 : Dc jdk_52_method_5_code 56 (.ishl) 1 57 := ⟨by decide +kernel, rfl⟩
theorem d49_57 : Dc jdk_52_method_5_code 57 (.ior) 1 58 := ⟨by decide +kernel, rfl⟩
theorem d49_58 : Dc jdk_52_method_5_code 58 (.i2c) 1 59 := ⟨by decide +kernel, rfl⟩
theorem d49_59 : Dc jdk_52_method_5_code 59 (.ireturn) 1 60 := ⟨by decide +kernel, rfl⟩
theorem d47_0 : Dc jdk_52_method_3_code 0 (.iload_n 0) 1 1 := ⟨by decide +kernel, rfl⟩
theorem d47_1 : Dc jdk_52_method_3_code 1 (.ifCond .ge 11) 3 4 := ⟨by decide +kernel, rfl⟩
theorem d47_4 : Dc jdk_52_method_3_code 4 (.new 17) 3 7 := ⟨by decide +kernel, rfl⟩
theorem d47_7 : Dc jdk_52_method_3_code 7 (.dup) 1 8 := ⟨by decide +kernel, rfl⟩
theorem d47_8 : Dc jdk_52_method_3_code 8 (.invokespecial 19) 3 11 := ⟨by decide +kernel, rfl⟩
theorem d47_11 : Dc jdk_52_method_3_code 11 (.athrow) 1 12 := ⟨by decide +kernel, rfl⟩
theorem d47_12 : Dc jdk_52_method_3_code 12 (.iload_n 0) 1 13 := ⟨by decide +kernel, rfl⟩
theorem d47_13 : Dc jdk_52_method_3_code 13 (.ldc 20) 2 15 := ⟨by decide +kernel, rfl⟩
theorem d47_15 : Dc jdk_52_method_3_code 15 (.if_icmp .lt 40) 3 18 := ⟨by decide +kernel, rfl⟩
theorem d47_18 : Dc jdk_52_method_3_code 18 (.new 21) 3 21 := ⟨by decide +kernel, rfl⟩
theorem d47_21 : Dc jdk_52_method_3_code 21 (.dup) 1 22 := ⟨by decide +kernel, rfl⟩
theorem d47_22 : Dc jdk_52_method_3_code 22 (.new 23) 3 25 := ⟨by decide +kernel, rfl⟩
theorem d47_25 : Dc jdk_52_method_3_code 25 (.dup) 1 26 := ⟨by decide +kernel, rfl⟩
theorem d47_26 : Dc jdk_52_method_3_code 26 (.invokespecial 25) 3 29 := ⟨by decide +kernel, rfl⟩
theorem d47_29 : Dc jdk_52_method_3_code 29 (.ldc 26) 2 31 := ⟨by decide +kernel, rfl⟩
theorem d47_31 : Dc jdk_52_method_3_code 31 (.invokevirtual 28) 3 34 := ⟨by decide +kernel, rfl⟩
theorem d47_34 : Dc jdk_52_method_3_code 34 (.iload_n 0) 1 35 := ⟨by decide +kernel, rfl⟩
theorem d47_35 : Dc jdk_52_method_3_code 35 (.invokevirtual 32) 3 38 := ⟨by decide +kernel, rfl⟩
theorem d47_38 : Dc jdk_52_method_3_code 38 (.ldc 35) 2 40 := ⟨by decide +kernel, rfl⟩
theorem d47_40 : Dc jdk_52_method_3_code 40 (.invokevirtual 28) 3 43 := ⟨by decide +kernel, rfl⟩
theorem d47_43 : Dc jdk_52_method_3_code 43 (.ldc 20) 2 45 := ⟨by decide +kernel, rfl⟩
theorem d47_45 : Dc jdk_52_method_3_code 45 (.invokevirtual 32) 3 48 := ⟨by decide +kernel, rfl⟩
theorem d47_48 : Dc jdk_52_method_3_code 48 (.invokevirtual 37) 3 51 := ⟨by decide +kernel, rfl⟩
theorem d47_51 : Dc jdk_52_method_3_code 51 (.invokespecial 41) 3 54 := ⟨by decide +kernel, rfl⟩
theorem d47_54 : Dc jdk_52_method_3_code 54 (.athrow) 1 55 := ⟨by decide +kernel, rfl⟩
theorem d47_55 : Dc jdk_52_method_3_code 55 (.iload_n 0) 1 56 := ⟨by decide +kernel, rfl⟩
theorem d47_56 : Dc jdk_52_method_3_code 56 (.iconst 1) 1 57 := ⟨by decide +kernel, rfl⟩
theorem d47_57 : Dc jdk_52_method_3_code 57 (.ishl) 1 58 := ⟨by decide +kernel, rfl⟩
theorem d47_58 : Dc jdk_52_method_3_code 58 (.ireturn) 1 59 := ⟨by decide +kernel, rfl⟩
theorem d46_0 : Dc jdk_52_method_2_code 0 (.iload_n 0) 1 1 := ⟨by decide +kernel, rfl⟩
theorem d46_1 : Dc jdk_52_method_2_code 1 (.invokestatic 11) 3 4 := ⟨by decide +kernel, rfl⟩
theorem d46_4 : Dc jdk_52_method_2_code 4 (.newarray .byte) 2 6 := ⟨by decide +kernel, rfl⟩
theorem d46_6 : Dc jdk_52_method_2_code 6 (.areturn) 1 7 := ⟨by decide +kernel, rfl⟩
theorem d52_0 : Dc jdk_52_method_6_code 0 (.aload_n 0) 1 1 := ⟨by decide +kernel, rfl⟩
theorem d52_1 : Dc jdk_52_method_6_code 1 (.arraylength) 1 2 := ⟨by decide +kernel, rfl⟩
theorem d52_2 : Dc jdk_52_method_6_code 2 (.iconst 1) 1 3 := ⟨by decide +kernel, rfl⟩
theorem d52_3 : Dc jdk_52_method_6_code 3 (.ishr) 1 4 := ⟨by decide +kernel, rfl⟩
theorem d52_4 : Dc jdk_52_method_6_code 4 (.ireturn) 1 5 := ⟨by decide +kernel, rfl⟩
theorem d51_0 : Dc jdk_52_method_91_code 0 (.iload_n 0) 1 1 := ⟨by decide +kernel, rfl⟩
theorem d51_1 : Dc jdk_52_method_91_code 1 (.aload_n 1) 1 2 := ⟨by decide +kernel, rfl⟩
theorem d51_2 : Dc jdk_52_method_91_code 2 (.invokestatic 48) 3 5 := ⟨by decide +kernel, rfl⟩
theorem d51_5 : Dc jdk_52_method_91_code 5 (.invokestatic 414) 3 8 := ⟨by decide +kernel, rfl⟩
theorem d51_8 : Dc jdk_52_method_91_code 8 (.return_) 1 9 := ⟨by decide +kernel, rfl⟩
theorem d50_0 : Dc jdk_52_method_83_code 0 (.iload_n 1) 1 1 := ⟨by decide +kernel, rfl⟩
theorem d50_1 : Dc jdk_52_method_83_code 1 (.aload_n 0) 1 2 := ⟨by decide +kernel, rfl⟩
theorem d50_2 : Dc jdk_52_method_83_code 2 (.invokestatic 67) 3 5 := ⟨by decide +kernel, rfl⟩
theorem d50_5 : Dc jdk_52_method_83_code 5 (.aload_n 0) 1 6 := ⟨by decide +kernel, rfl⟩
theorem d50_6 : Dc jdk_52_method_83_code 6 (.iload_n 1) 1 7 := ⟨by decide +kernel, rfl⟩
theorem d50_7 : Dc jdk_52_method_83_code 7 (.invokestatic 71) 3 10 := ⟨by decide +kernel, rfl⟩
theorem d50_10 : Dc jdk_52_method_83_code 10 (.ireturn) 1 11 := ⟨by decide +kernel, rfl⟩
theorem d24_0 : Dc jdk_42_method_56_code 0 (.aload_n 0) 1 1 := ⟨by decide +kernel, rfl⟩
theorem d24_1 : Dc jdk_42_method_56_code 1 (.invokevirtual 492) 3 4 := ⟨by decide +kernel, rfl⟩
theorem d24_4 : Dc jdk_42_method_56_code 4 (.ifCond .eq 12) 3 7 := ⟨by decide +kernel, rfl⟩
theorem d24_7 : Dc jdk_42_method_56_code 7 (.aload_n 0) 1 8 := ⟨by decide +kernel, rfl⟩
theorem d24_8 : Dc jdk_42_method_56_code 8 (.getfield 9) 3 11 := ⟨by decide +kernel, rfl⟩
theorem d24_11 : Dc jdk_42_method_56_code 11 (.iload_n 1) 1 12 := ⟨by decide +kernel, rfl⟩
theorem d24_12 : Dc jdk_42_method_56_code 12 (.invokestatic 495) 3 15 := ⟨by decide +kernel, rfl⟩
theorem d24_15 : Dc jdk_42_method_56_code 15 (.ireturn) 1 16 := ⟨by decide +kernel, rfl⟩
theorem d24_16 : Dc jdk_42_method_56_code 16 (.aload_n 0) 1 17 := ⟨by decide +kernel, rfl⟩
theorem d24_17 : Dc jdk_42_method_56_code 17 (.getfield 9) 3 20 := ⟨by decide +kernel, rfl⟩
theorem d24_20 : Dc jdk_42_method_56_code 20 (.iload_n 1) 1 21 := ⟨by decide +kernel, rfl⟩
theorem d24_21 : Dc jdk_42_method_56_code 21 (.invokestatic 498) 3 24 := ⟨by decide +kernel, rfl⟩
theorem d24_24 : Dc jdk_42_method_56_code 24 (.ireturn) 1 25 := ⟨by decide +kernel, rfl⟩
theorem d16_0 : Dc jdk_68_method_68_code 0 (.getstatic 18) 3 3 := ⟨by decide +kernel, rfl⟩
theorem d16_3 : Dc jdk_68_method_68_code 3 (.ifCond .eq 14) 3 6 := ⟨by decide +kernel, rfl⟩
theorem d16_6 : Dc jdk_68_method_68_code 6 (.aload_n 0) 1 7 := ⟨by decide +kernel, rfl⟩
theorem d16_7 : Dc jdk_68_method_68_code 7 (.getfield 22) 3 10 := ⟨by decide +kernel, rfl⟩
theorem d16_10 : Dc jdk_68_method_68_code 10 (.ifCond .ne 7) 3 13 := ⟨by decide +kernel, rfl⟩
theorem d16_13 : Dc jdk_68_method_68_code 13 (.iconst 1) 1 14 := ⟨by decide +kernel, rfl⟩
theorem d16_14 : Dc jdk_68_method_68_code 14 (.goto 4) 3 17 := ⟨by decide +kernel, rfl⟩
theorem d16_17 : Dc jdk_68_method_68_code 17 (.iconst 0) 1 18 := ⟨by decide +kernel, rfl⟩
theorem d16_18 : Dc jdk_68_method_68_code 18 (.ireturn) 1 19 := ⟨by decide +kernel, rfl⟩
theorem d13_0 : Dc jdk_68_method_64_code 0 (.aload_n 0) 1 1 := ⟨by decide +kernel, rfl⟩
theorem d13_1 : Dc jdk_68_method_64_code 1 (.getfield 15) 3 4 := ⟨by decide +kernel, rfl⟩
theorem d13_4 : Dc jdk_68_method_64_code 4 (.areturn) 1 5 := ⟨by decide +kernel, rfl⟩
theorem d15_0 : Dc jdk_68_method_6_code 0 (.aload_n 0) 1 1 := ⟨by decide +kernel, rfl⟩
theorem d15_1 : Dc jdk_68_method_6_code 1 (.getfield 79) 3 4 := ⟨by decide +kernel, rfl⟩
theorem d15_4 : Dc jdk_68_method_6_code 4 (.ireturn) 1 5 := ⟨by decide +kernel, rfl⟩
theorem d14_0 : Dc jdk_67_method_93_code 0 (.aload_n 0) 1 1 := ⟨by decide +kernel, rfl⟩
theorem d14_1 : Dc jdk_67_method_93_code 1 (.invokespecial 343) 3 4 := ⟨by decide +kernel, rfl⟩
theorem d14_4 : Dc jdk_67_method_93_code 4 (.ireturn) 1 5 := ⟨by decide +kernel, rfl⟩
theorem d40_0 : Dc jdk_29_method_65_code 0 (.iload_n 0) 1 1 := ⟨by decide +kernel, rfl⟩
theorem d40_1 : Dc jdk_29_method_65_code 1 (.iload_n 1) 1 2 := ⟨by decide +kernel, rfl⟩
theorem d40_2 : Dc jdk_29_method_65_code 2 (.if_icmp .lt 7) 3 5 := ⟨by decide +kernel, rfl⟩
theorem d40_5 : Dc jdk_29_method_65_code 5 (.iload_n 0) 1 6 := ⟨by decide +kernel, rfl⟩
theorem d40_6 : Dc jdk_29_method_65_code 6 (.goto 4) 3 9 := ⟨by decide +kernel, rfl⟩
theorem d40_9 : Dc jdk_29_method_65_code 9 (.iload_n 1) 1 10 := ⟨by decide +kernel, rfl⟩
theorem d40_10 : Dc jdk_29_method_65_code 10 (.ireturn) 1 11 := ⟨by decide +kernel, rfl⟩
theorem d42_0 : Dc jdk_29_method_69_code 0 (.iload_n 0) 1 1 := ⟨by decide +kernel, rfl⟩
theorem d42_1 : Dc jdk_29_method_69_code 1 (.iload_n 1) 1 2 := ⟨by decide +kernel, rfl⟩
theorem d42_2 : Dc jdk_29_method_69_code 2 (.if_icmp .gt 7) 3 5 := ⟨by decide +kernel, rfl⟩
theorem d42_5 : Dc jdk_29_method_69_code 5 (.iload_n 0) 1 6 := ⟨by decide +kernel, rfl⟩
theorem d42_6 : Dc jdk_29_method_69_code 6 (.goto 4) 3 9 := ⟨by decide +kernel, rfl⟩
theorem d42_9 : Dc jdk_29_method_69_code 9 (.iload_n 1) 1 10 := ⟨by decide +kernel, rfl⟩
theorem d42_10 : Dc jdk_29_method_69_code 10 (.ireturn) 1 11 := ⟨by decide +kernel, rfl⟩
theorem d39_0 : Dc jdk_48_method_27_code 0 (.iload_n 0) 1 1 := ⟨by decide +kernel, rfl⟩
theorem d39_1 : Dc jdk_48_method_27_code 1 (.iload_n 1) 1 2 := ⟨by decide +kernel, rfl⟩
theorem d39_2 : Dc jdk_48_method_27_code 2 (.iload_n 2) 1 3 := ⟨by decide +kernel, rfl⟩
theorem d39_3 : Dc jdk_48_method_27_code 3 (.invokestatic 194) 3 6 := ⟨by decide +kernel, rfl⟩
theorem d39_6 : Dc jdk_48_method_27_code 6 (.iadd) 1 7 := ⟨by decide +kernel, rfl⟩
theorem d39_7 : Dc jdk_48_method_27_code 7 (.istore_n 3) 1 8 := ⟨by decide +kernel, rfl⟩
theorem d39_8 : Dc jdk_48_method_27_code 8 (.iconst 0) 1 9 := ⟨by decide +kernel, rfl⟩
theorem d39_9 : Dc jdk_48_method_27_code 9 (.iload_n 3) 1 10 := ⟨by decide +kernel, rfl⟩
theorem d39_10 : Dc jdk_48_method_27_code 10 (.if_icmp .ge 11) 3 13 := ⟨by decide +kernel, rfl⟩
theorem d39_13 : Dc jdk_48_method_27_code 13 (.iload_n 3) 1 14 := ⟨by decide +kernel, rfl⟩
theorem d39_14 : Dc jdk_48_method_27_code 14 (.ldc 200) 2 16 := ⟨by decide +kernel, rfl⟩
theorem d39_16 : Dc jdk_48_method_27_code 16 (.if_icmp .gt 5) 3 19 := ⟨by decide +kernel, rfl⟩
theorem d39_19 : Dc jdk_48_method_27_code 19 (.iload_n 3) 1 20 := ⟨by decide +kernel, rfl⟩
theorem d39_20 : Dc jdk_48_method_27_code 20 (.ireturn) 1 21 := ⟨by decide +kernel, rfl⟩
theorem d39_21 : Dc jdk_48_method_27_code 21 (.iload_n 0) 1 22 := ⟨by decide +kernel, rfl⟩
theorem d39_22 : Dc jdk_48_method_27_code 22 (.iload_n 1) 1 23 := ⟨by decide +kernel, rfl⟩
theorem d39_23 : Dc jdk_48_method_27_code 23 (.invokestatic 201) 3 26 := ⟨by decide +kernel, rfl⟩
theorem d39_26 : Dc jdk_48_method_27_code 26 (.ireturn) 1 27 := ⟨by decide +kernel, rfl⟩
theorem d38_0 : Dc jdk_68_method_10_code 0 (.aload_n 0) 1 1 := ⟨by decide +kernel, rfl⟩
theorem d38_1 : Dc jdk_68_method_10_code 1 (.getfield 15) 3 4 := ⟨by decide +kernel, rfl⟩
theorem d38_4 : Dc jdk_68_method_10_code 4 (.arraylength) 1 5 := ⟨by decide +kernel, rfl⟩
theorem d38_5 : Dc jdk_68_method_10_code 5 (.istore_n 2) 1 6 := ⟨by decide +kernel, rfl⟩
theorem d38_6 : Dc jdk_68_method_10_code 6 (.iload_n 1) 1 7 := ⟨by decide +kernel, rfl⟩
theorem d38_7 : Dc jdk_68_method_10_code 7 (.aload_n 0) 1 8 := ⟨by decide +kernel, rfl⟩
theorem d38_8 : Dc jdk_68_method_10_code 8 (.getfield 22) 3 11 := ⟨by decide +kernel, rfl⟩
theorem d38_11 : Dc jdk_68_method_10_code 11 (.ishl) 1 12 := ⟨by decide +kernel, rfl⟩
theorem d38_12 : Dc jdk_68_method_10_code 12 (.istore_n 3) 1 13 := ⟨by decide +kernel, rfl⟩
theorem d38_13 : Dc jdk_68_method_10_code 13 (.iload_n 3) 1 14 := ⟨by decide +kernel, rfl⟩
theorem d38_14 : Dc jdk_68_method_10_code 14 (.iload_n 2) 1 15 := ⟨by decide +kernel, rfl⟩
theorem d38_15 : Dc jdk_68_method_10_code 15 (.isub) 1 16 := ⟨by decide +kernel, rfl⟩
theorem d38_16 : Dc jdk_68_method_10_code 16 (.istore 4) 2 18 := ⟨by decide +kernel, rfl⟩
theorem d38_18 : Dc jdk_68_method_10_code 18 (.iload_n 2) 1 19 := ⟨by decide +kernel, rfl⟩
theorem d38_19 : Dc jdk_68_method_10_code 19 (.iload 4) 2 21 := ⟨by decide +kernel, rfl⟩
theorem d38_21 : Dc jdk_68_method_10_code 21 (.iload_n 2) 1 22 := ⟨by decide +kernel, rfl⟩
theorem d38_22 : Dc jdk_68_method_10_code 22 (.iconst 2) 1 23 := ⟨by decide +kernel, rfl⟩
theorem d38_23 : Dc jdk_68_method_10_code 23 (.aload_n 0) 1 24 := ⟨by decide +kernel, rfl⟩
theorem d38_24 : Dc jdk_68_method_10_code 24 (.getfield 22) 3 27 := ⟨by decide +kernel, rfl⟩
theorem d38_27 : Dc jdk_68_method_10_code 27 (.ishl) 1 28 := ⟨by decide +kernel, rfl⟩
theorem d38_28 : Dc jdk_68_method_10_code 28 (.iadd) 1 29 := ⟨by decide +kernel, rfl⟩
theorem d38_29 : Dc jdk_68_method_10_code 29 (.invokestatic 114) 3 32 := ⟨by decide +kernel, rfl⟩
theorem d38_32 : Dc jdk_68_method_10_code 32 (.istore 5) 2 34 := ⟨by decide +kernel, rfl⟩
theorem d38_34 : Dc jdk_68_method_10_code 34 (.iload 5) 2 36 := ⟨by decide +kernel, rfl⟩
theorem d38_36 : Dc jdk_68_method_10_code 36 (.ldc 39) 2 38 := ⟨by decide +kernel, rfl⟩
theorem d38_38 : Dc jdk_68_method_10_code 38 (.if_icmp .ne 13) 3 41 := ⟨by decide +kernel, rfl⟩
theorem d38_41 : Dc jdk_68_method_10_code 41 (.new 120) 3 44 := ⟨by decide +kernel, rfl⟩
theorem d38_44 : Dc jdk_68_method_10_code 44 (.dup) 1 45 := ⟨by decide +kernel, rfl⟩
theorem d38_45 : Dc jdk_68_method_10_code 45 (.ldc 122) 2 47 := ⟨by decide +kernel, rfl⟩
theorem d38_47 : Dc jdk_68_method_10_code 47 (.invokespecial 124) 3 50 := ⟨by decide +kernel, rfl⟩
theorem d38_50 : Dc jdk_68_method_10_code 50 (.athrow) 1 51 := ⟨by decide +kernel, rfl⟩
theorem d38_51 : Dc jdk_68_method_10_code 51 (.iload 5) 2 53 := ⟨by decide +kernel, rfl⟩
theorem d38_53 : Dc jdk_68_method_10_code 53 (.aload_n 0) 1 54 := ⟨by decide +kernel, rfl⟩
theorem d38_54 : Dc jdk_68_method_10_code 54 (.getfield 22) 3 57 := ⟨by decide +kernel, rfl⟩
theorem d38_57 : Dc jdk_68_method_10_code 57 (.ishr) 1 58 := ⟨by decide +kernel, rfl⟩
theorem d38_58 : Dc jdk_68_method_10_code 58 (.ireturn) 1 59 := ⟨by decide +kernel, rfl⟩
theorem d41_0 : Dc jdk_65_method_121_code 0 (.iload_n 1) 1 1 := ⟨by decide +kernel, rfl⟩
theorem d41_1 : Dc jdk_65_method_121_code 1 (.aload_n 0) 1 2 := ⟨by decide +kernel, rfl⟩
theorem d41_2 : Dc jdk_65_method_121_code 2 (.arraylength) 1 3 := ⟨by decide +kernel, rfl⟩
theorem d41_3 : Dc jdk_65_method_121_code 3 (.if_icmp .ne 11) 3 6 := ⟨by decide +kernel, rfl⟩
theorem d41_6 : Dc jdk_65_method_121_code 6 (.aload_n 0) 1 7 := ⟨by decide +kernel, rfl⟩
theorem d41_7 : Dc jdk_65_method_121_code 7 (.invokevirtual 310) 3 10 := ⟨by decide +kernel, rfl⟩
theorem d41_10 : Dc jdk_65_method_121_code 10 (.checkcast 311) 3 13 := ⟨by decide +kernel, rfl⟩
theorem d41_13 : Dc jdk_65_method_121_code 13 (.areturn) 1 14 := ⟨by decide +kernel, rfl⟩
theorem d41_14 : Dc jdk_65_method_121_code 14 (.iload_n 1) 1 15 := ⟨by decide +kernel, rfl⟩
theorem d41_15 : Dc jdk_65_method_121_code 15 (.newarray .byte) 2 17 := ⟨by decide +kernel, rfl⟩
theorem d41_17 : Dc jdk_65_method_121_code 17 (.astore_n 2) 1 18 := ⟨by decide +kernel, rfl⟩
theorem d41_18 : Dc jdk_65_method_121_code 18 (.aload_n 0) 1 19 := ⟨by decide +kernel, rfl⟩
theorem d41_19 : Dc jdk_65_method_121_code 19 (.iconst 0) 1 20 := ⟨by decide +kernel, rfl⟩
theorem d41_20 : Dc jdk_65_method_121_code 20 (.aload_n 2) 1 21 := ⟨by decide +kernel, rfl⟩
theorem d41_21 : Dc jdk_65_method_121_code 21 (.iconst 0) 1 22 := ⟨by decide +kernel, rfl⟩
theorem d41_22 : Dc jdk_65_method_121_code 22 (.aload_n 0) 1 23 := ⟨by decide +kernel, rfl⟩
theorem d41_23 : Dc jdk_65_method_121_code 23 (.arraylength) 1 24 := ⟨by decide +kernel, rfl⟩
theorem d41_24 : Dc jdk_65_method_121_code 24 (.iload_n 1) 1 25 := ⟨by decide +kernel, rfl⟩
theorem d41_25 : Dc jdk_65_method_121_code 25 (.invokestatic 304) 3 28 := ⟨by decide +kernel, rfl⟩
theorem d41_28 : Dc jdk_65_method_121_code 28 (.invokestatic 150) 3 31 := ⟨by decide +kernel, rfl⟩
theorem d41_31 : Dc jdk_65_method_121_code 31 (.aload_n 2) 1 32 := ⟨by decide +kernel, rfl⟩
theorem d41_32 : Dc jdk_65_method_121_code 32 (.areturn) 1 33 := ⟨by decide +kernel, rfl⟩
theorem d31_0 : Dc jdk_68_method_9_code 0 (.aload_n 0) 1 1 := ⟨by decide +kernel, rfl⟩
theorem d31_1 : Dc jdk_68_method_9_code 1 (.getfield 15) 3 4 := ⟨by decide +kernel, rfl⟩
theorem d31_4 : Dc jdk_68_method_9_code 4 (.arraylength) 1 5 := ⟨by decide +kernel, rfl⟩
theorem d31_5 : Dc jdk_68_method_9_code 5 (.aload_n 0) 1 6 := ⟨by decide +kernel, rfl⟩
theorem d31_6 : Dc jdk_68_method_9_code 6 (.getfield 22) 3 9 := ⟨by decide +kernel, rfl⟩
theorem d31_9 : Dc jdk_68_method_9_code 9 (.ishr) 1 10 := ⟨by decide +kernel, rfl⟩
theorem d31_10 : Dc jdk_68_method_9_code 10 (.istore_n 2) 1 11 := ⟨by decide +kernel, rfl⟩
theorem d31_11 : Dc jdk_68_method_9_code 11 (.iload_n 1) 1 12 := ⟨by decide +kernel, rfl⟩
theorem d31_12 : Dc jdk_68_method_9_code 12 (.iload_n 2) 1 13 := ⟨by decide +kernel, rfl⟩
theorem d31_13 : Dc jdk_68_method_9_code 13 (.isub) 1 14 := ⟨by decide +kernel, rfl⟩
theorem d31_14 : Dc jdk_68_method_9_code 14 (.ifCond .le 24) 3 17 := ⟨by decide +kernel, rfl⟩
theorem d31_17 : Dc jdk_68_method_9_code 17 (.aload_n 0) 1 18 := ⟨by decide +kernel, rfl⟩
theorem d31_18 : Dc jdk_68_method_9_code 18 (.aload_n 0) 1 19 := ⟨by decide +kernel, rfl⟩
theorem d31_19 : Dc jdk_68_method_9_code 19 (.getfield 15) 3 22 := ⟨by decide +kernel, rfl⟩
theorem d31_22 : Dc jdk_68_method_9_code 22 (.aload_n 0) 1 23 := ⟨by decide +kernel, rfl⟩
theorem d31_23 : Dc jdk_68_method_9_code 23 (.iload_n 1) 1 24 := ⟨by decide +kernel, rfl⟩
theorem d31_24 : Dc jdk_68_method_9_code 24 (.invokevirtual 104) 3 27 := ⟨by decide +kernel, rfl⟩
theorem d31_27 : Dc jdk_68_method_9_code 27 (.aload_n 0) 1 28 := ⟨by decide +kernel, rfl⟩
theorem d31_28 : Dc jdk_68_method_9_code 28 (.getfield 22) 3 31 := ⟨by decide +kernel, rfl⟩
theorem d31_31 : Dc jdk_68_method_9_code 31 (.ishl) 1 32 := ⟨by decide +kernel, rfl⟩
theorem d31_32 : Dc jdk_68_method_9_code 32 (.invokestatic 108) 3 35 := ⟨by decide +kernel, rfl⟩
theorem d31_35 : Dc jdk_68_method_9_code 35 (.putfield 15) 3 38 := ⟨by decide +kernel, rfl⟩
theorem d31_38 : Dc jdk_68_method_9_code 38 (.return_) 1 39 := ⟨by decide +kernel, rfl⟩
theorem d32_0 : Dc jdk_43_method_3_code 0 (.iload_n 0) 1 1 := ⟨by decide +kernel, rfl⟩
theorem d32_1 : Dc jdk_43_method_3_code 1 (.sipush 255) 3 4 := ⟨by decide +kernel, rfl⟩
theorem d32_4 : Dc jdk_43_method_3_code 4 (.if_icmp .gt 7) 3 7 := ⟨by decide +kernel, rfl⟩
theorem d32_7 : Dc jdk_43_method_3_code 7 (.iconst 1) 1 8 := ⟨by decide +kernel, rfl⟩
theorem d32_8 : Dc jdk_43_method_3_code 8 (.goto 4) 3 11 := ⟨by decide +kernel, rfl⟩
theorem d32_11 : Dc jdk_43_method_3_code 11 (.iconst 0) 1 12 := ⟨by decide +kernel, rfl⟩
theorem d32_12 : Dc jdk_43_method_3_code 12 (.ireturn) 1 13 := ⟨by decide +kernel, rfl⟩
theorem d59_0 : Dc jdk_52_method_71_code 0 (.iload_n 1) 1 1 := ⟨by decide +kernel, rfl⟩
theorem d59_1 : Dc jdk_52_method_71_code 1 (.aload_n 0) 1 2 := ⟨by decide +kernel, rfl⟩
theorem d59_2 : Dc jdk_52_method_71_code 2 (.invokestatic 67) 3 5 := ⟨by decide +kernel, rfl⟩
theorem d59_5 : Dc jdk_52_method_71_code 5 (.aload_n 0) 1 6 := ⟨by decide +kernel, rfl⟩
theorem d59_6 : Dc jdk_52_method_71_code 6 (.iload_n 1) 1 7 := ⟨by decide +kernel, rfl⟩
theorem d59_7 : Dc jdk_52_method_71_code 7 (.iload_n 2) 1 8 := ⟨by decide +kernel, rfl⟩
theorem d59_8 : Dc jdk_52_method_71_code 8 (.invokestatic 111) 3 11 := ⟨by decide +kernel, rfl⟩
theorem d59_11 : Dc jdk_52_method_71_code 11 (.return_) 1 12 := ⟨by decide +kernel, rfl⟩
theorem d58_0 : Dc jdk_41_method_13_code 0 (.iload_n 2) 1 1 := ⟨by decide +kernel, rfl⟩
theorem d58_1 : Dc jdk_41_method_13_code 1 (.iload_n 0) 1 2 := ⟨by decide +kernel, rfl⟩
theorem d58_2 : Dc jdk_41_method_13_code 2 (.ior) 1 3 := ⟨by decide +kernel, rfl⟩
theorem d58_3 : Dc jdk_41_method_13_code 3 (.iload_n 1) 1 4 := ⟨by decide +kernel, rfl⟩
theorem d58_4 : Dc jdk_41_method_13_code 4 (.ior) 1 5 := ⟨by decide +kernel, rfl⟩
theorem d58_5 : Dc jdk_41_method_13_code 5 (.ifCond .lt 10) 3 8 := ⟨by decide +kernel, rfl⟩
theorem d58_8 : Dc jdk_41_method_13_code 8 (.iload_n 1) 1 9 := ⟨by decide +kernel, rfl⟩
theorem d58_9 : Dc jdk_41_method_13_code 9 (.iload_n 2) 1 10 := ⟨by decide +kernel, rfl⟩
theorem d58_10 : Dc jdk_41_method_13_code 10 (.iload_n 0) 1 11 := ⟨by decide +kernel, rfl⟩
theorem d58_11 : Dc jdk_41_method_13_code 11 (.isub) 1 12 := ⟨by decide +kernel, rfl⟩
theorem d58_12 : Dc jdk_41_method_13_code 12 (.if_icmp .le 11) 3 15 := ⟨by decide +kernel, rfl⟩
theorem d58_15 : Dc jdk_41_method_13_code 15 (.aload_n 3) 1 16 := ⟨by decide +kernel, rfl⟩
theorem d58_16 : Dc jdk_41_method_13_code 16 (.iload_n 0) 1 17 := ⟨by decide +kernel, rfl⟩
theorem d58_17 : Dc jdk_41_method_13_code 17 (.iload_n 1) 1 18 := ⟨by decide +kernel, rfl⟩
theorem d58_18 : Dc jdk_41_method_13_code 18 (.iload_n 2) 1 19 := ⟨by decide +kernel, rfl⟩
theorem d58_19 : Dc jdk_41_method_13_code 19 (.invokestatic 103) 3 22 := ⟨by decide +kernel, rfl⟩
theorem d58_22 : Dc jdk_41_method_13_code 22 (.athrow) 1 23 := ⟨by decide +kernel, rfl⟩
theorem d58_23 : Dc jdk_41_method_13_code 23 (.iload_n 0) 1 24 := ⟨by decide +kernel, rfl⟩
theorem d58_24 : Dc jdk_41_method_13_code 24 (.ireturn) 1 25 := ⟨by decide +kernel, rfl⟩
theorem d57_0 : Dc jdk_42_method_157_code 0 (.iload_n 0) 1 1 := ⟨by decide +kernel, rfl⟩
theorem d57_1 : Dc jdk_42_method_157_code 1 (.iload_n 1) 1 2 := ⟨by decide +kernel, rfl⟩
theorem d57_2 : Dc jdk_42_method_157_code 2 (.iload_n 2) 1 3 := ⟨by decide +kernel, rfl⟩
theorem d57_3 : Dc jdk_42_method_157_code 3 (.getstatic 1053) 3 6 := ⟨by decide +kernel, rfl⟩
theorem d57_6 : Dc jdk_42_method_157_code 6 (.invokestatic 1065) 3 9 := ⟨by decide +kernel, rfl⟩
theorem d57_9 : Dc jdk_42_method_157_code 9 (.ireturn) 1 10 := ⟨by decide +kernel, rfl⟩
theorem d56_0 : Dc jdk_52_method_94_code 0 (.iload_n 0) 1 1 := ⟨by decide +kernel, rfl⟩
theorem d56_1 : Dc jdk_52_method_94_code 1 (.iload_n 1) 1 2 := ⟨by decide +kernel, rfl⟩
theorem d56_2 : Dc jdk_52_method_94_code 2 (.aload_n 2) 1 3 := ⟨by decide +kernel, rfl⟩
theorem d56_3 : Dc jdk_52_method_94_code 3 (.invokestatic 48) 3 6 := ⟨by decide +kernel, rfl⟩
theorem d56_6 : Dc jdk_52_method_94_code 6 (.invokestatic 419) 3 9 := ⟨by decide +kernel, rfl⟩
theorem d56_9 : Dc jdk_52_method_94_code 9 (.pop) 1 10 := ⟨by decide +kernel, rfl⟩
theorem d56_10 : Dc jdk_52_method_94_code 10 (.return_) 1 11 := ⟨by decide +kernel, rfl⟩
theorem d55_0 : Dc jdk_52_method_86_code 0 (.iload_n 3) 1 1 := ⟨by decide +kernel, rfl⟩
theorem d55_1 : Dc jdk_52_method_86_code 1 (.iload 4) 2 3 := ⟨by decide +kernel, rfl⟩
theorem d55_3 : Dc jdk_52_method_86_code 3 (.aload_n 2) 1 4 := ⟨by decide +kernel, rfl⟩
theorem d55_4 : Dc jdk_52_method_86_code 4 (.invokestatic 173) 3 7 := ⟨by decide +kernel, rfl⟩
theorem d55_7 : Dc jdk_52_method_86_code 7 (.iconst 0) 1 8 := ⟨by decide +kernel, rfl⟩
theorem d55_8 : Dc jdk_52_method_86_code 8 (.istore 5) 2 10 := ⟨by decide +kernel, rfl⟩
theorem d55_10 : Dc jdk_52_method_86_code 10 (.iload 5) 2 12 := ⟨by decide +kernel, rfl⟩
theorem d55_12 : Dc jdk_52_method_86_code 12 (.iload 4) 2 14 := ⟨by decide +kernel, rfl⟩
theorem d55_14 : Dc jdk_52_method_86_code 14 (.if_icmp .ge 27) 3 17 := ⟨by decide +kernel, rfl⟩
theorem d55_17 : Dc jdk_52_method_86_code 17 (.aload_n 2) 1 18 := ⟨by decide +kernel, rfl⟩
theorem d55_18 : Dc jdk_52_method_86_code 18 (.iload_n 3) 1 19 := ⟨by decide +kernel, rfl⟩
theorem d55_19 : Dc jdk_52_method_86_code 19 (.iinc 3 1) 3 22 := ⟨by decide +kernel, rfl⟩
theorem d55_22 : Dc jdk_52_method_86_code 22 (.aload_n 0) 1 23 := ⟨by decide +kernel, rfl⟩
theorem d55_23 : Dc jdk_52_method_86_code 23 (.iload_n 1) 1 24 := ⟨by decide +kernel, rfl⟩
theorem d55_24 : Dc jdk_52_method_86_code 24 (.iinc 1 1) 3 27 := ⟨by decide +kernel, rfl⟩
theorem d55_27 : Dc jdk_52_method_86_code 27 (.baload) 1 28 := ⟨by decide +kernel, rfl⟩
theorem d55_28 : Dc jdk_52_method_86_code 28 (.sipush 255) 3 31 := ⟨by decide +kernel, rfl⟩
theorem d55_31 : Dc jdk_52_method_86_code 31 (.iand) 1 32 := ⟨by decide +kernel, rfl⟩
theorem d55_32 : Dc jdk_52_method_86_code 32 (.invokestatic 111) 3 35 := ⟨by decide +kernel, rfl⟩
theorem d55_35 : Dc jdk_52_method_86_code 35 (.iinc 5 1) 3 38 := ⟨by decide +kernel, rfl⟩
theorem d55_38 : Dc jdk_52_method_86_code 38 (.goto (-28)) 3 41 := ⟨by decide +kernel, rfl⟩
theorem d55_41 : Dc jdk_52_method_86_code 41 (.return_) 1 42 := ⟨by decide +kernel, rfl⟩
theorem d54_0 : Dc jdk_43_method_50_code 0 (.aload_n 0) 1 1 := ⟨by decide +kernel, rfl⟩
theorem d54_1 : Dc jdk_43_method_50_code 1 (.iload_n 1) 1 2 := ⟨by decide +kernel, rfl⟩
theorem d54_2 : Dc jdk_43_method_50_code 2 (.aload_n 2) 1 3 := ⟨by decide +kernel, rfl⟩
theorem d54_3 : Dc jdk_43_method_50_code 3 (.iload_n 3) 1 4 := ⟨by decide +kernel, rfl⟩
theorem d54_4 : Dc jdk_43_method_50_code 4 (.iload 4) 2 6 := ⟨by decide +kernel, rfl⟩
theorem d54_6 : Dc jdk_43_method_50_code 6 (.invokestatic 240) 3 9 := ⟨by decide +kernel, rfl⟩
theorem d54_9 : Dc jdk_43_method_50_code 9 (.return_) 1 10 := ⟨by decide +kernel, rfl⟩
theorem d53_0 : Dc jdk_68_method_11_code 0 (.aload_n 0) 1 1 := ⟨by decide +kernel, rfl⟩
theorem d53_1 : Dc jdk_68_method_11_code 1 (.invokevirtual 83) 3 4 := ⟨by decide +kernel, rfl⟩
theorem d53_4 : Dc jdk_68_method_11_code 4 (.ifCond .ne 4) 3 7 := ⟨by decide +kernel, rfl⟩
theorem d53_7 : Dc jdk_68_method_11_code 7 (.return_) 1 8 := ⟨by decide +kernel, rfl⟩
theorem d53_8 : Dc jdk_68_method_11_code 8 (.aload_n 0) 1 9 := ⟨by decide +kernel, rfl⟩
theorem d53_9 : Dc jdk_68_method_11_code 9 (.getfield 15) 3 12 := ⟨by decide +kernel, rfl⟩
theorem d53_12 : Dc jdk_68_method_11_code 12 (.arraylength) 1 13 := ⟨by decide +kernel, rfl⟩
theorem d53_13 : Dc jdk_68_method_11_code 13 (.invokestatic 26) 3 16 := ⟨by decide +kernel, rfl⟩
theorem d53_16 : Dc jdk_68_method_11_code 16 (.astore_n 1) 1 17 := ⟨by decide +kernel, rfl⟩
theorem d53_17 : Dc jdk_68_method_11_code 17 (.aload_n 0) 1 18 := ⟨by decide +kernel, rfl⟩
theorem d53_18 : Dc jdk_68_method_11_code 18 (.getfield 15) 3 21 := ⟨by decide +kernel, rfl⟩
theorem d53_21 : Dc jdk_68_method_11_code 21 (.iconst 0) 1 22 := ⟨by decide +kernel, rfl⟩
theorem d53_22 : Dc jdk_68_method_11_code 22 (.aload_n 1) 1 23 := ⟨by decide +kernel, rfl⟩
theorem d53_23 : Dc jdk_68_method_11_code 23 (.iconst 0) 1 24 := ⟨by decide +kernel, rfl⟩
theorem d53_24 : Dc jdk_68_method_11_code 24 (.aload_n 0) 1 25 := ⟨by decide +kernel, rfl⟩
theorem d53_25 : Dc jdk_68_method_11_code 25 (.getfield 79) 3 28 := ⟨by decide +kernel, rfl⟩
theorem d53_28 : Dc jdk_68_method_11_code 28 (.invokestatic 125) 3 31 := ⟨by decide +kernel, rfl⟩
theorem d53_31 : Dc jdk_68_method_11_code 31 (.aload_n 0) 1 32 := ⟨by decide +kernel, rfl⟩
theorem d53_32 : Dc jdk_68_method_11_code 32 (.aload_n 1) 1 33 := ⟨by decide +kernel, rfl⟩
theorem d53_33 : Dc jdk_68_method_11_code 33 (.putfield 15) 3 36 := ⟨by decide +kernel, rfl⟩
theorem d53_36 : Dc jdk_68_method_11_code 36 (.aload_n 0) 1 37 := ⟨by decide +kernel, rfl⟩
theorem d53_37 : Dc jdk_68_method_11_code 37 (.iconst 1) 1 38 := ⟨by decide +kernel, rfl⟩
theorem d53_38 : Dc jdk_68_method_11_code 38 (.putfield 22) 3 41 := ⟨by decide +kernel, rfl⟩
theorem d53_41 : Dc jdk_68_method_11_code 41 (.return_) 1 42 := ⟨by decide +kernel, rfl⟩
theorem d9_0 : Dc jdk_68_method_2_code 0 (.aload_n 0) 1 1 := ⟨by decide +kernel, rfl⟩
theorem d9_1 : Dc jdk_68_method_2_code 1 (.invokespecial 3) 3 4 := ⟨by decide +kernel, rfl⟩
theorem d9_4 : Dc jdk_68_method_2_code 4 (.getstatic 18) 3 7 := ⟨by decide +kernel, rfl⟩
theorem d9_7 : Dc jdk_68_method_2_code 7 (.ifCond .eq 18) 3 10 := ⟨by decide +kernel, rfl⟩
theorem d9_10 : Dc jdk_68_method_2_code 10 (.aload_n 0) 1 11 := ⟨by decide +kernel, rfl⟩
theorem d9_11 : Dc jdk_68_method_2_code 11 (.iload_n 1) 1 12 := ⟨by decide +kernel, rfl⟩
theorem d9_12 : Dc jdk_68_method_2_code 12 (.newarray .byte) 2 14 := ⟨by decide +kernel, rfl⟩
theorem d9_14 : Dc jdk_68_method_2_code 14 (.putfield 15) 3 17 := ⟨by decide +kernel, rfl⟩
theorem d9_17 : Dc jdk_68_method_2_code 17 (.aload_n 0) 1 18 := ⟨by decide +kernel, rfl⟩
theorem d9_18 : Dc jdk_68_method_2_code 18 (.iconst 0) 1 19 := ⟨by decide +kernel, rfl⟩
theorem d9_19 : Dc jdk_68_method_2_code 19 (.putfield 22) 3 22 := ⟨by decide +kernel, rfl⟩
theorem d9_22 : Dc jdk_68_method_2_code 22 (.goto 16) 3 25 := ⟨by decide +kernel, rfl⟩
theorem d9_25 : Dc jdk_68_method_2_code 25 (.aload_n 0) 1 26 := ⟨by decide +kernel, rfl⟩
theorem d9_26 : Dc jdk_68_method_2_code 26 (.iload_n 1) 1 27 := ⟨by decide +kernel, rfl⟩
theorem d9_27 : Dc jdk_68_method_2_code 27 (.invokestatic 26) 3 30 := ⟨by decide +kernel, rfl⟩
theorem d9_30 : Dc jdk_68_method_2_code 30 (.putfield 15) 3 33 := ⟨by decide +kernel, rfl⟩
theorem d9_33 : Dc jdk_68_method_2_code 33 (.aload_n 0) 1 34 := ⟨by decide +kernel, rfl⟩
theorem d9_34 : Dc jdk_68_method_2_code 34 (.iconst 1) 1 35 := ⟨by decide +kernel, rfl⟩
theorem d9_35 : Dc jdk_68_method_2_code 35 (.putfield 22) 3 38 := ⟨by decide +kernel, rfl⟩
theorem d9_38 : Dc jdk_68_method_2_code 38 (.return_) 1 39 := ⟨by decide +kernel, rfl⟩
theorem d8_0 : Dc jdk_67_method_2_code 0 (.aload_n 0) 1 1 := ⟨by decide +kernel, rfl⟩
theorem d8_1 : Dc jdk_67_method_2_code 1 (.iload_n 1) 1 2 := ⟨by decide +kernel, rfl⟩
theorem d8_2 : Dc jdk_67_method_2_code 2 (.invokespecial 1) 3 5 := ⟨by decide +kernel, rfl⟩
theorem d8_5 : Dc jdk_67_method_2_code 5 (.return_) 1 6 := ⟨by decide +kernel, rfl⟩
theorem d30_0 : Dc jdk_68_method_31_code 0 (.aload_n 0) 1 1 := ⟨by decide +kernel, rfl⟩
theorem d30_1 : Dc jdk_68_method_31_code 1 (.aload_n 0) 1 2 := ⟨by decide +kernel, rfl⟩
theorem d30_2 : Dc jdk_68_method_31_code 2 (.getfield 79) 3 5 := ⟨by decide +kernel, rfl⟩
theorem d30_5 : Dc jdk_68_method_31_code 5 (.iconst 1) 1 6 := ⟨by decide +kernel, rfl⟩
theorem d30_6 : Dc jdk_68_method_31_code 6 (.iadd) 1 7 := ⟨by decide +kernel, rfl⟩
theorem d30_7 : Dc jdk_68_method_31_code 7 (.invokevirtual 100) 3 10 := ⟨by decide +kernel, rfl⟩
theorem d30_10 : Dc jdk_68_method_31_code 10 (.aload_n 0) 1 11 := ⟨by decide +kernel, rfl⟩
theorem d30_11 : Dc jdk_68_method_31_code 11 (.invokevirtual 83) 3 14 := ⟨by decide +kernel, rfl⟩
theorem d30_14 : Dc jdk_68_method_31_code 14 (.ifCond .eq 31) 3 17 := ⟨by decide +kernel, rfl⟩
theorem d30_17 : Dc jdk_68_method_31_code 17 (.iload_n 1) 1 18 := ⟨by decide +kernel, rfl⟩
theorem d30_18 : Dc jdk_68_method_31_code 18 (.invokestatic 191) 3 21 := ⟨by decide +kernel, rfl⟩
theorem d30_21 : Dc jdk_68_method_31_code 21 (.ifCond .eq 24) 3 24 := ⟨by decide +kernel, rfl⟩
theorem d30_24 : Dc jdk_68_method_31_code 24 (.aload_n 0) 1 25 := ⟨by decide +kernel, rfl⟩
theorem d30_25 : Dc jdk_68_method_31_code 25 (.getfield 15) 3 28 := ⟨by decide +kernel, rfl⟩
theorem d30_28 : Dc jdk_68_method_31_code 28 (.aload_n 0) 1 29 := ⟨by decide +kernel, rfl⟩
theorem d30_29 : Dc jdk_68_method_31_code 29 (.dup) 1 30 := ⟨by decide +kernel, rfl⟩
theorem d30_30 : Dc jdk_68_method_31_code 30 (.getfield 79) 3 33 := ⟨by decide +kernel, rfl⟩
theorem d30_33 : Dc jdk_68_method_31_code 33 (.dup_x1) 1 34 := ⟨by decide +kernel, rfl⟩
theorem d30_34 : Dc jdk_68_method_31_code 34 (.iconst 1) 1 35 := ⟨by decide +kernel, rfl⟩
theorem d30_35 : Dc jdk_68_method_31_code 35 (.iadd) 1 36 := ⟨by decide +kernel, rfl⟩
theorem d30_36 : Dc jdk_68_method_31_code 36 (.putfield 79) 3 39 := ⟨by decide +kernel, rfl⟩
theorem d30_39 : Dc jdk_68_method_31_code 39 (.iload_n 1) 1 40 := ⟨by decide +kernel, rfl⟩
theorem d30_40 : Dc jdk_68_method_31_code 40 (.i2b) 1 41 := ⟨by decide +kernel, rfl⟩
theorem d30_41 : Dc jdk_68_method_31_code 41 (.bastore) 1 42 := ⟨by decide +kernel, rfl⟩
theorem d30_42 : Dc jdk_68_method_31_code 42 (.goto 33) 3 45 := ⟨by decide +kernel, rfl⟩
theorem d30_45 : Dc jdk_68_method_31_code 45 (.aload_n 0) 1 46 := ⟨by decide +kernel, rfl⟩
theorem d30_46 : Dc jdk_68_method_31_code 46 (.invokevirtual 83) 3 49 := ⟨by decide +kernel, rfl⟩
theorem d30_49 : Dc jdk_68_method_31_code 49 (.ifCond .eq 7) 3 52 := ⟨by decide +kernel, rfl⟩
theorem d30_52 : Dc jdk_68_method_31_code 52 (.aload_n 0) 1 53 := ⟨by decide +kernel, rfl⟩
theorem d30_53 : Dc jdk_68_method_31_code 53 (.invokevirtual 195) 3 56 := ⟨by decide +kernel, rfl⟩
theorem d30_56 : Dc jdk_68_method_31_code 56 (.aload_n 0) 1 57 := ⟨by decide +kernel, rfl⟩
theorem d30_57 : Dc jdk_68_method_31_code 57 (.getfield 15) 3 60 := ⟨by decide +kernel, rfl⟩
theorem d30_60 : Dc jdk_68_method_31_code 60 (.aload_n 0) 1 61 := ⟨by decide +kernel, rfl⟩
theorem d30_61 : Dc jdk_68_method_31_code 61 (.dup) 1 62 := ⟨by decide +kernel, rfl⟩
theorem d30_62 : Dc jdk_68_method_31_code 62 (.getfield 79) 3 65 := ⟨by decide +kernel, rfl⟩
theorem d30_65 : Dc jdk_68_method_31_code 65 (.dup_x1) 1 66 := ⟨by decide +kernel, rfl⟩
theorem d30_66 : Dc jdk_68_method_31_code 66 (.iconst 1) 1 67 := ⟨by decide +kernel, rfl⟩
theorem d30_67 : Dc jdk_68_method_31_code 67 (.iadd) 1 68 := ⟨by decide +kernel, rfl⟩
theorem d30_68 : Dc jdk_68_method_31_code 68 (.putfield 79) 3 71 := ⟨by decide +kernel, rfl⟩
theorem d30_71 : Dc jdk_68_method_31_code 71 (.iload_n 1) 1 72 := ⟨by decide +kernel, rfl⟩
theorem d30_72 : Dc jdk_68_method_31_code 72 (.invokestatic 197) 3 75 := ⟨by decide +kernel, rfl⟩
theorem d30_75 : Dc jdk_68_method_31_code 75 (.aload_n 0) 1 76 := ⟨by decide +kernel, rfl⟩
theorem d30_76 : Dc jdk_68_method_31_code 76 (.areturn) 1 77 := ⟨by decide +kernel, rfl⟩
theorem d29_0 : Dc jdk_67_method_14_code 0 (.aload_n 0) 1 1 := ⟨by decide +kernel, rfl⟩
theorem d29_1 : Dc jdk_67_method_14_code 1 (.iload_n 1) 1 2 := ⟨by decide +kernel, rfl⟩
theorem d29_2 : Dc jdk_67_method_14_code 2 (.invokespecial 50) 3 5 := ⟨by decide +kernel, rfl⟩
theorem d29_5 : Dc jdk_67_method_14_code 5 (.pop) 1 6 := ⟨by decide +kernel, rfl⟩
theorem d29_6 : Dc jdk_67_method_14_code 6 (.aload_n 0) 1 7 := ⟨by decide +kernel, rfl⟩
theorem d29_7 : Dc jdk_67_method_14_code 7 (.areturn) 1 8 := ⟨by decide +kernel, rfl⟩
theorem d37_0 : Dc jdk_42_method_147_code 0 (.aload_n 0) 1 1 := ⟨by decide +kernel, rfl⟩
theorem d37_1 : Dc jdk_42_method_147_code 1 (.invokevirtual 335) 3 4 := ⟨by decide +kernel, rfl⟩
theorem d37_4 : Dc jdk_42_method_147_code 4 (.iload_n 3) 1 5 := ⟨by decide +kernel, rfl⟩
theorem d37_5 : Dc jdk_42_method_147_code 5 (.if_icmp .ne 23) 3 8 := ⟨by decide +kernel, rfl⟩
theorem d37_8 : Dc jdk_42_method_147_code 8 (.aload_n 0) 1 9 := ⟨by decide +kernel, rfl⟩
theorem d37_9 : Dc jdk_42_method_147_code 9 (.getfield 9) 3 12 := ⟨by decide +kernel, rfl⟩
theorem d37_12 : Dc jdk_42_method_147_code 12 (.iconst 0) 1 13 := ⟨by decide +kernel, rfl⟩
theorem d37_13 : Dc jdk_42_method_147_code 13 (.aload_n 1) 1 14 := ⟨by decide +kernel, rfl⟩
theorem d37_14 : Dc jdk_42_method_147_code 14 (.iload_n 2) 1 15 := ⟨by decide +kernel, rfl⟩
theorem d37_15 : Dc jdk_42_method_147_code 15 (.iload_n 3) 1 16 := ⟨by decide +kernel, rfl⟩
theorem d37_16 : Dc jdk_42_method_147_code 16 (.ishl) 1 17 := ⟨by decide +kernel, rfl⟩
theorem d37_17 : Dc jdk_42_method_147_code 17 (.aload_n 0) 1 18 := ⟨by decide +kernel, rfl⟩
theorem d37_18 : Dc jdk_42_method_147_code 18 (.getfield 9) 3 21 := ⟨by decide +kernel, rfl⟩
theorem d37_21 : Dc jdk_42_method_147_code 21 (.arraylength) 1 22 := ⟨by decide +kernel, rfl⟩
theorem d37_22 : Dc jdk_42_method_147_code 22 (.invokestatic 212) 3 25 := ⟨by decide +kernel, rfl⟩
theorem d37_25 : Dc jdk_42_method_147_code 25 (.goto 18) 3 28 := ⟨by decide +kernel, rfl⟩
theorem d37_28 : Dc jdk_42_method_147_code 28 (.aload_n 0) 1 29 := ⟨by decide +kernel, rfl⟩
theorem d37_29 : Dc jdk_42_method_147_code 29 (.getfield 9) 3 32 := ⟨by decide +kernel, rfl⟩
theorem d37_32 : Dc jdk_42_method_147_code 32 (.iconst 0) 1 33 := ⟨by decide +kernel, rfl⟩
theorem d37_33 : Dc jdk_42_method_147_code 33 (.aload_n 1) 1 34 := ⟨by decide +kernel, rfl⟩
theorem d37_34 : Dc jdk_42_method_147_code 34 (.iload_n 2) 1 35 := ⟨by decide +kernel, rfl⟩
theorem d37_35 : Dc jdk_42_method_147_code 35 (.aload_n 0) 1 36 := ⟨by decide +kernel, rfl⟩
theorem d37_36 : Dc jdk_42_method_147_code 36 (.getfield 9) 3 39 := ⟨by decide +kernel, rfl⟩
theorem d37_39 : Dc jdk_42_method_147_code 39 (.arraylength) 1 40 := ⟨by decide +kernel, rfl⟩
theorem d37_40 : Dc jdk_42_method_147_code 40 (.invokestatic 106) 3 43 := ⟨by decide +kernel, rfl⟩
theorem d37_43 : Dc jdk_42_method_147_code 43 (.return_) 1 44 := ⟨by decide +kernel, rfl⟩
theorem d36_0 : Dc jdk_68_method_71_code 0 (.getstatic 18) 3 3 := ⟨by decide +kernel, rfl⟩
theorem d36_3 : Dc jdk_68_method_71_code 3 (.ifCond .eq 18) 3 6 := ⟨by decide +kernel, rfl⟩
theorem d36_6 : Dc jdk_68_method_71_code 6 (.aload_n 0) 1 7 := ⟨by decide +kernel, rfl⟩
theorem d36_7 : Dc jdk_68_method_71_code 7 (.getfield 22) 3 10 := ⟨by decide +kernel, rfl⟩
theorem d36_10 : Dc jdk_68_method_71_code 10 (.aload_n 1) 1 11 := ⟨by decide +kernel, rfl⟩
theorem d36_11 : Dc jdk_68_method_71_code 11 (.invokevirtual 40) 3 14 := ⟨by decide +kernel, rfl⟩
theorem d36_14 : Dc jdk_68_method_71_code 14 (.if_icmp .eq 7) 3 17 := ⟨by decide +kernel, rfl⟩
theorem d36_17 : Dc jdk_68_method_71_code 17 (.aload_n 0) 1 18 := ⟨by decide +kernel, rfl⟩
theorem d36_18 : Dc jdk_68_method_71_code 18 (.invokevirtual 195) 3 21 := ⟨by decide +kernel, rfl⟩
theorem d36_21 : Dc jdk_68_method_71_code 21 (.return_) 1 22 := ⟨by decide +kernel, rfl⟩
theorem d35_0 : Dc jdk_68_method_73_code 0 (.aload_n 0) 1 1 := ⟨by decide +kernel, rfl⟩
theorem d35_1 : Dc jdk_68_method_73_code 1 (.aload_n 2) 1 2 := ⟨by decide +kernel, rfl⟩
theorem d35_2 : Dc jdk_68_method_73_code 2 (.invokevirtual 397) 3 5 := ⟨by decide +kernel, rfl⟩
theorem d35_5 : Dc jdk_68_method_73_code 5 (.aload_n 2) 1 6 := ⟨by decide +kernel, rfl⟩
theorem d35_6 : Dc jdk_68_method_73_code 6 (.aload_n 0) 1 7 := ⟨by decide +kernel, rfl⟩
theorem d35_7 : Dc jdk_68_method_73_code 7 (.getfield 15) 3 10 := ⟨by decide +kernel, rfl⟩
theorem d35_10 : Dc jdk_68_method_73_code 10 (.iload_n 1) 1 11 := ⟨by decide +kernel, rfl⟩
theorem d35_11 : Dc jdk_68_method_73_code 11 (.aload_n 0) 1 12 := ⟨by decide +kernel, rfl⟩
theorem d35_12 : Dc jdk_68_method_73_code 12 (.getfield 22) 3 15 := ⟨by decide +kernel, rfl⟩
theorem d35_15 : Dc jdk_68_method_73_code 15 (.invokevirtual 399) 3 18 := ⟨by decide +kernel, rfl⟩
theorem d35_18 : Dc jdk_68_method_73_code 18 (.return_) 1 19 := ⟨by decide +kernel, rfl⟩
theorem d34_0 : Dc jdk_68_method_22_code 0 (.aload_n 1) 1 1 := ⟨by decide +kernel, rfl⟩
theorem d34_1 : Dc jdk_68_method_22_code 1 (.ifnonnull 8) 3 4 := ⟨by decide +kernel, rfl⟩
theorem d34_4 : Dc jdk_68_method_22_code 4 (.aload_n 0) 1 5 := ⟨by decide +kernel, rfl⟩
theorem d34_5 : Dc jdk_68_method_22_code 5 (.invokevirtual 204) 3 8 := ⟨by decide +kernel, rfl⟩
theorem d34_8 : Dc jdk_68_method_22_code 8 (.areturn) 1 9 := ⟨by decide +kernel, rfl⟩
theorem d34_9 : Dc jdk_68_method_22_code 9 (.aload_n 1) 1 10 := ⟨by decide +kernel, rfl⟩
theorem d34_10 : Dc jdk_68_method_22_code 10 (.invokevirtual 32) 3 13 := ⟨by decide +kernel, rfl⟩
theorem d34_13 : Dc jdk_68_method_22_code 13 (.istore_n 2) 1 14 := ⟨by decide +kernel, rfl⟩
theorem d34_14 : Dc jdk_68_method_22_code 14 (.aload_n 0) 1 15 := ⟨by decide +kernel, rfl⟩
theorem d34_15 : Dc jdk_68_method_22_code 15 (.aload_n 0) 1 16 := ⟨by decide +kernel, rfl⟩
theorem d34_16 : Dc jdk_68_method_22_code 16 (.getfield 79) 3 19 := ⟨by decide +kernel, rfl⟩
theorem d34_19 : Dc jdk_68_method_22_code 19 (.iload_n 2) 1 20 := ⟨by decide +kernel, rfl⟩
theorem d34_20 : Dc jdk_68_method_22_code 20 (.iadd) 1 21 := ⟨by decide +kernel, rfl⟩
theorem d34_21 : Dc jdk_68_method_22_code 21 (.invokevirtual 100) 3 24 := ⟨by decide +kernel, rfl⟩
theorem d34_24 : Dc jdk_68_method_22_code 24 (.aload_n 0) 1 25 := ⟨by decide +kernel, rfl⟩
theorem d34_25 : Dc jdk_68_method_22_code 25 (.aload_n 0) 1 26 := ⟨by decide +kernel, rfl⟩
theorem d34_26 : Dc jdk_68_method_22_code 26 (.getfield 79) 3 29 := ⟨by decide +kernel, rfl⟩
theorem d34_29 : Dc jdk_68_method_22_code 29 (.aload_n 1) 1 30 := ⟨by decide +kernel, rfl⟩
theorem d34_30 : Dc jdk_68_method_22_code 30 (.invokevirtual 208) 3 33 := ⟨by decide +kernel, rfl⟩
theorem d34_33 : Dc jdk_68_method_22_code 33 (.aload_n 0) 1 34 := ⟨by decide +kernel, rfl⟩
theorem d34_34 : Dc jdk_68_method_22_code 34 (.dup) 1 35 := ⟨by decide +kernel, rfl⟩
theorem d34_35 : Dc jdk_68_method_22_code 35 (.getfield 79) 3 38 := ⟨by decide +kernel, rfl⟩
theorem d34_38 : Dc jdk_68_method_22_code 38 (.iload_n 2) 1 39 := ⟨by decide +kernel, rfl⟩
theorem d34_39 : Dc jdk_68_method_22_code 39 (.iadd) 1 40 := ⟨by decide +kernel, rfl⟩
theorem d34_40 : Dc jdk_68_method_22_code 40 (.putfield 79) 3 43 := ⟨by decide +kernel, rfl⟩
theorem d34_43 : Dc jdk_68_method_22_code 43 (.aload_n 0) 1 44 := ⟨by decide +kernel, rfl⟩
theorem d34_44 : Dc jdk_68_method_22_code 44 (.areturn) 1 45 := ⟨by decide +kernel, rfl⟩
theorem d33_0 : Dc jdk_67_method_7_code 0 (.aload_n 0) 1 1 := ⟨by decide +kernel, rfl⟩
theorem d33_1 : Dc jdk_67_method_7_code 1 (.aload_n 1) 1 2 := ⟨by decide +kernel, rfl⟩
theorem d33_2 : Dc jdk_67_method_7_code 2 (.invokespecial 29) 3 5 := ⟨by decide +kernel, rfl⟩
theorem d33_5 : Dc jdk_67_method_7_code 5 (.pop) 1 6 := ⟨by decide +kernel, rfl⟩
theorem d33_6 : Dc jdk_67_method_7_code 6 (.aload_n 0) 1 7 := ⟨by decide +kernel, rfl⟩
theorem d33_7 : Dc jdk_67_method_7_code 7 (.areturn) 1 8 := ⟨by decide +kernel, rfl⟩
theorem d44_0 : Dc jdk_65_method_131_code 0 (.iload_n 1) 1 1 := ⟨by decide +kernel, rfl⟩
theorem d44_1 : Dc jdk_65_method_131_code 1 (.iload_n 0) 1 2 := ⟨by decide +kernel, rfl⟩
theorem d44_2 : Dc jdk_65_method_131_code 2 (.if_icmp .ge 35) 3 5 := ⟨by decide +kernel, rfl⟩
theorem d44_5 : Dc jdk_65_method_131_code 5 (.new 43) 3 8 := ⟨by decide +kernel, rfl⟩
theorem d44_8 : Dc jdk_65_method_131_code 8 (.dup) 1 9 := ⟨by decide +kernel, rfl⟩
theorem d44_9 : Dc jdk_65_method_131_code 9 (.new 45) 3 12 := ⟨by decide +kernel, rfl⟩
theorem d44_12 : Dc jdk_65_method_131_code 12 (.dup) 1 13 := ⟨by decide +kernel, rfl⟩
theorem d44_13 : Dc jdk_65_method_131_code 13 (.invokespecial 47) 3 16 := ⟨by decide +kernel, rfl⟩
theorem d44_16 : Dc jdk_65_method_131_code 16 (.iload_n 0) 1 17 := ⟨by decide +kernel, rfl⟩
theorem d44_17 : Dc jdk_65_method_131_code 17 (.invokevirtual 54) 3 20 := ⟨by decide +kernel, rfl⟩
theorem d44_20 : Dc jdk_65_method_131_code 20 (.ldc_w 337) 3 23 := ⟨by decide +kernel, rfl⟩
theorem d44_23 : Dc jdk_65_method_131_code 23 (.invokevirtual 50) 3 26 := ⟨by decide +kernel, rfl⟩
theorem d44_26 : Dc jdk_65_method_131_code 26 (.iload_n 1) 1 27 := ⟨by decide +kernel, rfl⟩
theorem d44_27 : Dc jdk_65_method_131_code 27 (.invokevirtual 54) 3 30 := ⟨by decide +kernel, rfl⟩
theorem d44_30 : Dc jdk_65_method_131_code 30 (.invokevirtual 61) 3 33 := ⟨by decide +kernel, rfl⟩
theorem d44_33 : Dc jdk_65_method_131_code 33 (.invokespecial 65) 3 36 := ⟨by decide +kernel, rfl⟩
theorem d44_36 : Dc jdk_65_method_131_code 36 (.athrow) 1 37 := ⟨by decide +kernel, rfl⟩
theorem d44_37 : Dc jdk_65_method_131_code 37 (.return_) 1 38 := ⟨by decide +kernel, rfl⟩
theorem d43_0 : Dc jdk_65_method_133_code 0 (.iload_n 1) 1 1 := ⟨by decide +kernel, rfl⟩
theorem d43_1 : Dc jdk_65_method_133_code 1 (.iload_n 2) 1 2 := ⟨by decide +kernel, rfl⟩
theorem d43_2 : Dc jdk_65_method_133_code 2 (.invokestatic 343) 3 5 := ⟨by decide +kernel, rfl⟩
theorem d43_5 : Dc jdk_65_method_133_code 5 (.iload_n 2) 1 6 := ⟨by decide +kernel, rfl⟩
theorem d43_6 : Dc jdk_65_method_133_code 6 (.iload_n 1) 1 7 := ⟨by decide +kernel, rfl⟩
theorem d43_7 : Dc jdk_65_method_133_code 7 (.isub) 1 8 := ⟨by decide +kernel, rfl⟩
theorem d43_8 : Dc jdk_65_method_133_code 8 (.istore_n 3) 1 9 := ⟨by decide +kernel, rfl⟩
theorem d43_9 : Dc jdk_65_method_133_code 9 (.iload_n 3) 1 10 := ⟨by decide +kernel, rfl⟩
theorem d43_10 : Dc jdk_65_method_133_code 10 (.newarray .byte) 2 12 := ⟨by decide +kernel, rfl⟩
theorem d43_12 : Dc jdk_65_method_133_code 12 (.astore 4) 2 14 := ⟨by decide +kernel, rfl⟩
theorem d43_14 : Dc jdk_65_method_133_code 14 (.aload_n 0) 1 15 := ⟨by decide +kernel, rfl⟩
theorem d43_15 : Dc jdk_65_method_133_code 15 (.iload_n 1) 1 16 := ⟨by decide +kernel, rfl⟩
theorem d43_16 : Dc jdk_65_method_133_code 16 (.aload 4) 2 18 := ⟨by decide +kernel, rfl⟩
theorem d43_18 : Dc jdk_65_method_133_code 18 (.iconst 0) 1 19 := ⟨by decide +kernel, rfl⟩
theorem d43_19 : Dc jdk_65_method_133_code 19 (.aload_n 0) 1 20 := ⟨by decide +kernel, rfl⟩
theorem d43_20 : Dc jdk_65_method_133_code 20 (.arraylength) 1 21 := ⟨by decide +kernel, rfl⟩
theorem d43_21 : Dc jdk_65_method_133_code 21 (.iload_n 1) 1 22 := ⟨by decide +kernel, rfl⟩
theorem d43_22 : Dc jdk_65_method_133_code 22 (.isub) 1 23 := ⟨by decide +kernel, rfl⟩
theorem d43_23 : Dc jdk_65_method_133_code 23 (.iload_n 3) 1 24 := ⟨by decide +kernel, rfl⟩
theorem d43_24 : Dc jdk_65_method_133_code 24 (.invokestatic 304) 3 27 := ⟨by decide +kernel, rfl⟩
theorem d43_27 : Dc jdk_65_method_133_code 27 (.invokestatic 150) 3 30 := ⟨by decide +kernel, rfl⟩
theorem d43_30 : Dc jdk_65_method_133_code 30 (.aload 4) 2 32 := ⟨by decide +kernel, rfl⟩
theorem d43_32 : Dc jdk_65_method_133_code 32 (.areturn) 1 33 := ⟨by decide +kernel, rfl⟩
theorem d17_0 : Dc jdk_65_method_132_code 0 (.iload_n 1) 1 1 := ⟨by decide +kernel, rfl⟩
theorem d17_1 : Dc jdk_65_method_132_code 1 (.ifCond .ne 9) 3 4 := ⟨by decide +kernel, rfl⟩
theorem d17_4 : Dc jdk_65_method_132_code 4 (.iload_n 2) 1 5 := ⟨by decide +kernel, rfl⟩
theorem d17_5 : Dc jdk_65_method_132_code 5 (.aload_n 0) 1 6 := ⟨by decide +kernel, rfl⟩
theorem d17_6 : Dc jdk_65_method_132_code 6 (.arraylength) 1 7 := ⟨by decide +kernel, rfl⟩
theorem d17_7 : Dc jdk_65_method_132_code 7 (.if_icmp .eq 10) 3 10 := ⟨by decide +kernel, rfl⟩
theorem d17_10 : Dc jdk_65_method_132_code 10 (.aload_n 0) 1 11 := ⟨by decide +kernel, rfl⟩
theorem d17_11 : Dc jdk_65_method_132_code 11 (.iload_n 1) 1 12 := ⟨by decide +kernel, rfl⟩
theorem d17_12 : Dc jdk_65_method_132_code 12 (.iload_n 2) 1 13 := ⟨by decide +kernel, rfl⟩
theorem d17_13 : Dc jdk_65_method_132_code 13 (.invokestatic 339) 3 16 := ⟨by decide +kernel, rfl⟩
theorem d17_16 : Dc jdk_65_method_132_code 16 (.areturn) 1 17 := ⟨by decide +kernel, rfl⟩
theorem d17_17 : Dc jdk_65_method_132_code 17 (.aload_n 0) 1 18 := ⟨by decide +kernel, rfl⟩
theorem d17_18 : Dc jdk_65_method_132_code 18 (.invokevirtual 310) 3 21 := ⟨by decide +kernel, rfl⟩
theorem d17_21 : Dc jdk_65_method_132_code 21 (.checkcast 311) 3 24 := ⟨by decide +kernel, rfl⟩
theorem d17_24 : Dc jdk_65_method_132_code 24 (.areturn) 1 25 := ⟨by decide +kernel, rfl⟩
theorem d12_0 : Dc jdk_42_method_150_code 0 (.aload_n 0) 1 1 := ⟨by decide +kernel, rfl⟩
theorem d12_1 : Dc jdk_42_method_150_code 1 (.invokespecial 1) 3 4 := ⟨by decide +kernel, rfl⟩
theorem d12_4 : Dc jdk_42_method_150_code 4 (.aload_n 1) 1 5 := ⟨by decide +kernel, rfl⟩
theorem d12_5 : Dc jdk_42_method_150_code 5 (.invokevirtual 552) 3 8 := ⟨by decide +kernel, rfl⟩
theorem d12_8 : Dc jdk_42_method_150_code 8 (.astore_n 3) 1 9 := ⟨by decide +kernel, rfl⟩
theorem d12_9 : Dc jdk_42_method_150_code 9 (.aload_n 1) 1 10 := ⟨by decide +kernel, rfl⟩
theorem d12_10 : Dc jdk_42_method_150_code 10 (.invokevirtual 549) 3 13 := ⟨by decide +kernel, rfl⟩
theorem d12_13 : Dc jdk_42_method_150_code 13 (.istore 4) 2 15 := ⟨by decide +kernel, rfl⟩
theorem d12_15 : Dc jdk_42_method_150_code 15 (.aload_n 1) 1 16 := ⟨by decide +kernel, rfl⟩
theorem d12_16 : Dc jdk_42_method_150_code 16 (.invokevirtual 1047) 3 19 := ⟨by decide +kernel, rfl⟩
theorem d12_19 : Dc jdk_42_method_150_code 19 (.ifCond .eq 22) 3 22 := ⟨by decide +kernel, rfl⟩
theorem d12_22 : Dc jdk_42_method_150_code 22 (.aload_n 0) 1 23 := ⟨by decide +kernel, rfl⟩
theorem d12_23 : Dc jdk_42_method_150_code 23 (.iconst 0) 1 24 := ⟨by decide +kernel, rfl⟩
theorem d12_24 : Dc jdk_42_method_150_code 24 (.putfield 15) 3 27 := ⟨by decide +kernel, rfl⟩
theorem d12_27 : Dc jdk_42_method_150_code 27 (.aload_n 0) 1 28 := ⟨by decide +kernel, rfl⟩
theorem d12_28 : Dc jdk_42_method_150_code 28 (.aload_n 3) 1 29 := ⟨by decide +kernel, rfl⟩
theorem d12_29 : Dc jdk_42_method_150_code 29 (.iconst 0) 1 30 := ⟨by decide +kernel, rfl⟩
theorem d12_30 : Dc jdk_42_method_150_code 30 (.iload 4) 2 32 := ⟨by decide +kernel, rfl⟩
theorem d12_32 : Dc jdk_42_method_150_code 32 (.invokestatic 54) 3 35 := ⟨by decide +kernel, rfl⟩
theorem d12_35 : Dc jdk_42_method_150_code 35 (.putfield 9) 3 38 := ⟨by decide +kernel, rfl⟩
theorem d12_38 : Dc jdk_42_method_150_code 38 (.goto 59) 3 41 := ⟨by decide +kernel, rfl⟩
theorem d12_41 : Dc jdk_42_method_150_code 41 (.getstatic 38) 3 44 := ⟨by decide +kernel, rfl⟩
theorem d12_44 : Dc jdk_42_method_150_code 44 (.ifCond .eq 35) 3 47 := ⟨by decide +kernel, rfl⟩
theorem d12_47 : Dc jdk_42_method_150_code 47 (.aload_n 1) 1 48 := ⟨by decide +kernel, rfl⟩
theorem d12_48 : Dc jdk_42_method_150_code 48 (.getfield 1048) 3 51 := ⟨by decide +kernel, rfl⟩
theorem d12_51 : Dc jdk_42_method_150_code 51 (.ifCond .eq 28) 3 54 := ⟨by decide +kernel, rfl⟩
theorem d12_54 : Dc jdk_42_method_150_code 54 (.aload_n 0) 1 55 := ⟨by decide +kernel, rfl⟩
theorem d12_55 : Dc jdk_42_method_150_code 55 (.aload_n 3) 1 56 := ⟨by decide +kernel, rfl⟩
theorem d12_56 : Dc jdk_42_method_150_code 56 (.iconst 0) 1 57 := ⟨by decide +kernel, rfl⟩
theorem d12_57 : Dc jdk_42_method_150_code 57 (.iload 4) 2 59 := ⟨by decide +kernel, rfl⟩
theorem d12_59 : Dc jdk_42_method_150_code 59 (.invokestatic 1051) 3 62 := ⟨by decide +kernel, rfl⟩
theorem d12_62 : Dc jdk_42_method_150_code 62 (.putfield 9) 3 65 := ⟨by decide +kernel, rfl⟩
theorem d12_65 : Dc jdk_42_method_150_code 65 (.aload_n 0) 1 66 := ⟨by decide +kernel, rfl⟩
theorem d12_66 : Dc jdk_42_method_150_code 66 (.aload_n 0) 1 67 := ⟨by decide +kernel, rfl⟩
theorem d12_67 : Dc jdk_42_method_150_code 67 (.getfield 9) 3 70 := ⟨by decide +kernel, rfl⟩
theorem d12_70 : Dc jdk_42_method_150_code 70 (.iload 4) 2 72 := ⟨by decide +kernel, rfl⟩
theorem d12_72 : Dc jdk_42_method_150_code 72 (.invokestatic 47) 3 75 := ⟨by decide +kernel, rfl⟩
theorem d12_75 : Dc jdk_42_method_150_code 75 (.putfield 15) 3 78 := ⟨by decide +kernel, rfl⟩
theorem d12_78 : Dc jdk_42_method_150_code 78 (.return_) 1 79 := ⟨by decide +kernel, rfl⟩
theorem d12_79 : Dc jdk_42_method_150_code 79 (.aload_n 0) 1 80 := ⟨by decide +kernel, rfl⟩
theorem d12_80 : Dc jdk_42_method_150_code 80 (.iconst 1) 1 81 := ⟨by decide +kernel, rfl⟩
theorem d12_81 : Dc jdk_42_method_150_code 81 (.putfield 15) 3 84 := ⟨by decide +kernel, rfl⟩
theorem d12_84 : Dc jdk_42_method_150_code 84 (.aload_n 0) 1 85 := ⟨by decide +kernel, rfl⟩
theorem d12_85 : Dc jdk_42_method_150_code 85 (.aload_n 3) 1 86 := ⟨by decide +kernel, rfl⟩
theorem d12_86 : Dc jdk_42_method_150_code 86 (.iconst 0) 1 87 := ⟨by decide +kernel, rfl⟩
theorem d12_87 : Dc jdk_42_method_150_code 87 (.iload 4) 2 89 := ⟨by decide +kernel, rfl⟩
theorem d12_89 : Dc jdk_42_method_150_code 89 (.iconst 1) 1 90 := ⟨by decide +kernel, rfl⟩
theorem d12_90 : Dc jdk_42_method_150_code 90 (.ishl) 1 91 := ⟨by decide +kernel, rfl⟩
theorem d12_91 : Dc jdk_42_method_150_code 91 (.invokestatic 54) 3 94 := ⟨by decide +kernel, rfl⟩
theorem d12_94 : Dc jdk_42_method_150_code 94 (.putfield 9) 3 97 := ⟨by decide +kernel, rfl⟩
theorem d12_97 : Dc jdk_42_method_150_code 97 (.return_) 1 98 := ⟨by decide +kernel, rfl⟩
theorem d11_0 : Dc jdk_42_method_53_code 0 (.aload_n 0) 1 1 := ⟨by decide +kernel, rfl⟩
theorem d11_1 : Dc jdk_42_method_53_code 1 (.aload_n 1) 1 2 := ⟨by decide +kernel, rfl⟩
theorem d11_2 : Dc jdk_42_method_53_code 2 (.aconst_null) 1 3 := ⟨by decide +kernel, rfl⟩
theorem d11_3 : Dc jdk_42_method_53_code 3 (.invokespecial 489) 3 6 := ⟨by decide +kernel, rfl⟩
theorem d11_6 : Dc jdk_42_method_53_code 6 (.return_) 1 7 := ⟨by decide +kernel, rfl⟩
theorem d10_0 : Dc jdk_67_method_42_code 0 (.new 18) 3 3 := ⟨by decide +kernel, rfl⟩
theorem d10_3 : Dc jdk_67_method_42_code 3 (.dup) 1 4 := ⟨by decide +kernel, rfl⟩
theorem d10_4 : Dc jdk_67_method_42_code 4 (.aload_n 0) 1 5 := ⟨by decide +kernel, rfl⟩
theorem d10_5 : Dc jdk_67_method_42_code 5 (.invokespecial 137) 3 8 := ⟨by decide +kernel, rfl⟩
theorem d10_8 : Dc jdk_67_method_42_code 8 (.areturn) 1 9 := ⟨by decide +kernel, rfl⟩
theorem d20_0 : Dc jdk_52_method_21_code 0 (.iconst 0) 1 1 := ⟨by decide +kernel, rfl⟩
theorem d20_1 : Dc jdk_52_method_21_code 1 (.istore 5) 2 3 := ⟨by decide +kernel, rfl⟩
theorem d20_3 : Dc jdk_52_method_21_code 3 (.iload 5) 2 5 := ⟨by decide +kernel, rfl⟩
theorem d20_5 : Dc jdk_52_method_21_code 5 (.iload 4) 2 7 := ⟨by decide +kernel, rfl⟩
theorem d20_7 : Dc jdk_52_method_21_code 7 (.if_icmp .ge 37) 3 10 := ⟨by decide +kernel, rfl⟩
theorem d20_10 : Dc jdk_52_method_21_code 10 (.aload_n 0) 1 11 := ⟨by decide +kernel, rfl⟩
theorem d20_11 : Dc jdk_52_method_21_code 11 (.iload_n 1) 1 12 := ⟨by decide +kernel, rfl⟩
theorem d20_12 : Dc jdk_52_method_21_code 12 (.caload) 1 13 := ⟨by decide +kernel, rfl⟩
theorem d20_13 : Dc jdk_52_method_21_code 13 (.istore 6) 2 15 := ⟨by decide +kernel, rfl⟩
theorem d20_15 : Dc jdk_52_method_21_code 15 (.iload 6) 2 17 := ⟨by decide +kernel, rfl⟩
theorem d20_17 : Dc jdk_52_method_21_code 17 (.sipush 255) 3 20 := ⟨by decide +kernel, rfl⟩
theorem d20_20 : Dc jdk_52_method_21_code 20 (.if_icmp .le 6) 3 23 := ⟨by decide +kernel, rfl⟩
theorem d20_23 : Dc jdk_52_method_21_code 23 (.iload 5) 2 25 := ⟨by decide +kernel, rfl⟩
theorem d20_25 : Dc jdk_52_method_21_code 25 (.ireturn) 1 26 := ⟨by decide +kernel, rfl⟩
theorem d20_26 : Dc jdk_52_method_21_code 26 (.aload_n 2) 1 27 := ⟨by decide +kernel, rfl⟩
theorem d20_27 : Dc jdk_52_method_21_code 27 (.iload_n 3) 1 28 := ⟨by decide +kernel, rfl⟩
theorem d20_28 : Dc jdk_52_method_21_code 28 (.iload 6) 2 30 := ⟨by decide +kernel, rfl⟩
theorem d20_30 : Dc jdk_52_method_21_code 30 (.i2b) 1 31 := ⟨by decide +kernel, rfl⟩
theorem d20_31 : Dc jdk_52_method_21_code 31 (.bastore) 1 32 := ⟨by decide +kernel, rfl⟩
theorem d20_32 : Dc jdk_52_method_21_code 32 (.iinc 1 1) 3 35 := ⟨by decide +kernel, rfl⟩
theorem d20_35 : Dc jdk_52_method_21_code 35 (.iinc 3 1) 3 38 := ⟨by decide +kernel, rfl⟩
theorem d20_38 : Dc jdk_52_method_21_code 38 (.iinc 5 1) 3 41 := ⟨by decide +kernel, rfl⟩
theorem d20_41 : Dc jdk_52_method_21_code 41 (.goto (-38)) 3 44 := ⟨by decide +kernel, rfl⟩
theorem d20_44 : Dc jdk_52_method_21_code 44 (.iload 4) 2 46 := ⟨by decide +kernel, rfl⟩
theorem d20_46 : Dc jdk_52_method_21_code 46 (.ireturn) 1 47 := ⟨by decide +kernel, rfl⟩
theorem d45_0 : Dc jdk_52_method_14_code 0 (.iload_n 2) 1 1 := ⟨by decide +kernel, rfl⟩
theorem d45_1 : Dc jdk_52_method_14_code 1 (.invokestatic 107) 3 4 := ⟨by decide +kernel, rfl⟩
theorem d45_4 : Dc jdk_52_method_14_code 4 (.astore_n 3) 1 5 := ⟨by decide +kernel, rfl⟩
theorem d45_5 : Dc jdk_52_method_14_code 5 (.iconst 0) 1 6 := ⟨by decide +kernel, rfl⟩
theorem d45_6 : Dc jdk_52_method_14_code 6 (.istore 4) 2 8 := ⟨by decide +kernel, rfl⟩
theorem d45_8 : Dc jdk_52_method_14_code 8 (.iload 4) 2 10 := ⟨by decide +kernel, rfl⟩
theorem d45_10 : Dc jdk_52_method_14_code 10 (.iload_n 2) 1 11 := ⟨by decide +kernel, rfl⟩
theorem d45_11 : Dc jdk_52_method_14_code 11 (.if_icmp .ge 21) 3 14 := ⟨by decide +kernel, rfl⟩
theorem d45_14 : Dc jdk_52_method_14_code 14 (.aload_n 3) 1 15 := ⟨by decide +kernel, rfl⟩
theorem d45_15 : Dc jdk_52_method_14_code 15 (.iload 4) 2 17 := ⟨by decide +kernel, rfl⟩
theorem d45_17 : Dc jdk_52_method_14_code 17 (.aload_n 0) 1 18 := ⟨by decide +kernel, rfl⟩
theorem d45_18 : Dc jdk_52_method_14_code 18 (.iload_n 1) 1 19 := ⟨by decide +kernel, rfl⟩
theorem d45_19 : Dc jdk_52_method_14_code 19 (.caload) 1 20 := ⟨by decide +kernel, rfl⟩
theorem d45_20 : Dc jdk_52_method_14_code 20 (.invokestatic 111) 3 23 := ⟨by decide +kernel, rfl⟩
theorem d45_23 : Dc jdk_52_method_14_code 23 (.iinc 1 1) 3 26 := ⟨by decide +kernel, rfl⟩
theorem d45_26 : Dc jdk_52_method_14_code 26 (.iinc 4 1) 3 29 := ⟨by decide +kernel, rfl⟩
theorem d45_29 : Dc jdk_52_method_14_code 29 (.goto (-21)) 3 32 := ⟨by decide +kernel, rfl⟩
theorem d45_32 : Dc jdk_52_method_14_code 32 (.aload_n 3) 1 33 := ⟨by decide +kernel, rfl⟩
theorem d45_33 : Dc jdk_52_method_14_code 33 (.areturn) 1 34 := ⟨by decide +kernel, rfl⟩
theorem d19_0 : Dc jdk_52_method_16_code 0 (.iload_n 2) 1 1 := ⟨by decide +kernel, rfl⟩
theorem d19_1 : Dc jdk_52_method_16_code 1 (.newarray .byte) 2 3 := ⟨by decide +kernel, rfl⟩
theorem d19_3 : Dc jdk_52_method_16_code 3 (.astore_n 3) 1 4 := ⟨by decide +kernel, rfl⟩
theorem d19_4 : Dc jdk_52_method_16_code 4 (.aload_n 0) 1 5 := ⟨by decide +kernel, rfl⟩
theorem d19_5 : Dc jdk_52_method_16_code 5 (.iload_n 1) 1 6 := ⟨by decide +kernel, rfl⟩
theorem d19_6 : Dc jdk_52_method_16_code 6 (.aload_n 3) 1 7 := ⟨by decide +kernel, rfl⟩
theorem d19_7 : Dc jdk_52_method_16_code 7 (.iconst 0) 1 8 := ⟨by decide +kernel, rfl⟩
theorem d19_8 : Dc jdk_52_method_16_code 8 (.iload_n 2) 1 9 := ⟨by decide +kernel, rfl⟩
theorem d19_9 : Dc jdk_52_method_16_code 9 (.invokestatic 115) 3 12 := ⟨by decide +kernel, rfl⟩
theorem d19_12 : Dc jdk_52_method_16_code 12 (.istore 4) 2 14 := ⟨by decide +kernel, rfl⟩
theorem d19_14 : Dc jdk_52_method_16_code 14 (.iload 4) 2 16 := ⟨by decide +kernel, rfl⟩
theorem d19_16 : Dc jdk_52_method_16_code 16 (.iload_n 2) 1 17 := ⟨by decide +kernel, rfl⟩
theorem d19_17 : Dc jdk_52_method_16_code 17 (.if_icmp .eq 40) 3 20 := ⟨by decide +kernel, rfl⟩
theorem d19_20 : Dc jdk_52_method_16_code 20 (.aload_n 0) 1 21 := ⟨by decide +kernel, rfl⟩
theorem d19_21 : Dc jdk_52_method_16_code 21 (.iload_n 1) 1 22 := ⟨by decide +kernel, rfl⟩
theorem d19_22 : Dc jdk_52_method_16_code 22 (.iload_n 2) 1 23 := ⟨by decide +kernel, rfl⟩
theorem d19_23 : Dc jdk_52_method_16_code 23 (.invokestatic 119) 3 26 := ⟨by decide +kernel, rfl⟩
theorem d19_26 : Dc jdk_52_method_16_code 26 (.astore 5) 2 28 := ⟨by decide +kernel, rfl⟩
theorem d19_28 : Dc jdk_52_method_16_code 28 (.aload 5) 2 30 := ⟨by decide +kernel, rfl⟩
theorem d19_30 : Dc jdk_52_method_16_code 30 (.iload 4) 2 32 := ⟨by decide +kernel, rfl⟩
theorem d19_32 : Dc jdk_52_method_16_code 32 (.invokestatic 71) 3 35 := ⟨by decide +kernel, rfl⟩
theorem d19_35 : Dc jdk_52_method_16_code 35 (.sipush 255) 3 38 := ⟨by decide +kernel, rfl⟩
theorem d19_38 : Dc jdk_52_method_16_code 38 (.if_icmp .gt 16) 3 41 := ⟨by decide +kernel, rfl⟩
theorem d19_41 : Dc jdk_52_method_16_code 41 (.aload 5) 2 43 := ⟨by decide +kernel, rfl⟩
theorem d19_43 : Dc jdk_52_method_16_code 43 (.iconst 0) 1 44 := ⟨by decide +kernel, rfl⟩
theorem d19_44 : Dc jdk_52_method_16_code 44 (.aload_n 3) 1 45 := ⟨by decide +kernel, rfl⟩
theorem d19_45 : Dc jdk_52_method_16_code 45 (.iconst 0) 1 46 := ⟨by decide +kernel, rfl⟩
theorem d19_46 : Dc jdk_52_method_16_code 46 (.iload_n 2) 1 47 := ⟨by decide +kernel, rfl⟩
theorem d19_47 : Dc jdk_52_method_16_code 47 (.invokestatic 123) 3 50 := ⟨by decide +kernel, rfl⟩
theorem d19_50 : Dc jdk_52_method_16_code 50 (.iload_n 2) 1 51 := ⟨by decide +kernel, rfl⟩
theorem d19_51 : Dc jdk_52_method_16_code 51 (.if_icmp .eq 6) 3 54 := ⟨by decide +kernel, rfl⟩
theorem d19_54 : Dc jdk_52_method_16_code 54 (.aload 5) 2 56 := ⟨by decide +kernel, rfl⟩
theorem d19_56 : Dc jdk_52_method_16_code 56 (.areturn) 1 57 := ⟨by decide +kernel, rfl⟩
theorem d19_57 : Dc jdk_52_method_16_code 57 (.aload_n 3) 1 58 := ⟨by decide +kernel, rfl⟩
theorem d19_58 : Dc jdk_52_method_16_code 58 (.areturn) 1 59 := ⟨by decide +kernel, rfl⟩
theorem d21_0 : Dc jdk_52_method_15_code 0 (.iload_n 1) 1 1 := ⟨by decide +kernel, rfl⟩
theorem d21_1 : Dc jdk_52_method_15_code 1 (.aload_n 0) 1 2 := ⟨by decide +kernel, rfl⟩
theorem d21_2 : Dc jdk_52_method_15_code 2 (.arraylength) 1 3 := ⟨by decide +kernel, rfl⟩
theorem d21_3 : Dc jdk_52_method_15_code 3 (.isub) 1 4 := ⟨by decide +kernel, rfl⟩
theorem d21_4 : Dc jdk_52_method_15_code 4 (.bipush 31) 2 6 := ⟨by decide +kernel, rfl⟩
theorem d21_6 : Dc jdk_52_method_15_code 6 (.iushr) 1 7 := ⟨by decide +kernel, rfl⟩
theorem d21_7 : Dc jdk_52_method_15_code 7 (.i2b) 1 8 := ⟨by decide +kernel, rfl⟩
theorem d21_8 : Dc jdk_52_method_15_code 8 (.ireturn) 1 9 := ⟨by decide +kernel, rfl⟩
theorem d3_0 : Dc jdk_42_method_149_code 0 (.aload_n 0) 1 1 := ⟨by decide +kernel, rfl⟩
theorem d3_1 : Dc jdk_42_method_149_code 1 (.invokespecial 1) 3 4 := ⟨by decide +kernel, rfl⟩
theorem d3_4 : Dc jdk_42_method_149_code 4 (.iload_n 3) 1 5 := ⟨by decide +kernel, rfl⟩
theorem d3_5 : Dc jdk_42_method_149_code 5 (.ifCond .ne 22) 3 8 := ⟨by decide +kernel, rfl⟩
theorem d3_8 : Dc jdk_42_method_149_code 8 (.aload_n 0) 1 9 := ⟨by decide +kernel, rfl⟩
theorem d3_9 : Dc jdk_42_method_149_code 9 (.ldc 7) 2 11 := ⟨by decide +kernel, rfl⟩
theorem d3_11 : Dc jdk_42_method_149_code 11 (.getfield 9) 3 14 := ⟨by decide +kernel, rfl⟩
theorem d3_14 : Dc jdk_42_method_149_code 14 (.putfield 9) 3 17 := ⟨by decide +kernel, rfl⟩
theorem d3_17 : Dc jdk_42_method_149_code 17 (.aload_n 0) 1 18 := ⟨by decide +kernel, rfl⟩
theorem d3_18 : Dc jdk_42_method_149_code 18 (.ldc 7) 2 20 := ⟨by decide +kernel, rfl⟩
theorem d3_20 : Dc jdk_42_method_149_code 20 (.getfield 15) 3 23 := ⟨by decide +kernel, rfl⟩
theorem d3_23 : Dc jdk_42_method_149_code 23 (.putfield 15) 3 26 := ⟨by decide +kernel, rfl⟩
theorem d3_26 : Dc jdk_42_method_149_code 26 (.return_) 1 27 := ⟨by decide +kernel, rfl⟩
theorem d3_27 : Dc jdk_42_method_149_code 27 (.getstatic 38) 3 30 := ⟨by decide +kernel, rfl⟩
theorem d3_30 : Dc jdk_42_method_149_code 30 (.ifCond .eq 28) 3 33 := ⟨by decide +kernel, rfl⟩
theorem d3_33 : Dc jdk_42_method_149_code 33 (.aload_n 1) 1 34 := ⟨by decide +kernel, rfl⟩
theorem d3_34 : Dc jdk_42_method_149_code 34 (.iload_n 2) 1 35 := ⟨by decide +kernel, rfl⟩
theorem d3_35 : Dc jdk_42_method_149_code 35 (.iload_n 3) 1 36 := ⟨by decide +kernel, rfl⟩
theorem d3_36 : Dc jdk_42_method_149_code 36 (.invokestatic 177) 3 39 := ⟨by decide +kernel, rfl⟩
theorem d3_39 : Dc jdk_42_method_149_code 39 (.astore 5) 2 41 := ⟨by decide +kernel, rfl⟩
theorem d3_41 : Dc jdk_42_method_149_code 41 (.aload_n 0) 1 42 := ⟨by decide +kernel, rfl⟩
theorem d3_42 : Dc jdk_42_method_149_code 42 (.aload 5) 2 44 := ⟨by decide +kernel, rfl⟩
theorem d3_44 : Dc jdk_42_method_149_code 44 (.iload_n 3) 1 45 := ⟨by decide +kernel, rfl⟩
theorem d3_45 : Dc jdk_42_method_149_code 45 (.invokestatic 47) 3 48 := ⟨by decide +kernel, rfl⟩
theorem d3_48 : Dc jdk_42_method_149_code 48 (.putfield 15) 3 51 := ⟨by decide +kernel, rfl⟩
theorem d3_51 : Dc jdk_42_method_149_code 51 (.aload_n 0) 1 52 := ⟨by decide +kernel, rfl⟩
theorem d3_52 : Dc jdk_42_method_149_code 52 (.aload 5) 2 54 := ⟨by decide +kernel, rfl⟩
theorem d3_54 : Dc jdk_42_method_149_code 54 (.putfield 9) 3 57 := ⟨by decide +kernel, rfl⟩
theorem d3_57 : Dc jdk_42_method_149_code 57 (.return_) 1 58 := ⟨by decide +kernel, rfl⟩
theorem d3_58 : Dc jdk_42_method_149_code 58 (.aload_n 0) 1 59 := ⟨by decide +kernel, rfl⟩
theorem d3_59 : Dc jdk_42_method_149_code 59 (.iconst 1) 1 60 := ⟨by decide +kernel, rfl⟩
theorem d3_60 : Dc jdk_42_method_149_code 60 (.putfield 15) 3 63 := ⟨by decide +kernel, rfl⟩
theorem d3_63 : Dc jdk_42_method_149_code 63 (.aload_n 0) 1 64 := ⟨by decide +kernel, rfl⟩
theorem d3_64 : Dc jdk_42_method_149_code 64 (.aload_n 1) 1 65 := ⟨by decide +kernel, rfl⟩
theorem d3_65 : Dc jdk_42_method_149_code 65 (.iload_n 2) 1 66 := ⟨by decide +kernel, rfl⟩
theorem d3_66 : Dc jdk_42_method_149_code 66 (.iload_n 3) 1 67 := ⟨by decide +kernel, rfl⟩
theorem d3_67 : Dc jdk_42_method_149_code 67 (.invokestatic 180) 3 70 := ⟨by decide +kernel, rfl⟩
theorem d3_70 : Dc jdk_42_method_149_code 70 (.putfield 9) 3 73 := ⟨by decide +kernel, rfl⟩
theorem d3_73 : Dc jdk_42_method_149_code 73 (.return_) 1 74 := ⟨by decide +kernel, rfl⟩
theorem d2_0 : Dc jdk_42_method_3_code 0 (.aload_n 0) 1 1 := ⟨by decide +kernel, rfl⟩
theorem d2_1 : Dc jdk_42_method_3_code 1 (.aload_n 1) 1 2 := ⟨by decide +kernel, rfl⟩
theorem d2_2 : Dc jdk_42_method_3_code 2 (.iconst 0) 1 3 := ⟨by decide +kernel, rfl⟩
theorem d2_3 : Dc jdk_42_method_3_code 3 (.aload_n 1) 1 4 := ⟨by decide +kernel, rfl⟩
theorem d2_4 : Dc jdk_42_method_3_code 4 (.arraylength) 1 5 := ⟨by decide +kernel, rfl⟩
theorem d2_5 : Dc jdk_42_method_3_code 5 (.aconst_null) 1 6 := ⟨by decide +kernel, rfl⟩
theorem d2_6 : Dc jdk_42_method_3_code 6 (.invokespecial 27) 3 9 := ⟨by decide +kernel, rfl⟩
theorem d2_9 : Dc jdk_42_method_3_code 9 (.return_) 1 10 := ⟨by decide +kernel, rfl⟩
theorem d5_0 : Dc prog_1_method_4_code 0 (.new 20) 3 3 := ⟨by decide +kernel, rfl⟩
theorem d5_3 : Dc prog_1_method_4_code 3 (.dup) 1 4 := ⟨by decide +kernel, rfl⟩
theorem d5_4 : Dc prog_1_method_4_code 4 (.aload_n 0) 1 5 := ⟨by decide +kernel, rfl⟩
theorem d5_5 : Dc prog_1_method_4_code 5 (.invokevirtual 22) 3 8 := ⟨by decide +kernel, rfl⟩
theorem d5_8 : Dc prog_1_method_4_code 8 (.invokespecial 28) 3 11 := ⟨by decide +kernel, rfl⟩
theorem d5_11 : Dc prog_1_method_4_code 11 (.astore_n 1) 1 12 := ⟨by decide +kernel, rfl⟩
theorem d5_12 : Dc prog_1_method_4_code 12 (.iconst 0) 1 13 := ⟨by decide +kernel, rfl⟩
theorem d5_13 : Dc prog_1_method_4_code 13 (.istore_n 2) 1 14 := ⟨by decide +kernel, rfl⟩
theorem d5_14 : Dc prog_1_method_4_code 14 (.iload_n 2) 1 15 := ⟨by decide +kernel, rfl⟩
theorem d5_15 : Dc prog_1_method_4_code 15 (.aload_n 0) 1 16 := ⟨by decide +kernel, rfl⟩
theorem d5_16 : Dc prog_1_method_4_code 16 (.invokevirtual 22) 3 19 := ⟨by decide +kernel, rfl⟩
theorem d5_19 : Dc prog_1_method_4_code 19 (.if_icmp .ge 105) 3 22 := ⟨by decide +kernel, rfl⟩
theorem d5_22 : Dc prog_1_method_4_code 22 (.aload_n 0) 1 23 := ⟨by decide +kernel, rfl⟩
theorem d5_23 : Dc prog_1_method_4_code 23 (.iload_n 2) 1 24 := ⟨by decide +kernel, rfl⟩
theorem d5_24 : Dc prog_1_method_4_code 24 (.invokevirtual 31) 3 27 := ⟨by decide +kernel, rfl⟩
theorem d5_27 : Dc prog_1_method_4_code 27 (.istore_n 3) 1 28 := ⟨by decide +kernel, rfl⟩
theorem d5_28 : Dc prog_1_method_4_code 28 (.iload_n 3) 1 29 := ⟨by decide +kernel, rfl⟩
theorem d5_29 : Dc prog_1_method_4_code 29 (.lookupswitch 83 #[(9, 53), (10, 63), (13, 73), (92, 43)]) 43 72 := ⟨by decide +kernel, rfl⟩
theorem d5_72 : Dc prog_1_method_4_code 72 (.aload_n 1) 1 73 := ⟨by decide +kernel, rfl⟩
theorem d5_73 : Dc prog_1_method_4_code 73 (.ldc 35) 2 75 := ⟨by decide +kernel, rfl⟩
theorem d5_75 : Dc prog_1_method_4_code 75 (.invokevirtual 37) 3 78 := ⟨by decide +kernel, rfl⟩
theorem d5_78 : Dc prog_1_method_4_code 78 (.pop) 1 79 := ⟨by decide +kernel, rfl⟩
theorem d5_79 : Dc prog_1_method_4_code 79 (.goto 39) 3 82 := ⟨by decide +kernel, rfl⟩
theorem d5_82 : Dc prog_1_method_4_code 82 (.aload_n 1) 1 83 := ⟨by decide +kernel, rfl⟩
theorem d5_83 : Dc prog_1_method_4_code 83 (.ldc 41) 2 85 := ⟨by decide +kernel, rfl⟩
theorem d5_85 : Dc prog_1_method_4_code 85 (.invokevirtual 37) 3 88 := ⟨by decide +kernel, rfl⟩
theorem d5_88 : Dc prog_1_method_4_code 88 (.pop) 1 89 := ⟨by decide +kernel, rfl⟩
theorem d5_89 : Dc prog_1_method_4_code 89 (.goto 29) 3 92 := ⟨by decide +kernel, rfl⟩
theorem d5_92 : Dc prog_1_method_4_code 92 (.aload_n 1) 1 93 := ⟨by decide +kernel, rfl⟩
theorem d5_93 : Dc prog_1_method_4_code 93 (.ldc 43) 2 95 := ⟨by decide +kernel, rfl⟩
theorem d5_95 : Dc prog_1_method_4_code 95 (.invokevirtual 37) 3 98 := ⟨by decide +kernel, rfl⟩
theorem d5_98 : Dc prog_1_method_4_code 98 (.pop) 1 99 := ⟨by decide +kernel, rfl⟩
theorem d5_99 : Dc prog_1_method_4_code 99 (.goto 19) 3 102 := ⟨by decide +kernel, rfl⟩
theorem d5_102 : Dc prog_1_method_4_code 102 (.aload_n 1) 1 103 := ⟨by decide +kernel, rfl⟩
theorem d5_103 : Dc prog_1_method_4_code 103 (.ldc 45) 2 105 := ⟨by decide +kernel, rfl⟩
theorem d5_105 : Dc prog_1_method_4_code 105 (.invokevirtual 37) 3 108 := ⟨by decide +kernel, rfl⟩
theorem d5_108 : Dc prog_1_method_4_code 108 (.pop) 1 109 := ⟨by decide +kernel, rfl⟩
theorem d5_109 : Dc prog_1_method_4_code 109 (.goto 9) 3 112 := ⟨by decide +kernel, rfl⟩
theorem d5_112 : Dc prog_1_method_4_code 112 (.aload_n 1) 1 113 := ⟨by decide +kernel, rfl⟩
theorem d5_113 : Dc prog_1_method_4_code 113 (.iload_n 3) 1 114 := ⟨by decide +kernel, rfl⟩
theorem d5_114 : Dc prog_1_method_4_code 114 (.invokevirtual 47) 3 117 := ⟨by decide +kernel, rfl⟩
theorem d5_117 : Dc prog_1_method_4_code 117 (.pop) 1 118 := ⟨by decide +kernel, rfl⟩
theorem d5_118 : Dc prog_1_method_4_code 118 (.iinc 2 1) 3 121 := ⟨by decide +kernel, rfl⟩
theorem d5_121 : Dc prog_1_method_4_code 121 (.goto (-107)) 3 124 := ⟨by decide +kernel, rfl⟩
theorem d5_124 : Dc prog_1_method_4_code 124 (.aload_n 1) 1 125 := ⟨by decide +kernel, rfl⟩
theorem d5_125 : Dc prog_1_method_4_code 125 (.invokevirtual 50) 3 128 := ⟨by decide +kernel, rfl⟩
theorem d5_128 : Dc prog_1_method_4_code 128 (.areturn) 1 129 := ⟨by decide +kernel, rfl⟩
theorem d1_0 : Dc method_2_code 0 (.iload_n 0) 1 1 := ⟨by decide +kernel, rfl⟩
theorem d1_1 : Dc method_2_code 1 (.bipush 7) 2 3 := ⟨by decide +kernel, rfl⟩
theorem d1_3 : Dc method_2_code 3 (.iand) 1 4 := ⟨by decide +kernel, rfl⟩
theorem d1_4 : Dc method_2_code 4 (.istore_n 1) 1 5 := ⟨by decide +kernel, rfl⟩
theorem d1_5 : Dc method_2_code 5 (.iload_n 1) 1 6 := ⟨by decide +kernel, rfl⟩
theorem d1_6 : Dc method_2_code 6 (.ifCond .ne 6) 3 9 := ⟨by decide +kernel, rfl⟩
theorem d1_9 : Dc method_2_code 9 (.bipush 92) 2 11 := ⟨by decide +kernel, rfl⟩
theorem d1_11 : Dc method_2_code 11 (.ireturn) 1 12 := ⟨by decide +kernel, rfl⟩
theorem d1_12 : Dc method_2_code 12 (.iload_n 1) 1 13 := ⟨by decide +kernel, rfl⟩
theorem d1_13 : Dc method_2_code 13 (.iconst 1) 1 14 := ⟨by decide +kernel, rfl⟩
theorem d1_14 : Dc method_2_code 14 (.if_icmp .ne 6) 3 17 := ⟨by decide +kernel, rfl⟩
theorem d1_17 : Dc method_2_code 17 (.bipush 9) 2 19 := ⟨by decide +kernel, rfl⟩
theorem d1_19 : Dc method_2_code 19 (.ireturn) 1 20 := ⟨by decide +kernel, rfl⟩
theorem d1_20 : Dc method_2_code 20 (.iload_n 1) 1 21 := ⟨by decide +kernel, rfl⟩
theorem d1_21 : Dc method_2_code 21 (.iconst 2) 1 22 := ⟨by decide +kernel, rfl⟩
theorem d1_22 : Dc method_2_code 22 (.if_icmp .ne 6) 3 25 := ⟨by decide +kernel, rfl⟩
theorem d1_25 : Dc method_2_code 25 (.bipush 10) 2 27 := ⟨by decide +kernel, rfl⟩
theorem d1_27 : Dc method_2_code 27 (.ireturn) 1 28 := ⟨by decide +kernel, rfl⟩
theorem d1_28 : Dc method_2_code 28 (.iload_n 1) 1 29 := ⟨by decide +kernel, rfl⟩
theorem d1_29 : Dc method_2_code 29 (.iconst 3) 1 30 := ⟨by decide +kernel, rfl⟩
theorem d1_30 : Dc method_2_code 30 (.if_icmp .ne 6) 3 33 := ⟨by decide +kernel, rfl⟩
theorem d1_33 : Dc method_2_code 33 (.bipush 13) 2 35 := ⟨by decide +kernel, rfl⟩
theorem d1_35 : Dc method_2_code 35 (.ireturn) 1 36 := ⟨by decide +kernel, rfl⟩
theorem d1_36 : Dc method_2_code 36 (.iload_n 0) 1 37 := ⟨by decide +kernel, rfl⟩
theorem d1_37 : Dc method_2_code 37 (.iconst 3) 1 38 := ⟨by decide +kernel, rfl⟩
theorem d1_38 : Dc method_2_code 38 (.iushr) 1 39 := ⟨by decide +kernel, rfl⟩
theorem d1_39 : Dc method_2_code 39 (.ldc 7) 2 41 := ⟨by decide +kernel, rfl⟩
theorem d1_41 : Dc method_2_code 41 (.iand) 1 42 := ⟨by decide +kernel, rfl⟩
theorem d1_42 : Dc method_2_code 42 (.i2c) 1 43 := ⟨by decide +kernel, rfl⟩
theorem d1_43 : Dc method_2_code 43 (.ireturn) 1 44 := ⟨by decide +kernel, rfl⟩
theorem d23_0 : Dc method_3_code 0 (.iload_n 0) 1 1 := ⟨by decide +kernel, rfl⟩
theorem d23_1 : Dc method_3_code 1 (.bipush 92) 2 3 := ⟨by decide +kernel, rfl⟩
theorem d23_3 : Dc method_3_code 3 (.if_icmp .ne 6) 3 6 := ⟨by decide +kernel, rfl⟩
theorem d23_6 : Dc method_3_code 6 (.bipush 92) 2 8 := ⟨by decide +kernel, rfl⟩
theorem d23_8 : Dc method_3_code 8 (.ireturn) 1 9 := ⟨by decide +kernel, rfl⟩
theorem d23_9 : Dc method_3_code 9 (.iload_n 0) 1 10 := ⟨by decide +kernel, rfl⟩
theorem d23_10 : Dc method_3_code 10 (.bipush 9) 2 12 := ⟨by decide +kernel, rfl⟩
theorem d23_12 : Dc method_3_code 12 (.if_icmp .ne 6) 3 15 := ⟨by decide +kernel, rfl⟩
theorem d23_15 : Dc method_3_code 15 (.bipush 116) 2 17 := ⟨by decide +kernel, rfl⟩
theorem d23_17 : Dc method_3_code 17 (.ireturn) 1 18 := ⟨by decide +kernel, rfl⟩
theorem d23_18 : Dc method_3_code 18 (.iload_n 0) 1 19 := ⟨by decide +kernel, rfl⟩
theorem d23_19 : Dc method_3_code 19 (.bipush 10) 2 21 := ⟨by decide +kernel, rfl⟩
theorem d23_21 : Dc method_3_code 21 (.if_icmp .ne 6) 3 24 := ⟨by decide +kernel, rfl⟩
theorem d23_24 : Dc method_3_code 24 (.bipush 110) 2 26 := ⟨by decide +kernel, rfl⟩
theorem d23_26 : Dc method_3_code 26 (.ireturn) 1 27 := ⟨by decide +kernel, rfl⟩
theorem d23_27 : Dc method_3_code 27 (.iload_n 0) 1 28 := ⟨by decide +kernel, rfl⟩
theorem d23_28 : Dc method_3_code 28 (.bipush 13) 2 30 := ⟨by decide +kernel, rfl⟩
theorem d23_30 : Dc method_3_code 30 (.if_icmp .ne 6) 3 33 := ⟨by decide +kernel, rfl⟩
theorem d23_33 : Dc method_3_code 33 (.bipush 114) 2 35 := ⟨by decide +kernel, rfl⟩
theorem d23_35 : Dc method_3_code 35 (.ireturn) 1 36 := ⟨by decide +kernel, rfl⟩
theorem d23_36 : Dc method_3_code 36 (.iconst 0) 1 37 := ⟨by decide +kernel, rfl⟩
theorem d23_37 : Dc method_3_code 37 (.ireturn) 1 38 := ⟨by decide +kernel, rfl⟩
theorem d22_0 : Dc method_4_code 0 (.iload_n 2) 1 1 := ⟨by decide +kernel, rfl⟩
theorem d22_1 : Dc method_4_code 1 (.invokestatic 8) 3 4 := ⟨by decide +kernel, rfl⟩
theorem d22_4 : Dc method_4_code 4 (.istore_n 3) 1 5 := ⟨by decide +kernel, rfl⟩
theorem d22_5 : Dc method_4_code 5 (.iload_n 3) 1 6 := ⟨by decide +kernel, rfl⟩
theorem d22_6 : Dc method_4_code 6 (.ifCond .eq 18) 3 9 := ⟨by decide +kernel, rfl⟩
theorem d22_9 : Dc method_4_code 9 (.aload_n 0) 1 10 := ⟨by decide +kernel, rfl⟩
theorem d22_10 : Dc method_4_code 10 (.iload_n 1) 1 11 := ⟨by decide +kernel, rfl⟩
theorem d22_11 : Dc method_4_code 11 (.bipush 92) 2 13 := ⟨by decide +kernel, rfl⟩
theorem d22_13 : Dc method_4_code 13 (.castore) 1 14 := ⟨by decide +kernel, rfl⟩
theorem d22_14 : Dc method_4_code 14 (.aload_n 0) 1 15 := ⟨by decide +kernel, rfl⟩
theorem d22_15 : Dc method_4_code 15 (.iload_n 1) 1 16 := ⟨by decide +kernel, rfl⟩
theorem d22_16 : Dc method_4_code 16 (.iconst 1) 1 17 := ⟨by decide +kernel, rfl⟩
theorem d22_17 : Dc method_4_code 17 (.iadd) 1 18 := ⟨by decide +kernel, rfl⟩
theorem d22_18 : Dc method_4_code 18 (.iload_n 3) 1 19 := ⟨by decide +kernel, rfl⟩
theorem d22_19 : Dc method_4_code 19 (.castore) 1 20 := ⟨by decide +kernel, rfl⟩
theorem d22_20 : Dc method_4_code 20 (.iload_n 1) 1 21 := ⟨by decide +kernel, rfl⟩
theorem d22_21 : Dc method_4_code 21 (.iconst 2) 1 22 := ⟨by decide +kernel, rfl⟩
theorem d22_22 : Dc method_4_code 22 (.iadd) 1 23 := ⟨by decide +kernel, rfl⟩
theorem d22_23 : Dc method_4_code 23 (.ireturn) 1 24 := ⟨by decide +kernel, rfl⟩
theorem d22_24 : Dc method_4_code 24 (.aload_n 0) 1 25 := ⟨by decide +kernel, rfl⟩
theorem d22_25 : Dc method_4_code 25 (.iload_n 1) 1 26 := ⟨by decide +kernel, rfl⟩
theorem d22_26 : Dc method_4_code 26 (.iload_n 2) 1 27 := ⟨by decide +kernel, rfl⟩
theorem d22_27 : Dc method_4_code 27 (.castore) 1 28 := ⟨by decide +kernel, rfl⟩
theorem d22_28 : Dc method_4_code 28 (.iload_n 1) 1 29 := ⟨by decide +kernel, rfl⟩
theorem d22_29 : Dc method_4_code 29 (.iconst 1) 1 30 := ⟨by decide +kernel, rfl⟩
theorem d22_30 : Dc method_4_code 30 (.iadd) 1 31 := ⟨by decide +kernel, rfl⟩
theorem d22_31 : Dc method_4_code 31 (.ireturn) 1 32 := ⟨by decide +kernel, rfl⟩
theorem d18_0 : Dc method_5_code 0 (.iload_n 2) 1 1 := ⟨by decide +kernel, rfl⟩
theorem d18_1 : Dc method_5_code 1 (.iload_n 3) 1 2 := ⟨by decide +kernel, rfl⟩
theorem d18_2 : Dc method_5_code 2 (.if_icmp .ge 14) 3 5 := ⟨by decide +kernel, rfl⟩
theorem d18_5 : Dc method_5_code 5 (.aload_n 0) 1 6 := ⟨by decide +kernel, rfl⟩
theorem d18_6 : Dc method_5_code 6 (.iload_n 2) 1 7 := ⟨by decide +kernel, rfl⟩
theorem d18_7 : Dc method_5_code 7 (.invokevirtual 14) 3 10 := ⟨by decide +kernel, rfl⟩
theorem d18_10 : Dc method_5_code 10 (.aload_n 1) 1 11 := ⟨by decide +kernel, rfl⟩
theorem d18_11 : Dc method_5_code 11 (.iload_n 2) 1 12 := ⟨by decide +kernel, rfl⟩
theorem d18_12 : Dc method_5_code 12 (.caload) 1 13 := ⟨by decide +kernel, rfl⟩
theorem d18_13 : Dc method_5_code 13 (.if_icmp .ne 7) 3 16 := ⟨by decide +kernel, rfl⟩
theorem d18_16 : Dc method_5_code 16 (.iconst 1) 1 17 := ⟨by decide +kernel, rfl⟩
theorem d18_17 : Dc method_5_code 17 (.goto 4) 3 20 := ⟨by decide +kernel, rfl⟩
theorem d18_20 : Dc method_5_code 20 (.iconst 0) 1 21 := ⟨by decide +kernel, rfl⟩
theorem d18_21 : Dc method_5_code 21 (.ireturn) 1 22 := ⟨by decide +kernel, rfl⟩
theorem d0_0 : Dc code 0 (.iload_n 0) 1 1 := ⟨by decide +kernel, rfl⟩
theorem d0_1 : Dc code 1 (.ldc 20) 2 3 := ⟨by decide +kernel, rfl⟩
theorem d0_3 : Dc code 3 (.iand) 1 4 := ⟨by decide +kernel, rfl⟩
theorem d0_4 : Dc code 4 (.iconst 5) 1 5 := ⟨by decide +kernel, rfl⟩
theorem d0_5 : Dc code 5 (.irem) 1 6 := ⟨by decide +kernel, rfl⟩
theorem d0_6 : Dc code 6 (.istore 5) 2 8 := ⟨by decide +kernel, rfl⟩
theorem d0_8 : Dc code 8 (.iload_n 1) 1 9 := ⟨by decide +kernel, rfl⟩
theorem d0_9 : Dc code 9 (.invokestatic 21) 3 12 := ⟨by decide +kernel, rfl⟩
theorem d0_12 : Dc code 12 (.istore 6) 2 14 := ⟨by decide +kernel, rfl⟩
theorem d0_14 : Dc code 14 (.iload_n 2) 1 15 := ⟨by decide +kernel, rfl⟩
theorem d0_15 : Dc code 15 (.invokestatic 21) 3 18 := ⟨by decide +kernel, rfl⟩
theorem d0_18 : Dc code 18 (.istore 7) 2 20 := ⟨by decide +kernel, rfl⟩
theorem d0_20 : Dc code 20 (.iload_n 3) 1 21 := ⟨by decide +kernel, rfl⟩
theorem d0_21 : Dc code 21 (.invokestatic 21) 3 24 := ⟨by decide +kernel, rfl⟩
theorem d0_24 : Dc code 24 (.istore 8) 2 26 := ⟨by decide +kernel, rfl⟩
theorem d0_26 : Dc code 26 (.iload 4) 2 28 := ⟨by decide +kernel, rfl⟩
theorem d0_28 : Dc code 28 (.invokestatic 21) 3 31 := ⟨by decide +kernel, rfl⟩
theorem d0_31 : Dc code 31 (.istore 9) 2 33 := ⟨by decide +kernel, rfl⟩
theorem d0_33 : Dc code 33 (.iload 5) 2 35 := ⟨by decide +kernel, rfl⟩
theorem d0_35 : Dc code 35 (.ifCond .ne 18) 3 38 := ⟨by decide +kernel, rfl⟩
theorem d0_38 : Dc code 38 (.new 15) 3 41 := ⟨by decide +kernel, rfl⟩
theorem d0_41 : Dc code 41 (.dup) 1 42 := ⟨by decide +kernel, rfl⟩
theorem d0_42 : Dc code 42 (.iconst 0) 1 43 := ⟨by decide +kernel, rfl⟩
theorem d0_43 : Dc code 43 (.newarray .char) 2 45 := ⟨by decide +kernel, rfl⟩
theorem d0_45 : Dc code 45 (.invokespecial 24) 3 48 := ⟨by decide +kernel, rfl⟩
theorem d0_48 : Dc code 48 (.astore 10) 2 50 := ⟨by decide +kernel, rfl⟩
theorem d0_50 : Dc code 50 (.goto 128) 3 53 := ⟨by decide +kernel, rfl⟩
theorem d0_53 : Dc code 53 (.iload 5) 2 55 := ⟨by decide +kernel, rfl⟩
theorem d0_55 : Dc code 55 (.iconst 1) 1 56 := ⟨by decide +kernel, rfl⟩
theorem d0_56 : Dc code 56 (.if_icmp .ne 23) 3 59 := ⟨by decide +kernel, rfl⟩
theorem d0_59 : Dc code 59 (.new 15) 3 62 := ⟨by decide +kernel, rfl⟩
theorem d0_62 : Dc code 62 (.dup) 1 63 := ⟨by decide +kernel, rfl⟩
theorem d0_63 : Dc code 63 (.iconst 1) 1 64 := ⟨by decide +kernel, rfl⟩
theorem d0_64 : Dc code 64 (.newarray .char) 2 66 := ⟨by decide +kernel, rfl⟩
theorem d0_66 : Dc code 66 (.dup) 1 67 := ⟨by decide +kernel, rfl⟩
theorem d0_67 : Dc code 67 (.iconst 0) 1 68 := ⟨by decide +kernel, rfl⟩
theorem d0_68 : Dc code 68 (.iload 6) 2 70 := ⟨by decide +kernel, rfl⟩
theorem d0_70 : Dc code 70 (.castore) 1 71 := ⟨by decide +kernel, rfl⟩
theorem d0_71 : Dc code 71 (.invokespecial 24) 3 74 := ⟨by decide +kernel, rfl⟩
theorem d0_74 : Dc code 74 (.astore 10) 2 76 := ⟨by decide +kernel, rfl⟩
theorem d0_76 : Dc code 76 (.goto 102) 3 79 := ⟨by decide +kernel, rfl⟩
theorem d0_79 : Dc code 79 (.iload 5) 2 81 := ⟨by decide +kernel, rfl⟩
theorem d0_81 : Dc code 81 (.iconst 2) 1 82 := ⟨by decide +kernel, rfl⟩
theorem d0_82 : Dc code 82 (.if_icmp .ne 28) 3 85 := ⟨by decide +kernel, rfl⟩
theorem d0_85 : Dc code 85 (.new 15) 3 88 := ⟨by decide +kernel, rfl⟩
theorem d0_88 : Dc code 88 (.dup) 1 89 := ⟨by decide +kernel, rfl⟩
theorem d0_89 : Dc code 89 (.iconst 2) 1 90 := ⟨by decide +kernel, rfl⟩
theorem d0_90 : Dc code 90 (.newarray .char) 2 92 := ⟨by decide +kernel, rfl⟩
theorem d0_92 : Dc code 92 (.dup) 1 93 := ⟨by decide +kernel, rfl⟩
theorem d0_93 : Dc code 93 (.iconst 0) 1 94 := ⟨by decide +kernel, rfl⟩
theorem d0_94 : Dc code 94 (.iload 6) 2 96 := ⟨by decide +kernel, rfl⟩
theorem d0_96 : Dc code 96 (.castore) 1 97 := ⟨by decide +kernel, rfl⟩
theorem d0_97 : Dc code 97 (.dup) 1 98 := ⟨by decide +kernel, rfl⟩
theorem d0_98 : Dc code 98 (.iconst 1) 1 99 := ⟨by decide +kernel, rfl⟩
theorem d0_99 : Dc code 99 (.iload 7) 2 101 := ⟨by decide +kernel, rfl⟩
theorem d0_101 : Dc code 101 (.castore) 1 102 := ⟨by decide +kernel, rfl⟩
theorem d0_102 : Dc code 102 (.invokespecial 24) 3 105 := ⟨by decide +kernel, rfl⟩
theorem d0_105 : Dc code 105 (.astore 10) 2 107 := ⟨by decide +kernel, rfl⟩
theorem d0_107 : Dc code 107 (.goto 71) 3 110 := ⟨by decide +kernel, rfl⟩
theorem d0_110 : Dc code 110 (.iload 5) 2 112 := ⟨by decide +kernel, rfl⟩
theorem d0_112 : Dc code 112 (.iconst 3) 1 113 := ⟨by decide +kernel, rfl⟩
theorem d0_113 : Dc code 113 (.if_icmp .ne 33) 3 116 := ⟨by decide +kernel, rfl⟩
theorem d0_116 : Dc code 116 (.new 15) 3 119 := ⟨by decide +kernel, rfl⟩
theorem d0_119 : Dc code 119 (.dup) 1 120 := ⟨by decide +kernel, rfl⟩
theorem d0_120 : Dc code 120 (.iconst 3) 1 121 := ⟨by decide +kernel, rfl⟩
theorem d0_121 : Dc code 121 (.newarray .char) 2 123 := ⟨by decide +kernel, rfl⟩
theorem d0_123 : Dc code 123 (.dup) 1 124 := ⟨by decide +kernel, rfl⟩
theorem d0_124 : Dc code 124 (.iconst 0) 1 125 := ⟨by decide +kernel, rfl⟩
theorem d0_125 : Dc code 125 (.iload 6) 2 127 := ⟨by decide +kernel, rfl⟩
theorem d0_127 : Dc code 127 (.castore) 1 128 := ⟨by decide +kernel, rfl⟩
theorem d0_128 : Dc code 128 (.dup) 1 129 := ⟨by decide +kernel, rfl⟩
theorem d0_129 : Dc code 129 (.iconst 1) 1 130 := ⟨by decide +kernel, rfl⟩
theorem d0_130 : Dc code 130 (.iload 7) 2 132 := ⟨by decide +kernel, rfl⟩
theorem d0_132 : Dc code 132 (.castore) 1 133 := ⟨by decide +kernel, rfl⟩
theorem d0_133 : Dc code 133 (.dup) 1 134 := ⟨by decide +kernel, rfl⟩
theorem d0_134 : Dc code 134 (.iconst 2) 1 135 := ⟨by decide +kernel, rfl⟩
theorem d0_135 : Dc code 135 (.iload 8) 2 137 := ⟨by decide +kernel, rfl⟩
theorem d0_137 : Dc code 137 (.castore) 1 138 := ⟨by decide +kernel, rfl⟩
theorem d0_138 : Dc code 138 (.invokespecial 24) 3 141 := ⟨by decide +kernel, rfl⟩
theorem d0_141 : Dc code 141 (.astore 10) 2 143 := ⟨by decide +kernel, rfl⟩
theorem d0_143 : Dc code 143 (.goto 35) 3 146 := ⟨by decide +kernel, rfl⟩
theorem d0_146 : Dc code 146 (.new 15) 3 149 := ⟨by decide +kernel, rfl⟩
theorem d0_149 : Dc code 149 (.dup) 1 150 := ⟨by decide +kernel, rfl⟩
theorem d0_150 : Dc code 150 (.iconst 4) 1 151 := ⟨by decide +kernel, rfl⟩
theorem d0_151 : Dc code 151 (.newarray .char) 2 153 := ⟨by decide +kernel, rfl⟩
theorem d0_153 : Dc code 153 (.dup) 1 154 := ⟨by decide +kernel, rfl⟩
theorem d0_154 : Dc code 154 (.iconst 0) 1 155 := ⟨by decide +kernel, rfl⟩
theorem d0_155 : Dc code 155 (.iload 6) 2 157 := ⟨by decide +kernel, rfl⟩
theorem d0_157 : Dc code 157 (.castore) 1 158 := ⟨by decide +kernel, rfl⟩
theorem d0_158 : Dc code 158 (.dup) 1 159 := ⟨by decide +kernel, rfl⟩
theorem d0_159 : Dc code 159 (.iconst 1) 1 160 := ⟨by decide +kernel, rfl⟩
theorem d0_160 : Dc code 160 (.iload 7) 2 162 := ⟨by decide +kernel, rfl⟩
theorem d0_162 : Dc code 162 (.castore) 1 163 := ⟨by decide +kernel, rfl⟩
theorem d0_163 : Dc code 163 (.dup) 1 164 := ⟨by decide +kernel, rfl⟩
theorem d0_164 : Dc code 164 (.iconst 2) 1 165 := ⟨by decide +kernel, rfl⟩
theorem d0_165 : Dc code 165 (.iload 8) 2 167 := ⟨by decide +kernel, rfl⟩
theorem d0_167 : Dc code 167 (.castore) 1 168 := ⟨by decide +kernel, rfl⟩
theorem d0_168 : Dc code 168 (.dup) 1 169 := ⟨by decide +kernel, rfl⟩
theorem d0_169 : Dc code 169 (.iconst 3) 1 170 := ⟨by decide +kernel, rfl⟩
theorem d0_170 : Dc code 170 (.iload 9) 2 172 := ⟨by decide +kernel, rfl⟩
theorem d0_172 : Dc code 172 (.castore) 1 173 := ⟨by decide +kernel, rfl⟩
theorem d0_173 : Dc code 173 (.invokespecial 24) 3 176 := ⟨by decide +kernel, rfl⟩
theorem d0_176 : Dc code 176 (.astore 10) 2 178 := ⟨by decide +kernel, rfl⟩
theorem d0_178 : Dc code 178 (.bipush 8) 2 180 := ⟨by decide +kernel, rfl⟩
theorem d0_180 : Dc code 180 (.newarray .char) 2 182 := ⟨by decide +kernel, rfl⟩
theorem d0_182 : Dc code 182 (.astore 11) 2 184 := ⟨by decide +kernel, rfl⟩
theorem d0_184 : Dc code 184 (.iconst 0) 1 185 := ⟨by decide +kernel, rfl⟩
theorem d0_185 : Dc code 185 (.istore 12) 2 187 := ⟨by decide +kernel, rfl⟩
theorem d0_187 : Dc code 187 (.iload 5) 2 189 := ⟨by decide +kernel, rfl⟩
theorem d0_189 : Dc code 189 (.iconst 1) 1 190 := ⟨by decide +kernel, rfl⟩
theorem d0_190 : Dc code 190 (.if_icmp .lt 14) 3 193 := ⟨by decide +kernel, rfl⟩
theorem d0_193 : Dc code 193 (.aload 11) 2 195 := ⟨by decide +kernel, rfl⟩
theorem d0_195 : Dc code 195 (.iload 12) 2 197 := ⟨by decide +kernel, rfl⟩
theorem d0_197 : Dc code 197 (.iload 6) 2 199 := ⟨by decide +kernel, rfl⟩
theorem d0_199 : Dc code 199 (.invokestatic 27) 3 202 := ⟨by decide +kernel, rfl⟩
theorem d0_202 : Dc code 202 (.istore 12) 2 204 := ⟨by decide +kernel, rfl⟩
theorem d0_204 : Dc code 204 (.iload 5) 2 206 := ⟨by decide +kernel, rfl⟩
theorem d0_206 : Dc code 206 (.iconst 2) 1 207 := ⟨by decide +kernel, rfl⟩
theorem d0_207 : Dc code 207 (.if_icmp .lt 14) 3 210 := ⟨by decide +kernel, rfl⟩
theorem d0_210 : Dc code 210 (.aload 11) 2 212 := ⟨by decide +kernel, rfl⟩
theorem d0_212 : Dc code 212 (.iload 12) 2 214 := ⟨by decide +kernel, rfl⟩
theorem d0_214 : Dc code 214 (.iload 7) 2 216 := ⟨by decide +kernel, rfl⟩
theorem d0_216 : Dc code 216 (.invokestatic 27) 3 219 := ⟨by decide +kernel, rfl⟩
theorem d0_219 : Dc code 219 (.istore 12) 2 221 := ⟨by decide +kernel, rfl⟩
theorem d0_221 : Dc code 221 (.iload 5) 2 223 := ⟨by decide +kernel, rfl⟩
theorem d0_223 : Dc code 223 (.iconst 3) 1 224 := ⟨by decide +kernel, rfl⟩
theorem d0_224 : Dc code 224 (.if_icmp .lt 14) 3 227 := ⟨by decide +kernel, rfl⟩
theorem d0_227 : Dc code 227 (.aload 11) 2 229 := ⟨by decide +kernel, rfl⟩
theorem d0_229 : Dc code 229 (.iload 12) 2 231 := ⟨by decide +kernel, rfl⟩
theorem d0_231 : Dc code 231 (.iload 8) 2 233 := ⟨by decide +kernel, rfl⟩
theorem d0_233 : Dc code 233 (.invokestatic 27) 3 236 := ⟨by decide +kernel, rfl⟩
theorem d0_236 : Dc code 236 (.istore 12) 2 238 := ⟨by decide +kernel, rfl⟩
theorem d0_238 : Dc code 238 (.iload 5) 2 240 := ⟨by decide +kernel, rfl⟩
theorem d0_240 : Dc code 240 (.iconst 4) 1 241 := ⟨by decide +kernel, rfl⟩
theorem d0_241 : Dc code 241 (.if_icmp .lt 14) 3 244 := ⟨by decide +kernel, rfl⟩
theorem d0_244 : Dc code 244 (.aload 11) 2 246 := ⟨by decide +kernel, rfl⟩
theorem d0_246 : Dc code 246 (.iload 12) 2 248 := ⟨by decide +kernel, rfl⟩
theorem d0_248 : Dc code 248 (.iload 9) 2 250 := ⟨by decide +kernel, rfl⟩
theorem d0_250 : Dc code 250 (.invokestatic 27) 3 253 := ⟨by decide +kernel, rfl⟩
theorem d0_253 : Dc code 253 (.istore 12) 2 255 := ⟨by decide +kernel, rfl⟩
theorem d0_255 : Dc code 255 (.aload 10) 2 257 := ⟨by decide +kernel, rfl⟩
theorem d0_257 : Dc code 257 (.invokestatic 31) 3 260 := ⟨by decide +kernel, rfl⟩
theorem d0_260 : Dc code 260 (.astore 13) 2 262 := ⟨by decide +kernel, rfl⟩
theorem d0_262 : Dc code 262 (.aload 13) 2 264 := ⟨by decide +kernel, rfl⟩
theorem d0_264 : Dc code 264 (.invokevirtual 37) 3 267 := ⟨by decide +kernel, rfl⟩
theorem d0_267 : Dc code 267 (.iload 12) 2 269 := ⟨by decide +kernel, rfl⟩
theorem d0_269 : Dc code 269 (.if_icmp .eq 5) 3 272 := ⟨by decide +kernel, rfl⟩
theorem d0_272 : Dc code 272 (.iconst 0) 1 273 := ⟨by decide +kernel, rfl⟩
theorem d0_273 : Dc code 273 (.ireturn) 1 274 := ⟨by decide +kernel, rfl⟩
theorem d0_274 : Dc code 274 (.aload 13) 2 276 := ⟨by decide +kernel, rfl⟩
theorem d0_276 : Dc code 276 (.aload 11) 2 278 := ⟨by decide +kernel, rfl⟩
theorem d0_278 : Dc code 278 (.iconst 0) 1 279 := ⟨by decide +kernel, rfl⟩
theorem d0_279 : Dc code 279 (.iload 12) 2 281 := ⟨by decide +kernel, rfl⟩
theorem d0_281 : Dc code 281 (.invokestatic 41) 3 284 := ⟨by decide +kernel, rfl⟩
theorem d0_284 : Dc code 284 (.ifCond .eq 100) 3 287 := ⟨by decide +kernel, rfl⟩
theorem d0_287 : Dc code 287 (.aload 13) 2 289 := ⟨by decide +kernel, rfl⟩
theorem d0_289 : Dc code 289 (.aload 11) 2 291 := ⟨by decide +kernel, rfl⟩
theorem d0_291 : Dc code 291 (.iconst 1) 1 292 := ⟨by decide +kernel, rfl⟩
theorem d0_292 : Dc code 292 (.iload 12) 2 294 := ⟨by decide +kernel, rfl⟩
theorem d0_294 : Dc code 294 (.invokestatic 41) 3 297 := ⟨by decide +kernel, rfl⟩
theorem d0_297 : Dc code 297 (.ifCond .eq 87) 3 300 := ⟨by decide +kernel, rfl⟩
theorem d0_300 : Dc code 300 (.aload 13) 2 302 := ⟨by decide +kernel, rfl⟩
theorem d0_302 : Dc code 302 (.aload 11) 2 304 := ⟨by decide +kernel, rfl⟩
theorem d0_304 : Dc code 304 (.iconst 2) 1 305 := ⟨by decide +kernel, rfl⟩
theorem d0_305 : Dc code 305 (.iload 12) 2 307 := ⟨by decide +kernel, rfl⟩
theorem d0_307 : Dc code 307 (.invokestatic 41) 3 310 := ⟨by decide +kernel, rfl⟩
theorem d0_310 : Dc code 310 (.ifCond .eq 74) 3 313 := ⟨by decide +kernel, rfl⟩
theorem d0_313 : Dc code 313 (.aload 13) 2 315 := ⟨by decide +kernel, rfl⟩
theorem d0_315 : Dc code 315 (.aload 11) 2 317 := ⟨by decide +kernel, rfl⟩
theorem d0_317 : Dc code 317 (.iconst 3) 1 318 := ⟨by decide +kernel, rfl⟩
theorem d0_318 : Dc code 318 (.iload 12) 2 320 := ⟨by decide +kernel, rfl⟩
theorem d0_320 : Dc code 320 (.invokestatic 41) 3 323 := ⟨by decide +kernel, rfl⟩
theorem d0_323 : Dc code 323 (.ifCond .eq 61) 3 326 := ⟨by decide +kernel, rfl⟩
theorem d0_326 : Dc code 326 (.aload 13) 2 328 := ⟨by decide +kernel, rfl⟩
theorem d0_328 : Dc code 328 (.aload 11) 2 330 := ⟨by decide +kernel, rfl⟩
theorem d0_330 : Dc code 330 (.iconst 4) 1 331 := ⟨by decide +kernel, rfl⟩
theorem d0_331 : Dc code 331 (.iload 12) 2 333 := ⟨by decide +kernel, rfl⟩
theorem d0_333 : Dc code 333 (.invokestatic 41) 3 336 := ⟨by decide +kernel, rfl⟩
theorem d0_336 : Dc code 336 (.ifCond .eq 48) 3 339 := ⟨by decide +kernel, rfl⟩
theorem d0_339 : Dc code 339 (.aload 13) 2 341 := ⟨by decide +kernel, rfl⟩
theorem d0_341 : Dc code 341 (.aload 11) 2 343 := ⟨by decide +kernel, rfl⟩
theorem d0_343 : Dc code 343 (.iconst 5) 1 344 := ⟨by decide +kernel, rfl⟩
theorem d0_344 : Dc code 344 (.iload 12) 2 346 := ⟨by decide +kernel, rfl⟩
theorem d0_346 : Dc code 346 (.invokestatic 41) 3 349 := ⟨by decide +kernel, rfl⟩
theorem d0_349 : Dc code 349 (.ifCond .eq 35) 3 352 := ⟨by decide +kernel, rfl⟩
theorem d0_352 : Dc code 352 (.aload 13) 2 354 := ⟨by decide +kernel, rfl⟩
theorem d0_354 : Dc code 354 (.aload 11) 2 356 := ⟨by decide +kernel, rfl⟩
theorem d0_356 : Dc code 356 (.bipush 6) 2 358 := ⟨by decide +kernel, rfl⟩
theorem d0_358 : Dc code 358 (.iload 12) 2 360 := ⟨by decide +kernel, rfl⟩
theorem d0_360 : Dc code 360 (.invokestatic 41) 3 363 := ⟨by decide +kernel, rfl⟩
theorem d0_363 : Dc code 363 (.ifCond .eq 21) 3 366 := ⟨by decide +kernel, rfl⟩
theorem d0_366 : Dc code 366 (.aload 13) 2 368 := ⟨by decide +kernel, rfl⟩
theorem d0_368 : Dc code 368 (.aload 11) 2 370 := ⟨by decide +kernel, rfl⟩
theorem d0_370 : Dc code 370 (.bipush 7) 2 372 := ⟨by decide +kernel, rfl⟩
theorem d0_372 : Dc code 372 (.iload 12) 2 374 := ⟨by decide +kernel, rfl⟩
theorem d0_374 : Dc code 374 (.invokestatic 41) 3 377 := ⟨by decide +kernel, rfl⟩
theorem d0_377 : Dc code 377 (.ifCond .eq 7) 3 380 := ⟨by decide +kernel, rfl⟩
theorem d0_380 : Dc code 380 (.iconst 1) 1 381 := ⟨by decide +kernel, rfl⟩
theorem d0_381 : Dc code 381 (.goto 4) 3 384 := ⟨by decide +kernel, rfl⟩
theorem d0_384 : Dc code 384 (.iconst 0) 1 385 := ⟨by decide +kernel, rfl⟩
theorem d0_385 : Dc code 385 (.ireturn) 1 386 := ⟨by decide +kernel, rfl⟩
def w0 {Z : State} {a0 : Array Value} (hw : ∀ d ∈ tables_1, d.before a0 Z = true) := hw _ (List.mem_of_getElem? (i := 0) rfl)
def w1 {Z : State} {a0 : Array Value} (hw : ∀ d ∈ tables_1, d.before a0 Z = true) := hw _ (List.mem_of_getElem? (i := 1) rfl)
def w2 {Z : State} {a0 : Array Value} (hw : ∀ d ∈ tables_1, d.before a0 Z = true) := hw _ (List.mem_of_getElem? (i := 2) rfl)
def w3 {Z : State} {a0 : Array Value} (hw : ∀ d ∈ tables_1, d.before a0 Z = true) := hw _ (List.mem_of_getElem? (i := 3) rfl)
def w4 {Z : State} {a0 : Array Value} (hw : ∀ d ∈ tables_1, d.before a0 Z = true) := hw _ (List.mem_of_getElem? (i := 4) rfl)
def w5 {Z : State} {a0 : Array Value} (hw : ∀ d ∈ tables_1, d.before a0 Z = true) := hw _ (List.mem_of_getElem? (i := 5) rfl)
def w6 {Z : State} {a0 : Array Value} (hw : ∀ d ∈ tables_1, d.before a0 Z = true) := hw _ (List.mem_of_getElem? (i := 6) rfl)
def w7 {Z : State} {a0 : Array Value} (hw : ∀ d ∈ tables_1, d.before a0 Z = true) := hw _ (List.mem_of_getElem? (i := 7) rfl)
def w8 {Z : State} {a0 : Array Value} (hw : ∀ d ∈ tables_1, d.before a0 Z = true) := hw _ (List.mem_of_getElem? (i := 8) rfl)
def w9 {Z : State} {a0 : Array Value} (hw : ∀ d ∈ tables_1, d.before a0 Z = true) := hw _ (List.mem_of_getElem? (i := 9) rfl)
def w10 {Z : State} {a0 : Array Value} (hw : ∀ d ∈ tables_1, d.before a0 Z = true) := hw _ (List.mem_of_getElem? (i := 10) rfl)
def w11 {Z : State} {a0 : Array Value} (hw : ∀ d ∈ tables_1, d.before a0 Z = true) := hw _ (List.mem_of_getElem? (i := 11) rfl)
def w12 {Z : State} {a0 : Array Value} (hw : ∀ d ∈ tables_1, d.before a0 Z = true) := hw _ (List.mem_of_getElem? (i := 12) rfl)
def w13 {Z : State} {a0 : Array Value} (hw : ∀ d ∈ tables_1, d.before a0 Z = true) := hw _ (List.mem_of_getElem? (i := 13) rfl)
def w15 {Z : State} {a0 : Array Value} (hw : ∀ d ∈ tables_1, d.before a0 Z = true) := hw _ (List.mem_of_getElem? (i := 15) rfl)
def w16 {Z : State} {a0 : Array Value} (hw : ∀ d ∈ tables_1, d.before a0 Z = true) := hw _ (List.mem_of_getElem? (i := 16) rfl)
def w17 {Z : State} {a0 : Array Value} (hw : ∀ d ∈ tables_1, d.before a0 Z = true) := hw _ (List.mem_of_getElem? (i := 17) rfl)
def w18 {Z : State} {a0 : Array Value} (hw : ∀ d ∈ tables_1, d.before a0 Z = true) := hw _ (List.mem_of_getElem? (i := 18) rfl)
def w19 {Z : State} {a0 : Array Value} (hw : ∀ d ∈ tables_1, d.before a0 Z = true) := hw _ (List.mem_of_getElem? (i := 19) rfl)
def w20 {Z : State} {a0 : Array Value} (hw : ∀ d ∈ tables_1, d.before a0 Z = true) := hw _ (List.mem_of_getElem? (i := 20) rfl)
def w21 {Z : State} {a0 : Array Value} (hw : ∀ d ∈ tables_1, d.before a0 Z = true) := hw _ (List.mem_of_getElem? (i := 21) rfl)
def w22 {Z : State} {a0 : Array Value} (hw : ∀ d ∈ tables_1, d.before a0 Z = true) := hw _ (List.mem_of_getElem? (i := 22) rfl)
def w23 {Z : State} {a0 : Array Value} (hw : ∀ d ∈ tables_1, d.before a0 Z = true) := hw _ (List.mem_of_getElem? (i := 23) rfl)
def w24 {Z : State} {a0 : Array Value} (hw : ∀ d ∈ tables_1, d.before a0 Z = true) := hw _ (List.mem_of_getElem? (i := 24) rfl)
def w25 {Z : State} {a0 : Array Value} (hw : ∀ d ∈ tables_1, d.before a0 Z = true) := hw _ (List.mem_of_getElem? (i := 25) rfl)
def w26 {Z : State} {a0 : Array Value} (hw : ∀ d ∈ tables_1, d.before a0 Z = true) := hw _ (List.mem_of_getElem? (i := 26) rfl)
def w27 {Z : State} {a0 : Array Value} (hw : ∀ d ∈ tables_1, d.before a0 Z = true) := hw _ (List.mem_of_getElem? (i := 27) rfl)
def w28 {Z : State} {a0 : Array Value} (hw : ∀ d ∈ tables_1, d.before a0 Z = true) := hw _ (List.mem_of_getElem? (i := 28) rfl)
def w29 {Z : State} {a0 : Array Value} (hw : ∀ d ∈ tables_1, d.before a0 Z = true) := hw _ (List.mem_of_getElem? (i := 29) rfl)
def w30 {Z : State} {a0 : Array Value} (hw : ∀ d ∈ tables_1, d.before a0 Z = true) := hw _ (List.mem_of_getElem? (i := 30) rfl)
def w31 {Z : State} {a0 : Array Value} (hw : ∀ d ∈ tables_1, d.before a0 Z = true) := hw _ (List.mem_of_getElem? (i := 31) rfl)
def w32 {Z : State} {a0 : Array Value} (hw : ∀ d ∈ tables_1, d.before a0 Z = true) := hw _ (List.mem_of_getElem? (i := 32) rfl)
def w33 {Z : State} {a0 : Array Value} (hw : ∀ d ∈ tables_1, d.before a0 Z = true) := hw _ (List.mem_of_getElem? (i := 33) rfl)
def w34 {Z : State} {a0 : Array Value} (hw : ∀ d ∈ tables_1, d.before a0 Z = true) := hw _ (List.mem_of_getElem? (i := 34) rfl)
def w35 {Z : State} {a0 : Array Value} (hw : ∀ d ∈ tables_1, d.before a0 Z = true) := hw _ (List.mem_of_getElem? (i := 35) rfl)
def w36 {Z : State} {a0 : Array Value} (hw : ∀ d ∈ tables_1, d.before a0 Z = true) := hw _ (List.mem_of_getElem? (i := 36) rfl)
def w37 {Z : State} {a0 : Array Value} (hw : ∀ d ∈ tables_1, d.before a0 Z = true) := hw _ (List.mem_of_getElem? (i := 37) rfl)
def w38 {Z : State} {a0 : Array Value} (hw : ∀ d ∈ tables_1, d.before a0 Z = true) := hw _ (List.mem_of_getElem? (i := 38) rfl)
def w39 {Z : State} {a0 : Array Value} (hw : ∀ d ∈ tables_1, d.before a0 Z = true) := hw _ (List.mem_of_getElem? (i := 39) rfl)
def w40 {Z : State} {a0 : Array Value} (hw : ∀ d ∈ tables_1, d.before a0 Z = true) := hw _ (List.mem_of_getElem? (i := 40) rfl)
def w41 {Z : State} {a0 : Array Value} (hw : ∀ d ∈ tables_1, d.before a0 Z = true) := hw _ (List.mem_of_getElem? (i := 41) rfl)
def w42 {Z : State} {a0 : Array Value} (hw : ∀ d ∈ tables_1, d.before a0 Z = true) := hw _ (List.mem_of_getElem? (i := 42) rfl)
def w43 {Z : State} {a0 : Array Value} (hw : ∀ d ∈ tables_1, d.before a0 Z = true) := hw _ (List.mem_of_getElem? (i := 43) rfl)
def w44 {Z : State} {a0 : Array Value} (hw : ∀ d ∈ tables_1, d.before a0 Z = true) := hw _ (List.mem_of_getElem? (i := 44) rfl)
def w45 {Z : State} {a0 : Array Value} (hw : ∀ d ∈ tables_1, d.before a0 Z = true) := hw _ (List.mem_of_getElem? (i := 45) rfl)
def w46 {Z : State} {a0 : Array Value} (hw : ∀ d ∈ tables_1, d.before a0 Z = true) := hw _ (List.mem_of_getElem? (i := 46) rfl)
def w47 {Z : State} {a0 : Array Value} (hw : ∀ d ∈ tables_1, d.before a0 Z = true) := hw _ (List.mem_of_getElem? (i := 47) rfl)
def w48 {Z : State} {a0 : Array Value} (hw : ∀ d ∈ tables_1, d.before a0 Z = true) := hw _ (List.mem_of_getElem? (i := 48) rfl)
def w49 {Z : State} {a0 : Array Value} (hw : ∀ d ∈ tables_1, d.before a0 Z = true) := hw _ (List.mem_of_getElem? (i := 49) rfl)
def w51 {Z : State} {a0 : Array Value} (hw : ∀ d ∈ tables_1, d.before a0 Z = true) := hw _ (List.mem_of_getElem? (i := 51) rfl)
def w52 {Z : State} {a0 : Array Value} (hw : ∀ d ∈ tables_1, d.before a0 Z = true) := hw _ (List.mem_of_getElem? (i := 52) rfl)
def w53 {Z : State} {a0 : Array Value} (hw : ∀ d ∈ tables_1, d.before a0 Z = true) := hw _ (List.mem_of_getElem? (i := 53) rfl)
def w54 {Z : State} {a0 : Array Value} (hw : ∀ d ∈ tables_1, d.before a0 Z = true) := hw _ (List.mem_of_getElem? (i := 54) rfl)
def w55 {Z : State} {a0 : Array Value} (hw : ∀ d ∈ tables_1, d.before a0 Z = true) := hw _ (List.mem_of_getElem? (i := 55) rfl)
def w56 {Z : State} {a0 : Array Value} (hw : ∀ d ∈ tables_1, d.before a0 Z = true) := hw _ (List.mem_of_getElem? (i := 56) rfl)
def w57 {Z : State} {a0 : Array Value} (hw : ∀ d ∈ tables_1, d.before a0 Z = true) := hw _ (List.mem_of_getElem? (i := 57) rfl)
def w58 {Z : State} {a0 : Array Value} (hw : ∀ d ∈ tables_1, d.before a0 Z = true) := hw _ (List.mem_of_getElem? (i := 58) rfl)
def w59 {Z : State} {a0 : Array Value} (hw : ∀ d ∈ tables_1, d.before a0 Z = true) := hw _ (List.mem_of_getElem? (i := 59) rfl)
def w60 {Z : State} {a0 : Array Value} (hw : ∀ d ∈ tables_1, d.before a0 Z = true) := hw _ (List.mem_of_getElem? (i := 60) rfl)
def w61 {Z : State} {a0 : Array Value} (hw : ∀ d ∈ tables_1, d.before a0 Z = true) := hw _ (List.mem_of_getElem? (i := 61) rfl)
def w62 {Z : State} {a0 : Array Value} (hw : ∀ d ∈ tables_1, d.before a0 Z = true) := hw _ (List.mem_of_getElem? (i := 62) rfl)
def w63 {Z : State} {a0 : Array Value} (hw : ∀ d ∈ tables_1, d.before a0 Z = true) := hw _ (List.mem_of_getElem? (i := 63) rfl)
def w64 {Z : State} {a0 : Array Value} (hw : ∀ d ∈ tables_1, d.before a0 Z = true) := hw _ (List.mem_of_getElem? (i := 64) rfl)
def w65 {Z : State} {a0 : Array Value} (hw : ∀ d ∈ tables_1, d.before a0 Z = true) := hw _ (List.mem_of_getElem? (i := 65) rfl)
def w66 {Z : State} {a0 : Array Value} (hw : ∀ d ∈ tables_1, d.before a0 Z = true) := hw _ (List.mem_of_getElem? (i := 66) rfl)
def w67 {Z : State} {a0 : Array Value} (hw : ∀ d ∈ tables_1, d.before a0 Z = true) := hw _ (List.mem_of_getElem? (i := 67) rfl)
def w68 {Z : State} {a0 : Array Value} (hw : ∀ d ∈ tables_1, d.before a0 Z = true) := hw _ (List.mem_of_getElem? (i := 68) rfl)
def w69 {Z : State} {a0 : Array Value} (hw : ∀ d ∈ tables_1, d.before a0 Z = true) := hw _ (List.mem_of_getElem? (i := 69) rfl)
def w70 {Z : State} {a0 : Array Value} (hw : ∀ d ∈ tables_1, d.before a0 Z = true) := hw _ (List.mem_of_getElem? (i := 70) rfl)
def w71 {Z : State} {a0 : Array Value} (hw : ∀ d ∈ tables_1, d.before a0 Z = true) := hw _ (List.mem_of_getElem? (i := 71) rfl)
def w72 {Z : State} {a0 : Array Value} (hw : ∀ d ∈ tables_1, d.before a0 Z = true) := hw _ (List.mem_of_getElem? (i := 72) rfl)
def w73 {Z : State} {a0 : Array Value} (hw : ∀ d ∈ tables_1, d.before a0 Z = true) := hw _ (List.mem_of_getElem? (i := 73) rfl)
def w74 {Z : State} {a0 : Array Value} (hw : ∀ d ∈ tables_1, d.before a0 Z = true) := hw _ (List.mem_of_getElem? (i := 74) rfl)
def w75 {Z : State} {a0 : Array Value} (hw : ∀ d ∈ tables_1, d.before a0 Z = true) := hw _ (List.mem_of_getElem? (i := 75) rfl)
def w76 {Z : State} {a0 : Array Value} (hw : ∀ d ∈ tables_1, d.before a0 Z = true) := hw _ (List.mem_of_getElem? (i := 76) rfl)
def w77 {Z : State} {a0 : Array Value} (hw : ∀ d ∈ tables_1, d.before a0 Z = true) := hw _ (List.mem_of_getElem? (i := 77) rfl)
def w78 {Z : State} {a0 : Array Value} (hw : ∀ d ∈ tables_1, d.before a0 Z = true) := hw _ (List.mem_of_getElem? (i := 78) rfl)
def w79 {Z : State} {a0 : Array Value} (hw : ∀ d ∈ tables_1, d.before a0 Z = true) := hw _ (List.mem_of_getElem? (i := 79) rfl)
def w80 {Z : State} {a0 : Array Value} (hw : ∀ d ∈ tables_1, d.before a0 Z = true) := hw _ (List.mem_of_getElem? (i := 80) rfl)
def w81 {Z : State} {a0 : Array Value} (hw : ∀ d ∈ tables_1, d.before a0 Z = true) := hw _ (List.mem_of_getElem? (i := 81) rfl)
def w82 {Z : State} {a0 : Array Value} (hw : ∀ d ∈ tables_1, d.before a0 Z = true) := hw _ (List.mem_of_getElem? (i := 82) rfl)
def w83 {Z : State} {a0 : Array Value} (hw : ∀ d ∈ tables_1, d.before a0 Z = true) := hw _ (List.mem_of_getElem? (i := 83) rfl)
def w84 {Z : State} {a0 : Array Value} (hw : ∀ d ∈ tables_1, d.before a0 Z = true) := hw _ (List.mem_of_getElem? (i := 84) rfl)
def w85 {Z : State} {a0 : Array Value} (hw : ∀ d ∈ tables_1, d.before a0 Z = true) := hw _ (List.mem_of_getElem? (i := 85) rfl)
def w86 {Z : State} {a0 : Array Value} (hw : ∀ d ∈ tables_1, d.before a0 Z = true) := hw _ (List.mem_of_getElem? (i := 86) rfl)
def w87 {Z : State} {a0 : Array Value} (hw : ∀ d ∈ tables_1, d.before a0 Z = true) := hw _ (List.mem_of_getElem? (i := 87) rfl)
def w88 {Z : State} {a0 : Array Value} (hw : ∀ d ∈ tables_1, d.before a0 Z = true) := hw _ (List.mem_of_getElem? (i := 88) rfl)
def w89 {Z : State} {a0 : Array Value} (hw : ∀ d ∈ tables_1, d.before a0 Z = true) := hw _ (List.mem_of_getElem? (i := 89) rfl)
def w90 {Z : State} {a0 : Array Value} (hw : ∀ d ∈ tables_1, d.before a0 Z = true) := hw _ (List.mem_of_getElem? (i := 90) rfl)
def w91 {Z : State} {a0 : Array Value} (hw : ∀ d ∈ tables_1, d.before a0 Z = true) := hw _ (List.mem_of_getElem? (i := 91) rfl)
def w92 {Z : State} {a0 : Array Value} (hw : ∀ d ∈ tables_1, d.before a0 Z = true) := hw _ (List.mem_of_getElem? (i := 92) rfl)
def w93 {Z : State} {a0 : Array Value} (hw : ∀ d ∈ tables_1, d.before a0 Z = true) := hw _ (List.mem_of_getElem? (i := 93) rfl)
def w94 {Z : State} {a0 : Array Value} (hw : ∀ d ∈ tables_1, d.before a0 Z = true) := hw _ (List.mem_of_getElem? (i := 94) rfl)
def w95 {Z : State} {a0 : Array Value} (hw : ∀ d ∈ tables_1, d.before a0 Z = true) := hw _ (List.mem_of_getElem? (i := 95) rfl)
def w96 {Z : State} {a0 : Array Value} (hw : ∀ d ∈ tables_1, d.before a0 Z = true) := hw _ (List.mem_of_getElem? (i := 96) rfl)
def w97 {Z : State} {a0 : Array Value} (hw : ∀ d ∈ tables_1, d.before a0 Z = true) := hw _ (List.mem_of_getElem? (i := 97) rfl)
def w98 {Z : State} {a0 : Array Value} (hw : ∀ d ∈ tables_1, d.before a0 Z = true) := hw _ (List.mem_of_getElem? (i := 98) rfl)
def w100 {Z : State} {a0 : Array Value} (hw : ∀ d ∈ tables_1, d.before a0 Z = true) := hw _ (List.mem_of_getElem? (i := 100) rfl)
def w101 {Z : State} {a0 : Array Value} (hw : ∀ d ∈ tables_1, d.before a0 Z = true) := hw _ (List.mem_of_getElem? (i := 101) rfl)
def w102 {Z : State} {a0 : Array Value} (hw : ∀ d ∈ tables_1, d.before a0 Z = true) := hw _ (List.mem_of_getElem? (i := 102) rfl)
def w103 {Z : State} {a0 : Array Value} (hw : ∀ d ∈ tables_1, d.before a0 Z = true) := hw _ (List.mem_of_getElem? (i := 103) rfl)
def w104 {Z : State} {a0 : Array Value} (hw : ∀ d ∈ tables_1, d.before a0 Z = true) := hw _ (List.mem_of_getElem? (i := 104) rfl)
def w105 {Z : State} {a0 : Array Value} (hw : ∀ d ∈ tables_1, d.before a0 Z = true) := hw _ (List.mem_of_getElem? (i := 105) rfl)
def w106 {Z : State} {a0 : Array Value} (hw : ∀ d ∈ tables_1, d.before a0 Z = true) := hw _ (List.mem_of_getElem? (i := 106) rfl)
def w107 {Z : State} {a0 : Array Value} (hw : ∀ d ∈ tables_1, d.before a0 Z = true) := hw _ (List.mem_of_getElem? (i := 107) rfl)
def w108 {Z : State} {a0 : Array Value} (hw : ∀ d ∈ tables_1, d.before a0 Z = true) := hw _ (List.mem_of_getElem? (i := 108) rfl)
def w109 {Z : State} {a0 : Array Value} (hw : ∀ d ∈ tables_1, d.before a0 Z = true) := hw _ (List.mem_of_getElem? (i := 109) rfl)
def w110 {Z : State} {a0 : Array Value} (hw : ∀ d ∈ tables_1, d.before a0 Z = true) := hw _ (List.mem_of_getElem? (i := 110) rfl)
def w111 {Z : State} {a0 : Array Value} (hw : ∀ d ∈ tables_1, d.before a0 Z = true) := hw _ (List.mem_of_getElem? (i := 111) rfl)
def w112 {Z : State} {a0 : Array Value} (hw : ∀ d ∈ tables_1, d.before a0 Z = true) := hw _ (List.mem_of_getElem? (i := 112) rfl)
def w113 {Z : State} {a0 : Array Value} (hw : ∀ d ∈ tables_1, d.before a0 Z = true) := hw _ (List.mem_of_getElem? (i := 113) rfl)
def w114 {Z : State} {a0 : Array Value} (hw : ∀ d ∈ tables_1, d.before a0 Z = true) := hw _ (List.mem_of_getElem? (i := 114) rfl)
def w115 {Z : State} {a0 : Array Value} (hw : ∀ d ∈ tables_1, d.before a0 Z = true) := hw _ (List.mem_of_getElem? (i := 115) rfl)
def w116 {Z : State} {a0 : Array Value} (hw : ∀ d ∈ tables_1, d.before a0 Z = true) := hw _ (List.mem_of_getElem? (i := 116) rfl)
def w117 {Z : State} {a0 : Array Value} (hw : ∀ d ∈ tables_1, d.before a0 Z = true) := hw _ (List.mem_of_getElem? (i := 117) rfl)
def w118 {Z : State} {a0 : Array Value} (hw : ∀ d ∈ tables_1, d.before a0 Z = true) := hw _ (List.mem_of_getElem? (i := 118) rfl)
def w119 {Z : State} {a0 : Array Value} (hw : ∀ d ∈ tables_1, d.before a0 Z = true) := hw _ (List.mem_of_getElem? (i := 119) rfl)
def w120 {Z : State} {a0 : Array Value} (hw : ∀ d ∈ tables_1, d.before a0 Z = true) := hw _ (List.mem_of_getElem? (i := 120) rfl)
def w121 {Z : State} {a0 : Array Value} (hw : ∀ d ∈ tables_1, d.before a0 Z = true) := hw _ (List.mem_of_getElem? (i := 121) rfl)
def w122 {Z : State} {a0 : Array Value} (hw : ∀ d ∈ tables_1, d.before a0 Z = true) := hw _ (List.mem_of_getElem? (i := 122) rfl)
def w123 {Z : State} {a0 : Array Value} (hw : ∀ d ∈ tables_1, d.before a0 Z = true) := hw _ (List.mem_of_getElem? (i := 123) rfl)
def w124 {Z : State} {a0 : Array Value} (hw : ∀ d ∈ tables_1, d.before a0 Z = true) := hw _ (List.mem_of_getElem? (i := 124) rfl)
def w125 {Z : State} {a0 : Array Value} (hw : ∀ d ∈ tables_1, d.before a0 Z = true) := hw _ (List.mem_of_getElem? (i := 125) rfl)
def w126 {Z : State} {a0 : Array Value} (hw : ∀ d ∈ tables_1, d.before a0 Z = true) := hw _ (List.mem_of_getElem? (i := 126) rfl)
def w127 {Z : State} {a0 : Array Value} (hw : ∀ d ∈ tables_1, d.before a0 Z = true) := hw _ (List.mem_of_getElem? (i := 127) rfl)
def w128 {Z : State} {a0 : Array Value} (hw : ∀ d ∈ tables_1, d.before a0 Z = true) := hw _ (List.mem_of_getElem? (i := 128) rfl)
def w129 {Z : State} {a0 : Array Value} (hw : ∀ d ∈ tables_1, d.before a0 Z = true) := hw _ (List.mem_of_getElem? (i := 129) rfl)
def w130 {Z : State} {a0 : Array Value} (hw : ∀ d ∈ tables_1, d.before a0 Z = true) := hw _ (List.mem_of_getElem? (i := 130) rfl)
def w131 {Z : State} {a0 : Array Value} (hw : ∀ d ∈ tables_1, d.before a0 Z = true) := hw _ (List.mem_of_getElem? (i := 131) rfl)
def w132 {Z : State} {a0 : Array Value} (hw : ∀ d ∈ tables_1, d.before a0 Z = true) := hw _ (List.mem_of_getElem? (i := 132) rfl)
def w133 {Z : State} {a0 : Array Value} (hw : ∀ d ∈ tables_1, d.before a0 Z = true) := hw _ (List.mem_of_getElem? (i := 133) rfl)
def w134 {Z : State} {a0 : Array Value} (hw : ∀ d ∈ tables_1, d.before a0 Z = true) := hw _ (List.mem_of_getElem? (i := 134) rfl)
def w135 {Z : State} {a0 : Array Value} (hw : ∀ d ∈ tables_1, d.before a0 Z = true) := hw _ (List.mem_of_getElem? (i := 135) rfl)
def w136 {Z : State} {a0 : Array Value} (hw : ∀ d ∈ tables_1, d.before a0 Z = true) := hw _ (List.mem_of_getElem? (i := 136) rfl)
def w137 {Z : State} {a0 : Array Value} (hw : ∀ d ∈ tables_1, d.before a0 Z = true) := hw _ (List.mem_of_getElem? (i := 137) rfl)
def w138 {Z : State} {a0 : Array Value} (hw : ∀ d ∈ tables_1, d.before a0 Z = true) := hw _ (List.mem_of_getElem? (i := 138) rfl)
def w139 {Z : State} {a0 : Array Value} (hw : ∀ d ∈ tables_1, d.before a0 Z = true) := hw _ (List.mem_of_getElem? (i := 139) rfl)
def w140 {Z : State} {a0 : Array Value} (hw : ∀ d ∈ tables_1, d.before a0 Z = true) := hw _ (List.mem_of_getElem? (i := 140) rfl)
def w141 {Z : State} {a0 : Array Value} (hw : ∀ d ∈ tables_1, d.before a0 Z = true) := hw _ (List.mem_of_getElem? (i := 141) rfl)
def w142 {Z : State} {a0 : Array Value} (hw : ∀ d ∈ tables_1, d.before a0 Z = true) := hw _ (List.mem_of_getElem? (i := 142) rfl)
def w143 {Z : State} {a0 : Array Value} (hw : ∀ d ∈ tables_1, d.before a0 Z = true) := hw _ (List.mem_of_getElem? (i := 143) rfl)
def w144 {Z : State} {a0 : Array Value} (hw : ∀ d ∈ tables_1, d.before a0 Z = true) := hw _ (List.mem_of_getElem? (i := 144) rfl)
def w145 {Z : State} {a0 : Array Value} (hw : ∀ d ∈ tables_1, d.before a0 Z = true) := hw _ (List.mem_of_getElem? (i := 145) rfl)
def w146 {Z : State} {a0 : Array Value} (hw : ∀ d ∈ tables_1, d.before a0 Z = true) := hw _ (List.mem_of_getElem? (i := 146) rfl)
def w147 {Z : State} {a0 : Array Value} (hw : ∀ d ∈ tables_1, d.before a0 Z = true) := hw _ (List.mem_of_getElem? (i := 147) rfl)
def w148 {Z : State} {a0 : Array Value} (hw : ∀ d ∈ tables_1, d.before a0 Z = true) := hw _ (List.mem_of_getElem? (i := 148) rfl)
def w149 {Z : State} {a0 : Array Value} (hw : ∀ d ∈ tables_1, d.before a0 Z = true) := hw _ (List.mem_of_getElem? (i := 149) rfl)
def w150 {Z : State} {a0 : Array Value} (hw : ∀ d ∈ tables_1, d.before a0 Z = true) := hw _ (List.mem_of_getElem? (i := 150) rfl)
def w151 {Z : State} {a0 : Array Value} (hw : ∀ d ∈ tables_1, d.before a0 Z = true) := hw _ (List.mem_of_getElem? (i := 151) rfl)
def w152 {Z : State} {a0 : Array Value} (hw : ∀ d ∈ tables_1, d.before a0 Z = true) := hw _ (List.mem_of_getElem? (i := 152) rfl)
def w153 {Z : State} {a0 : Array Value} (hw : ∀ d ∈ tables_1, d.before a0 Z = true) := hw _ (List.mem_of_getElem? (i := 153) rfl)
def w154 {Z : State} {a0 : Array Value} (hw : ∀ d ∈ tables_1, d.before a0 Z = true) := hw _ (List.mem_of_getElem? (i := 154) rfl)
def w155 {Z : State} {a0 : Array Value} (hw : ∀ d ∈ tables_1, d.before a0 Z = true) := hw _ (List.mem_of_getElem? (i := 155) rfl)
def w156 {Z : State} {a0 : Array Value} (hw : ∀ d ∈ tables_1, d.before a0 Z = true) := hw _ (List.mem_of_getElem? (i := 156) rfl)
def w157 {Z : State} {a0 : Array Value} (hw : ∀ d ∈ tables_1, d.before a0 Z = true) := hw _ (List.mem_of_getElem? (i := 157) rfl)
def w158 {Z : State} {a0 : Array Value} (hw : ∀ d ∈ tables_1, d.before a0 Z = true) := hw _ (List.mem_of_getElem? (i := 158) rfl)
def w159 {Z : State} {a0 : Array Value} (hw : ∀ d ∈ tables_1, d.before a0 Z = true) := hw _ (List.mem_of_getElem? (i := 159) rfl)
def w161 {Z : State} {a0 : Array Value} (hw : ∀ d ∈ tables_1, d.before a0 Z = true) := hw _ (List.mem_of_getElem? (i := 161) rfl)
def w162 {Z : State} {a0 : Array Value} (hw : ∀ d ∈ tables_1, d.before a0 Z = true) := hw _ (List.mem_of_getElem? (i := 162) rfl)
def w163 {Z : State} {a0 : Array Value} (hw : ∀ d ∈ tables_1, d.before a0 Z = true) := hw _ (List.mem_of_getElem? (i := 163) rfl)
def w164 {Z : State} {a0 : Array Value} (hw : ∀ d ∈ tables_1, d.before a0 Z = true) := hw _ (List.mem_of_getElem? (i := 164) rfl)
def w165 {Z : State} {a0 : Array Value} (hw : ∀ d ∈ tables_1, d.before a0 Z = true) := hw _ (List.mem_of_getElem? (i := 165) rfl)
def w166 {Z : State} {a0 : Array Value} (hw : ∀ d ∈ tables_1, d.before a0 Z = true) := hw _ (List.mem_of_getElem? (i := 166) rfl)
def w167 {Z : State} {a0 : Array Value} (hw : ∀ d ∈ tables_1, d.before a0 Z = true) := hw _ (List.mem_of_getElem? (i := 167) rfl)
def w168 {Z : State} {a0 : Array Value} (hw : ∀ d ∈ tables_1, d.before a0 Z = true) := hw _ (List.mem_of_getElem? (i := 168) rfl)
def w169 {Z : State} {a0 : Array Value} (hw : ∀ d ∈ tables_1, d.before a0 Z = true) := hw _ (List.mem_of_getElem? (i := 169) rfl)
def w170 {Z : State} {a0 : Array Value} (hw : ∀ d ∈ tables_1, d.before a0 Z = true) := hw _ (List.mem_of_getElem? (i := 170) rfl)
def w171 {Z : State} {a0 : Array Value} (hw : ∀ d ∈ tables_1, d.before a0 Z = true) := hw _ (List.mem_of_getElem? (i := 171) rfl)
def w172 {Z : State} {a0 : Array Value} (hw : ∀ d ∈ tables_1, d.before a0 Z = true) := hw _ (List.mem_of_getElem? (i := 172) rfl)
def w173 {Z : State} {a0 : Array Value} (hw : ∀ d ∈ tables_1, d.before a0 Z = true) := hw _ (List.mem_of_getElem? (i := 173) rfl)
def w174 {Z : State} {a0 : Array Value} (hw : ∀ d ∈ tables_1, d.before a0 Z = true) := hw _ (List.mem_of_getElem? (i := 174) rfl)
def w175 {Z : State} {a0 : Array Value} (hw : ∀ d ∈ tables_1, d.before a0 Z = true) := hw _ (List.mem_of_getElem? (i := 175) rfl)
def w176 {Z : State} {a0 : Array Value} (hw : ∀ d ∈ tables_1, d.before a0 Z = true) := hw _ (List.mem_of_getElem? (i := 176) rfl)
def w177 {Z : State} {a0 : Array Value} (hw : ∀ d ∈ tables_1, d.before a0 Z = true) := hw _ (List.mem_of_getElem? (i := 177) rfl)
def w178 {Z : State} {a0 : Array Value} (hw : ∀ d ∈ tables_1, d.before a0 Z = true) := hw _ (List.mem_of_getElem? (i := 178) rfl)
def w179 {Z : State} {a0 : Array Value} (hw : ∀ d ∈ tables_1, d.before a0 Z = true) := hw _ (List.mem_of_getElem? (i := 179) rfl)
def w181 {Z : State} {a0 : Array Value} (hw : ∀ d ∈ tables_1, d.before a0 Z = true) := hw _ (List.mem_of_getElem? (i := 181) rfl)
def w182 {Z : State} {a0 : Array Value} (hw : ∀ d ∈ tables_1, d.before a0 Z = true) := hw _ (List.mem_of_getElem? (i := 182) rfl)
def w183 {Z : State} {a0 : Array Value} (hw : ∀ d ∈ tables_1, d.before a0 Z = true) := hw _ (List.mem_of_getElem? (i := 183) rfl)
def w184 {Z : State} {a0 : Array Value} (hw : ∀ d ∈ tables_1, d.before a0 Z = true) := hw _ (List.mem_of_getElem? (i := 184) rfl)
def w186 {Z : State} {a0 : Array Value} (hw : ∀ d ∈ tables_1, d.before a0 Z = true) := hw _ (List.mem_of_getElem? (i := 186) rfl)
def w187 {Z : State} {a0 : Array Value} (hw : ∀ d ∈ tables_1, d.before a0 Z = true) := hw _ (List.mem_of_getElem? (i := 187) rfl)
def w188 {Z : State} {a0 : Array Value} (hw : ∀ d ∈ tables_1, d.before a0 Z = true) := hw _ (List.mem_of_getElem? (i := 188) rfl)
def w189 {Z : State} {a0 : Array Value} (hw : ∀ d ∈ tables_1, d.before a0 Z = true) := hw _ (List.mem_of_getElem? (i := 189) rfl)
def w190 {Z : State} {a0 : Array Value} (hw : ∀ d ∈ tables_1, d.before a0 Z = true) := hw _ (List.mem_of_getElem? (i := 190) rfl)
def w191 {Z : State} {a0 : Array Value} (hw : ∀ d ∈ tables_1, d.before a0 Z = true) := hw _ (List.mem_of_getElem? (i := 191) rfl)
def w192 {Z : State} {a0 : Array Value} (hw : ∀ d ∈ tables_1, d.before a0 Z = true) := hw _ (List.mem_of_getElem? (i := 192) rfl)
def w193 {Z : State} {a0 : Array Value} (hw : ∀ d ∈ tables_1, d.before a0 Z = true) := hw _ (List.mem_of_getElem? (i := 193) rfl)
def w194 {Z : State} {a0 : Array Value} (hw : ∀ d ∈ tables_1, d.before a0 Z = true) := hw _ (List.mem_of_getElem? (i := 194) rfl)
def w195 {Z : State} {a0 : Array Value} (hw : ∀ d ∈ tables_1, d.before a0 Z = true) := hw _ (List.mem_of_getElem? (i := 195) rfl)
def w196 {Z : State} {a0 : Array Value} (hw : ∀ d ∈ tables_1, d.before a0 Z = true) := hw _ (List.mem_of_getElem? (i := 196) rfl)
def w197 {Z : State} {a0 : Array Value} (hw : ∀ d ∈ tables_1, d.before a0 Z = true) := hw _ (List.mem_of_getElem? (i := 197) rfl)
def w198 {Z : State} {a0 : Array Value} (hw : ∀ d ∈ tables_1, d.before a0 Z = true) := hw _ (List.mem_of_getElem? (i := 198) rfl)
def w199 {Z : State} {a0 : Array Value} (hw : ∀ d ∈ tables_1, d.before a0 Z = true) := hw _ (List.mem_of_getElem? (i := 199) rfl)
def w201 {Z : State} {a0 : Array Value} (hw : ∀ d ∈ tables_1, d.before a0 Z = true) := hw _ (List.mem_of_getElem? (i := 201) rfl)
def w202 {Z : State} {a0 : Array Value} (hw : ∀ d ∈ tables_1, d.before a0 Z = true) := hw _ (List.mem_of_getElem? (i := 202) rfl)
def w203 {Z : State} {a0 : Array Value} (hw : ∀ d ∈ tables_1, d.before a0 Z = true) := hw _ (List.mem_of_getElem? (i := 203) rfl)
def w204 {Z : State} {a0 : Array Value} (hw : ∀ d ∈ tables_1, d.before a0 Z = true) := hw _ (List.mem_of_getElem? (i := 204) rfl)
def w205 {Z : State} {a0 : Array Value} (hw : ∀ d ∈ tables_1, d.before a0 Z = true) := hw _ (List.mem_of_getElem? (i := 205) rfl)
def w206 {Z : State} {a0 : Array Value} (hw : ∀ d ∈ tables_1, d.before a0 Z = true) := hw _ (List.mem_of_getElem? (i := 206) rfl)
def w207 {Z : State} {a0 : Array Value} (hw : ∀ d ∈ tables_1, d.before a0 Z = true) := hw _ (List.mem_of_getElem? (i := 207) rfl)
def w208 {Z : State} {a0 : Array Value} (hw : ∀ d ∈ tables_1, d.before a0 Z = true) := hw _ (List.mem_of_getElem? (i := 208) rfl)
def w209 {Z : State} {a0 : Array Value} (hw : ∀ d ∈ tables_1, d.before a0 Z = true) := hw _ (List.mem_of_getElem? (i := 209) rfl)
def w210 {Z : State} {a0 : Array Value} (hw : ∀ d ∈ tables_1, d.before a0 Z = true) := hw _ (List.mem_of_getElem? (i := 210) rfl)
def w211 {Z : State} {a0 : Array Value} (hw : ∀ d ∈ tables_1, d.before a0 Z = true) := hw _ (List.mem_of_getElem? (i := 211) rfl)
def w212 {Z : State} {a0 : Array Value} (hw : ∀ d ∈ tables_1, d.before a0 Z = true) := hw _ (List.mem_of_getElem? (i := 212) rfl)
def w213 {Z : State} {a0 : Array Value} (hw : ∀ d ∈ tables_1, d.before a0 Z = true) := hw _ (List.mem_of_getElem? (i := 213) rfl)
def w214 {Z : State} {a0 : Array Value} (hw : ∀ d ∈ tables_1, d.before a0 Z = true) := hw _ (List.mem_of_getElem? (i := 214) rfl)
def w215 {Z : State} {a0 : Array Value} (hw : ∀ d ∈ tables_1, d.before a0 Z = true) := hw _ (List.mem_of_getElem? (i := 215) rfl)
def w216 {Z : State} {a0 : Array Value} (hw : ∀ d ∈ tables_1, d.before a0 Z = true) := hw _ (List.mem_of_getElem? (i := 216) rfl)
def w217 {Z : State} {a0 : Array Value} (hw : ∀ d ∈ tables_1, d.before a0 Z = true) := hw _ (List.mem_of_getElem? (i := 217) rfl)
def w218 {Z : State} {a0 : Array Value} (hw : ∀ d ∈ tables_1, d.before a0 Z = true) := hw _ (List.mem_of_getElem? (i := 218) rfl)
def w219 {Z : State} {a0 : Array Value} (hw : ∀ d ∈ tables_1, d.before a0 Z = true) := hw _ (List.mem_of_getElem? (i := 219) rfl)
def w220 {Z : State} {a0 : Array Value} (hw : ∀ d ∈ tables_1, d.before a0 Z = true) := hw _ (List.mem_of_getElem? (i := 220) rfl)
def w221 {Z : State} {a0 : Array Value} (hw : ∀ d ∈ tables_1, d.before a0 Z = true) := hw _ (List.mem_of_getElem? (i := 221) rfl)
def w222 {Z : State} {a0 : Array Value} (hw : ∀ d ∈ tables_1, d.before a0 Z = true) := hw _ (List.mem_of_getElem? (i := 222) rfl)
def w223 {Z : State} {a0 : Array Value} (hw : ∀ d ∈ tables_1, d.before a0 Z = true) := hw _ (List.mem_of_getElem? (i := 223) rfl)
def w224 {Z : State} {a0 : Array Value} (hw : ∀ d ∈ tables_1, d.before a0 Z = true) := hw _ (List.mem_of_getElem? (i := 224) rfl)
def w225 {Z : State} {a0 : Array Value} (hw : ∀ d ∈ tables_1, d.before a0 Z = true) := hw _ (List.mem_of_getElem? (i := 225) rfl)
def w226 {Z : State} {a0 : Array Value} (hw : ∀ d ∈ tables_1, d.before a0 Z = true) := hw _ (List.mem_of_getElem? (i := 226) rfl)
def w227 {Z : State} {a0 : Array Value} (hw : ∀ d ∈ tables_1, d.before a0 Z = true) := hw _ (List.mem_of_getElem? (i := 227) rfl)
def w228 {Z : State} {a0 : Array Value} (hw : ∀ d ∈ tables_1, d.before a0 Z = true) := hw _ (List.mem_of_getElem? (i := 228) rfl)
def w229 {Z : State} {a0 : Array Value} (hw : ∀ d ∈ tables_1, d.before a0 Z = true) := hw _ (List.mem_of_getElem? (i := 229) rfl)
def w230 {Z : State} {a0 : Array Value} (hw : ∀ d ∈ tables_1, d.before a0 Z = true) := hw _ (List.mem_of_getElem? (i := 230) rfl)
def w231 {Z : State} {a0 : Array Value} (hw : ∀ d ∈ tables_1, d.before a0 Z = true) := hw _ (List.mem_of_getElem? (i := 231) rfl)
def w232 {Z : State} {a0 : Array Value} (hw : ∀ d ∈ tables_1, d.before a0 Z = true) := hw _ (List.mem_of_getElem? (i := 232) rfl)
def w233 {Z : State} {a0 : Array Value} (hw : ∀ d ∈ tables_1, d.before a0 Z = true) := hw _ (List.mem_of_getElem? (i := 233) rfl)
def w234 {Z : State} {a0 : Array Value} (hw : ∀ d ∈ tables_1, d.before a0 Z = true) := hw _ (List.mem_of_getElem? (i := 234) rfl)
def w235 {Z : State} {a0 : Array Value} (hw : ∀ d ∈ tables_1, d.before a0 Z = true) := hw _ (List.mem_of_getElem? (i := 235) rfl)
def w236 {Z : State} {a0 : Array Value} (hw : ∀ d ∈ tables_1, d.before a0 Z = true) := hw _ (List.mem_of_getElem? (i := 236) rfl)
def w237 {Z : State} {a0 : Array Value} (hw : ∀ d ∈ tables_1, d.before a0 Z = true) := hw _ (List.mem_of_getElem? (i := 237) rfl)
def w238 {Z : State} {a0 : Array Value} (hw : ∀ d ∈ tables_1, d.before a0 Z = true) := hw _ (List.mem_of_getElem? (i := 238) rfl)
def w239 {Z : State} {a0 : Array Value} (hw : ∀ d ∈ tables_1, d.before a0 Z = true) := hw _ (List.mem_of_getElem? (i := 239) rfl)
def w240 {Z : State} {a0 : Array Value} (hw : ∀ d ∈ tables_1, d.before a0 Z = true) := hw _ (List.mem_of_getElem? (i := 240) rfl)
def w241 {Z : State} {a0 : Array Value} (hw : ∀ d ∈ tables_1, d.before a0 Z = true) := hw _ (List.mem_of_getElem? (i := 241) rfl)
def w242 {Z : State} {a0 : Array Value} (hw : ∀ d ∈ tables_1, d.before a0 Z = true) := hw _ (List.mem_of_getElem? (i := 242) rfl)
def w243 {Z : State} {a0 : Array Value} (hw : ∀ d ∈ tables_1, d.before a0 Z = true) := hw _ (List.mem_of_getElem? (i := 243) rfl)
def w244 {Z : State} {a0 : Array Value} (hw : ∀ d ∈ tables_1, d.before a0 Z = true) := hw _ (List.mem_of_getElem? (i := 244) rfl)
def w245 {Z : State} {a0 : Array Value} (hw : ∀ d ∈ tables_1, d.before a0 Z = true) := hw _ (List.mem_of_getElem? (i := 245) rfl)
def w246 {Z : State} {a0 : Array Value} (hw : ∀ d ∈ tables_1, d.before a0 Z = true) := hw _ (List.mem_of_getElem? (i := 246) rfl)
def w247 {Z : State} {a0 : Array Value} (hw : ∀ d ∈ tables_1, d.before a0 Z = true) := hw _ (List.mem_of_getElem? (i := 247) rfl)
def w248 {Z : State} {a0 : Array Value} (hw : ∀ d ∈ tables_1, d.before a0 Z = true) := hw _ (List.mem_of_getElem? (i := 248) rfl)
def w249 {Z : State} {a0 : Array Value} (hw : ∀ d ∈ tables_1, d.before a0 Z = true) := hw _ (List.mem_of_getElem? (i := 249) rfl)
def w250 {Z : State} {a0 : Array Value} (hw : ∀ d ∈ tables_1, d.before a0 Z = true) := hw _ (List.mem_of_getElem? (i := 250) rfl)
def w251 {Z : State} {a0 : Array Value} (hw : ∀ d ∈ tables_1, d.before a0 Z = true) := hw _ (List.mem_of_getElem? (i := 251) rfl)
def w252 {Z : State} {a0 : Array Value} (hw : ∀ d ∈ tables_1, d.before a0 Z = true) := hw _ (List.mem_of_getElem? (i := 252) rfl)
def w253 {Z : State} {a0 : Array Value} (hw : ∀ d ∈ tables_1, d.before a0 Z = true) := hw _ (List.mem_of_getElem? (i := 253) rfl)
def w254 {Z : State} {a0 : Array Value} (hw : ∀ d ∈ tables_1, d.before a0 Z = true) := hw _ (List.mem_of_getElem? (i := 254) rfl)
def w255 {Z : State} {a0 : Array Value} (hw : ∀ d ∈ tables_1, d.before a0 Z = true) := hw _ (List.mem_of_getElem? (i := 255) rfl)
def w256 {Z : State} {a0 : Array Value} (hw : ∀ d ∈ tables_1, d.before a0 Z = true) := hw _ (List.mem_of_getElem? (i := 256) rfl)
def w257 {Z : State} {a0 : Array Value} (hw : ∀ d ∈ tables_1, d.before a0 Z = true) := hw _ (List.mem_of_getElem? (i := 257) rfl)
def w258 {Z : State} {a0 : Array Value} (hw : ∀ d ∈ tables_1, d.before a0 Z = true) := hw _ (List.mem_of_getElem? (i := 258) rfl)
def w260 {Z : State} {a0 : Array Value} (hw : ∀ d ∈ tables_1, d.before a0 Z = true) := hw _ (List.mem_of_getElem? (i := 260) rfl)
def w261 {Z : State} {a0 : Array Value} (hw : ∀ d ∈ tables_1, d.before a0 Z = true) := hw _ (List.mem_of_getElem? (i := 261) rfl)
def w262 {Z : State} {a0 : Array Value} (hw : ∀ d ∈ tables_1, d.before a0 Z = true) := hw _ (List.mem_of_getElem? (i := 262) rfl)
def w263 {Z : State} {a0 : Array Value} (hw : ∀ d ∈ tables_1, d.before a0 Z = true) := hw _ (List.mem_of_getElem? (i := 263) rfl)
def w264 {Z : State} {a0 : Array Value} (hw : ∀ d ∈ tables_1, d.before a0 Z = true) := hw _ (List.mem_of_getElem? (i := 264) rfl)
def w265 {Z : State} {a0 : Array Value} (hw : ∀ d ∈ tables_1, d.before a0 Z = true) := hw _ (List.mem_of_getElem? (i := 265) rfl)
def w266 {Z : State} {a0 : Array Value} (hw : ∀ d ∈ tables_1, d.before a0 Z = true) := hw _ (List.mem_of_getElem? (i := 266) rfl)
def w267 {Z : State} {a0 : Array Value} (hw : ∀ d ∈ tables_1, d.before a0 Z = true) := hw _ (List.mem_of_getElem? (i := 267) rfl)
def w268 {Z : State} {a0 : Array Value} (hw : ∀ d ∈ tables_1, d.before a0 Z = true) := hw _ (List.mem_of_getElem? (i := 268) rfl)
def w269 {Z : State} {a0 : Array Value} (hw : ∀ d ∈ tables_1, d.before a0 Z = true) := hw _ (List.mem_of_getElem? (i := 269) rfl)
def w270 {Z : State} {a0 : Array Value} (hw : ∀ d ∈ tables_1, d.before a0 Z = true) := hw _ (List.mem_of_getElem? (i := 270) rfl)
def w271 {Z : State} {a0 : Array Value} (hw : ∀ d ∈ tables_1, d.before a0 Z = true) := hw _ (List.mem_of_getElem? (i := 271) rfl)
def w272 {Z : State} {a0 : Array Value} (hw : ∀ d ∈ tables_1, d.before a0 Z = true) := hw _ (List.mem_of_getElem? (i := 272) rfl)
def w273 {Z : State} {a0 : Array Value} (hw : ∀ d ∈ tables_1, d.before a0 Z = true) := hw _ (List.mem_of_getElem? (i := 273) rfl)
def w274 {Z : State} {a0 : Array Value} (hw : ∀ d ∈ tables_1, d.before a0 Z = true) := hw _ (List.mem_of_getElem? (i := 274) rfl)
def w275 {Z : State} {a0 : Array Value} (hw : ∀ d ∈ tables_1, d.before a0 Z = true) := hw _ (List.mem_of_getElem? (i := 275) rfl)
def w276 {Z : State} {a0 : Array Value} (hw : ∀ d ∈ tables_1, d.before a0 Z = true) := hw _ (List.mem_of_getElem? (i := 276) rfl)
def w277 {Z : State} {a0 : Array Value} (hw : ∀ d ∈ tables_1, d.before a0 Z = true) := hw _ (List.mem_of_getElem? (i := 277) rfl)
def w278 {Z : State} {a0 : Array Value} (hw : ∀ d ∈ tables_1, d.before a0 Z = true) := hw _ (List.mem_of_getElem? (i := 278) rfl)
def w279 {Z : State} {a0 : Array Value} (hw : ∀ d ∈ tables_1, d.before a0 Z = true) := hw _ (List.mem_of_getElem? (i := 279) rfl)
def w280 {Z : State} {a0 : Array Value} (hw : ∀ d ∈ tables_1, d.before a0 Z = true) := hw _ (List.mem_of_getElem? (i := 280) rfl)
def w281 {Z : State} {a0 : Array Value} (hw : ∀ d ∈ tables_1, d.before a0 Z = true) := hw _ (List.mem_of_getElem? (i := 281) rfl)
def w282 {Z : State} {a0 : Array Value} (hw : ∀ d ∈ tables_1, d.before a0 Z = true) := hw _ (List.mem_of_getElem? (i := 282) rfl)
def w283 {Z : State} {a0 : Array Value} (hw : ∀ d ∈ tables_1, d.before a0 Z = true) := hw _ (List.mem_of_getElem? (i := 283) rfl)
def w284 {Z : State} {a0 : Array Value} (hw : ∀ d ∈ tables_1, d.before a0 Z = true) := hw _ (List.mem_of_getElem? (i := 284) rfl)
def w285 {Z : State} {a0 : Array Value} (hw : ∀ d ∈ tables_1, d.before a0 Z = true) := hw _ (List.mem_of_getElem? (i := 285) rfl)
theorem two_of {α : Type} {l : List α} (h : 2 ≤ l.length) : ∃ r0 r1 rr, l = r0 :: r1 :: rr := by
  match l, h with
  | r0 :: r1 :: rr, _ => exact ⟨r0, r1, rr, rfl⟩
theorem one_of {α : Type} {l : List α} (h : 1 ≤ l.length) : ∃ r0 rr, l = r0 :: rr := by
  match l, h with
  | r0 :: rr, _ => exact ⟨r0, rr, rfl⟩
set_option maxRecDepth 65536 in
set_option maxHeartbeats 4000000 in
theorem c_coder (l : Launch) (Z : State) (n0 : Nat) (a0 : Array Value) (hw : ∀ d ∈ tables_1, d.before a0 Z = true) (x : Nat) (co : Int32) {cz : Int32} (SC : Sta Z Z.heap "java/lang/String" "COMPACT_STRINGS" "Z" (.int cz)) (hcz : cz.toInt ≠ 0) (h : Heap) (Ls : Lits) (hO : Old Z n0 h) (Fc : Fld Z h x "java/lang/String" "coder" "B" (.int co)) (hco : narrow .byte (.int co) = .int co) :
    Con l Z n0 (⟨"java/lang/String", "coder", "()B"⟩ : MethodName) jdk_42_method_152_code 1 (some .byte) ({ frames := 0, cells := 0, slots := 0, locals := 0 } : Room) [.ref x] h Ls [] (RV fun v h' Ls' => v = .int co ∧ h = h' ∧ Ls = Ls') := by
  refine Con.of_run (plainFor_of_name pn0) hO ?_
  intro p e s m below meth c F hs
  refine ⟨[.val (.ref x)], by first | rfl | (simp [entryFrame, mkF, argsToLocals, Value.category]; done) | (rcases ref_cases hv with rfl | ⟨va, rfl⟩ <;> rfl), ?_⟩
  refine Run.getstatic F (w44 hw) Via.refl SC d7_0 ?_
  refine Run.if_eq F d7_3 (t := 13) rfl rfl (fun q => absurd q hcz) (fun _ => ?_)
  refine Run.aloadN F d7_6 rfl rfl ?_
  refine Run.getfield F (host := "") (Or.inl (w26 hw)) Via.refl Fc d7_7 ?_
  refine Run.goto F d7_10 (t := 14) rfl ?_
  exact Run.ireturn F (by simp) hco (by decide) (by decide) d7_14 ⟨rfl, rfl, rfl⟩
set_option maxRecDepth 65536 in
set_option maxHeartbeats 4000000 in
theorem c_length (l : Launch) (Z : State) (n0 : Nat) (a0 : Array Value) (hw : ∀ d ∈ tables_1, d.before a0 Z = true) (x b : Nat) (co ln : Int32) (vs : List Value) {cz : Int32} (SC : Sta Z Z.heap "java/lang/String" "COMPACT_STRINGS" "Z" (.int cz)) (hcz : cz.toInt ≠ 0) (h : Heap) (Ls : Lits) (hO : Old Z n0 h) (S : Str Z h x b co vs) (hco : narrow .byte (.int co) = .int co) (hln : Int32.ofNat vs.length >>> (co &&& 31) = ln) :
    Con l Z n0 (⟨"java/lang/String", "length", "()I"⟩ : MethodName) jdk_42_method_54_code 1 (some .int) ({ frames := 1, cells := 0, slots := 0, locals := 13 } : Room) [.ref x] h Ls [] (RV fun v h' Ls' => v = .int ln ∧ h = h' ∧ Ls = Ls') := by
  refine Con.of_run (plainFor_of_name pn0) hO ?_
  intro p e s m below meth c F hs
  refine ⟨[.val (.ref x)], by first | rfl | (simp [entryFrame, mkF, argsToLocals, Value.category]; done) | (rcases ref_cases hv with rfl | ⟨va, rfl⟩ <;> rfl), ?_⟩
  subst hln
  refine Run.aloadN F d6_0 rfl rfl ?_
  refine Run.getfield F (host := "") (Or.inl (w25 hw)) Via.refl S.2.2.1 d6_1 ?_
  refine Run.arrlen F S.2.2.2 d6_4 ?_
  refine Run.aloadN F d6_5 rfl rfl ?_
  refine Run.callVirtual F (w39 hw) (w40 hw) (fun U hU => notFace_of_selects (args := #[]) (mvT hU (w42 hw))) (w42 hw) (w41 hw) (w7 hw) (w43 hw) S.1 (c_coder l Z n0 a0 hw x co SC hcz h Ls hO S.2.1 hco) rfl pd0 rfl rfl rfl rfl (by decide) (by decide) rfl d6_6 ?_
  rintro _ _ _ ⟨_, rfl, rfl, rfl, rfl⟩ _ _
  refine Run.ishr F d6_9 ?_
  exact Run.ireturn F (by simp) rfl (by decide) (by decide) d6_10 ⟨rfl, rfl, rfl⟩
set_option maxRecDepth 65536 in
set_option maxHeartbeats 4000000 in
theorem c_isLatin1 (l : Launch) (Z : State) (n0 : Nat) (a0 : Array Value) (hw : ∀ d ∈ tables_1, d.before a0 Z = true) (x : Nat) (co : Int32) {cz : Int32} (SC : Sta Z Z.heap "java/lang/String" "COMPACT_STRINGS" "Z" (.int cz)) (hcz : cz.toInt ≠ 0) (h : Heap) (Ls : Lits) (hO : Old Z n0 h) (Fc : Fld Z h x "java/lang/String" "coder" "B" (.int co)) :
    Con l Z n0 (⟨"java/lang/String", "isLatin1", "()Z"⟩ : MethodName) jdk_42_method_154_code 1 (some .boolean) ({ frames := 0, cells := 0, slots := 0, locals := 0 } : Room) [.ref x] h Ls [] (RV fun v h' Ls' => v = .int (b2i (decide (co.toInt = 0))) ∧ h = h' ∧ Ls = Ls') := by
  refine Con.of_run (plainFor_of_name pn0) hO ?_
  intro p e s m below meth c F hs
  refine ⟨[.val (.ref x)], by first | rfl | (simp [entryFrame, mkF, argsToLocals, Value.category]; done) | (rcases ref_cases hv with rfl | ⟨va, rfl⟩ <;> rfl), ?_⟩
  refine Run.getstatic F (w44 hw) Via.refl SC d25_0 ?_
  refine Run.if_eq F d25_3 (t := 17) rfl rfl (fun q => absurd q hcz) (fun _ => ?_)
  refine Run.aloadN F d25_6 rfl rfl ?_
  refine Run.getfield F (host := "") (Or.inl (w26 hw)) Via.refl Fc d25_7 ?_
  refine Run.if_ne F d25_10 (t := 17) rfl rfl (fun q => ?_) (fun q => ?_)
  · refine Run.iconst F d25_17 (z := 0) rfl ?_
    exact Run.ireturn F (by simp) rfl (by decide) (by decide) d25_18 ⟨by simp [q, b2i], rfl, rfl⟩
  · refine Run.iconst F d25_13 (z := 1) rfl ?_
    refine Run.goto F d25_14 (t := 18) rfl ?_
    exact Run.ireturn F (by simp) rfl (by decide) (by decide) d25_18 ⟨by simp [q, b2i], rfl, rfl⟩
set_option maxRecDepth 65536 in
set_option maxHeartbeats 4000000 in
theorem c_pcheck (l : Launch) (Z : State) (n0 : Nat) (a0 : Array Value) (hw : ∀ d ∈ tables_1, d.before a0 Z = true) (i j : Int32) (v : Value) (h : Heap) (Ls : Lits) (hO : Old Z n0 h) (hv : v.isRef = true) (h0 : 0 ≤ i.toInt) (h1 : i.toInt < j.toInt) :
    Con l Z n0 (⟨"jdk/internal/util/Preconditions", "checkIndex", "(IILjava/util/function/BiFunction;)I"⟩ : MethodName) jdk_41_method_11_code 3 (some .int) ({ frames := 0, cells := 0, slots := 0, locals := 0 } : Room) [.int i, .int j, v] h Ls [] (RV fun w h' Ls' => w = .int i ∧ h = h' ∧ Ls = Ls') := by
  refine Con.of_run (plainFor_of_name pn1) hO ?_
  intro p e s m below meth c F hs
  refine ⟨[.val (.int i), .val (.int j), .val v], by first | rfl | (simp [entryFrame, mkF, argsToLocals, Value.category]; done) | (rcases ref_cases hv with rfl | ⟨va, rfl⟩ <;> rfl), ?_⟩
  refine Run.iloadN F d28_0 rfl ?_
  refine Run.if_lt F d28_1 (t := 9) rfl rfl (fun q => by omega) (fun _ => ?_)
  refine Run.iloadN F d28_4 rfl ?_
  refine Run.iloadN F d28_5 rfl ?_
  refine Run.icmp_lt F d28_6 (t := 16) rfl rfl rfl (fun _ => ?_) (fun q => by omega)
  refine Run.iloadN F d28_16 rfl ?_
  exact Run.ireturn F (by simp) rfl (by decide) (by decide) d28_17 ⟨rfl, rfl, rfl⟩
set_option maxRecDepth 65536 in
set_option maxHeartbeats 4000000 in
theorem c_checkIndex (l : Launch) (Z : State) (n0 : Nat) (a0 : Array Value) (hw : ∀ d ∈ tables_1, d.before a0 Z = true) (i j : Int32) {sf : Value} (SF : Sta Z Z.heap "jdk/internal/util/Preconditions" "SIOOBE_FORMATTER" "Ljava/util/function/BiFunction;" sf) (hsf : sf.isRef = true) (h : Heap) (Ls : Lits) (hO : Old Z n0 h) (h0 : 0 ≤ i.toInt) (h1 : i.toInt < j.toInt) :
    Con l Z n0 (⟨"java/lang/String", "checkIndex", "(II)V"⟩ : MethodName) jdk_42_method_155_code 2 none ({ frames := 1, cells := 0, slots := 0, locals := 14 } : Room) [.int i, .int j] h Ls [] (RN fun h' Ls' => h = h' ∧ Ls = Ls') := by
  refine Con.of_run (plainFor_of_name pn0) hO ?_
  intro p e s m below meth c F hs
  refine ⟨[.val (.int i), .val (.int j)], by first | rfl | (simp [entryFrame, mkF, argsToLocals, Value.category]; done) | (rcases ref_cases hv with rfl | ⟨va, rfl⟩ <;> rfl), ?_⟩
  refine Run.iloadN F d27_0 rfl ?_
  refine Run.iloadN F d27_1 rfl ?_
  refine Run.getstatic F (w144 hw) Via.refl SF d27_2 ?_
  refine Run.callStatic F (w146 hw) (w147 hw) (w145 hw) (w148 hw) (c_pcheck l Z n0 a0 hw i j sf h Ls hO hsf h0 h1) rfl pd1 rfl rfl rfl rfl (by decide) (by decide) rfl d27_5 ?_
  rintro _ _ _ ⟨_, rfl, rfl, rfl, rfl⟩ _ _
  refine Run.pop F d27_8 rfl ?_
  exact Run.return_ F (by decide) (by decide) d27_9 ⟨rfl, rfl⟩
set_option maxRecDepth 65536 in
set_option maxHeartbeats 4000000 in
theorem c_l1charAt (l : Launch) (Z : State) (n0 : Nat) (a0 : Array Value) (hw : ∀ d ∈ tables_1, d.before a0 Z = true) (b : Nat) (i w : Int32) (j : Nat) (vs : List Value) {sf : Value} (SF : Sta Z Z.heap "jdk/internal/util/Preconditions" "SIOOBE_FORMATTER" "Ljava/util/function/BiFunction;" sf) (hsf : sf.isRef = true) (h : Heap) (Ls : Lits) (hO : Old Z n0 h) (A : Av Z h b .byte vs) (hi : i.toInt = j) (hv : vs[j]? = some (.int w)) :
    Con l Z n0 (⟨"java/lang/StringLatin1", "charAt", "([BI)C"⟩ : MethodName) jdk_43_method_2_code 2 (some .char) ({ frames := 2, cells := 0, slots := 0, locals := 27 } : Room) [.ref b, .int i] h Ls [] (RV fun v h' Ls' => v = .int (chr (w &&& 255)) ∧ h = h' ∧ Ls = Ls') := by
  refine Con.of_run (plainFor_of_name pn2) hO ?_
  intro p e s m below meth c F hs
  refine ⟨[.val (.ref b), .val (.int i)], by first | rfl | (simp [entryFrame, mkF, argsToLocals, Value.category]; done) | (rcases ref_cases hv with rfl | ⟨va, rfl⟩ <;> rfl), ?_⟩
  have hlen := A.len
  have hj := (List.getElem?_eq_some_iff.mp hv).1
  refine Run.iloadN F d26_0 rfl ?_
  refine Run.aloadN F d26_1 rfl rfl ?_
  refine Run.arrlen F A d26_2 ?_
  refine Run.callStatic F (w141 hw) (w142 hw) (w7 hw) (w143 hw) (c_checkIndex l Z n0 a0 hw i (Int32.ofNat vs.length) SF hsf h Ls hO (by omega) (by rw [i32_ti hlen]; omega)) rfl pd2 rfl rfl rfl rfl (by decide) (by decide) rfl d26_3 ?_
  rintro _ _ _ ⟨rfl, rfl, rfl⟩ _ _
  show Run _ _ _ _ _ _ _ _ _ _ _ _ _ _ _ _ _ _ _ _ []
  refine Run.aloadN F d26_6 rfl rfl ?_
  refine Run.iloadN F d26_7 rfl ?_
  refine Run.baload F A (i32_nneg (by omega)) (i32_nat hi) hv d26_8 ?_
  refine Run.sipush F d26_9 (z := 255) rfl ?_
  refine Run.iand F d26_12 ?_
  refine Run.i2c F d26_13 ?_
  exact Run.ireturn F (by simp) (narrow_chr _) (by decide) (by decide) d26_14 ⟨rfl, rfl, rfl⟩
set_option maxRecDepth 65536 in
set_option maxHeartbeats 4000000 in
theorem c_putChar (l : Launch) (Z : State) (n0 : Nat) (a0 : Array Value) (hw : ∀ d ∈ tables_1, d.before a0 Z = true) (u : Nat) (j : Nat) (ch : Int32) (vs : List Value) (UA : Sta Z Z.heap "java/lang/StringUTF16" "$assertionsDisabled" "Z" (.int 1)) (UH : Sta Z Z.heap "java/lang/StringUTF16" "HI_BYTE_SHIFT" "I" (.int 0)) (UL : Sta Z Z.heap "java/lang/StringUTF16" "LO_BYTE_SHIFT" "I" (.int 8)) (h : Heap) (Ls : Lits) (hO : Old Z n0 h) (A : Av Z h u .byte vs) (g : n0 ≤ u) (hj : 2 * j + 1 < vs.length) :
    Con l Z n0 (⟨"java/lang/StringUTF16", "putChar", "([BII)V"⟩ : MethodName) jdk_52_method_4_code 3 none ({ frames := 0, cells := 0, slots := 0, locals := 0 } : Room) [.ref u, .int (Int32.ofNat j), .int ch] h Ls [] (RN fun h' Ls' => Keep h h' [u] ∧ h'.size = h.size ∧ Av Z h' u .byte ((vs.set (2 * j) (hb0 ch)).set (2 * j + 1) (hb1 ch)) ∧ Ls = Ls') := by
  refine Con.of_run (plainFor_of_name pn3) hO ?_
  intro p e s m below meth c F hs
  refine ⟨[.val (.ref u), .val (.int (Int32.ofNat j)), .val (.int ch)], by first | rfl | (simp [entryFrame, mkF, argsToLocals, Value.category]; done) | (rcases ref_cases hv with rfl | ⟨va, rfl⟩ <;> rfl), ?_⟩
  have hlen := A.len
  refine Run.getstatic F (w240 hw) Via.refl UA d48_0 ?_
  refine Run.ifYes F d48_3 (t := 28) rfl rfl ?_
  refine Run.iloadN F d48_28 rfl ?_
  refine Run.iconst F d48_29 (z := 1) rfl ?_
  refine Run.ishl F d48_30 ?_
  rw [i32_dbl (by omega)]
  refine Run.istoreN F d48_31 rfl ?_
  dsimp only [List.set]
  refine Run.aloadN F d48_32 rfl rfl ?_
  refine Run.iloadN F d48_33 rfl ?_
  refine Run.iinc F d48_34 (z := 1) rfl rfl ?_
  dsimp only [List.set]
  refine Run.iloadN F d48_37 rfl ?_
  simp only [Jvm.Free.XT.succ32]
  refine Run.getstatic F (w241 hw) Via.refl UH d48_38 ?_
  refine Run.ishr F d48_41 ?_
  refine Run.i2b F d48_42 ?_
  refine Run.bastore F A g (i32_nn (by omega)) (i32_tn (by omega)) (by omega) (narB _) d48_43 ?_
  intro h1 W1 K1 s1 A1
  refine Run.aloadN F d48_44 rfl rfl ?_
  refine Run.iloadN F d48_45 rfl ?_
  refine Run.iloadN F d48_46 rfl ?_
  refine Run.getstatic F (w242 hw) Via.refl UL d48_47 ?_
  refine Run.ishr F d48_50 ?_
  refine Run.i2b F d48_51 ?_
  refine Run.bastore F A1 g (i32_nn (by omega)) (i32_tn (by omega)) (by simp; omega) (narB _) d48_52 ?_
  intro h2 W2 K2 s2 A2
  exact Run.return_ F (by decide) (by decide) d48_53 ⟨K1.trans K2 (allS (Or.inl (List.mem_singleton.mpr rfl)) all0), s2.trans s1, A2, rfl⟩
set_option maxRecDepth 65536 in
set_option maxHeartbeats 4000000 in
theorem c_getChar (l : Launch) (Z : State) (n0 : Nat) (a0 : Array Value) (hw : ∀ d ∈ tables_1, d.before a0 Z = true) (u : Nat) (j : Nat) (ch : Int32) (vs : List Value) (UA : Sta Z Z.heap "java/lang/StringUTF16" "$assertionsDisabled" "Z" (.int 1)) (UH : Sta Z Z.heap "java/lang/StringUTF16" "HI_BYTE_SHIFT" "I" (.int 0)) (UL : Sta Z Z.heap "java/lang/StringUTF16" "LO_BYTE_SHIFT" "I" (.int 8)) (h : Heap) (Ls : Lits) (hO : Old Z n0 h) (A : Av Z h u .byte vs) (h0 : vs[2 * j]? = some (hb0 ch)) (h1 : vs[2 * j + 1]? = some (hb1 ch)) (c0 : 0 ≤ ch.toInt) (c1 : ch.toInt < 65536) :
    Con l Z n0 (⟨"java/lang/StringUTF16", "getChar", "([BI)C"⟩ : MethodName) jdk_52_method_5_code 2 (some .char) ({ frames := 0, cells := 0, slots := 0, locals := 0 } : Room) [.ref u, .int (Int32.ofNat j)] h Ls [] (RV fun v h' Ls' => v = .int ch ∧ h = h' ∧ Ls = Ls') := by
  refine Con.of_run (plainFor_of_name pn3) hO ?_
  intro p e s m below meth c F hs
  refine ⟨[.val (.ref u), .val (.int (Int32.ofNat j))], by first | rfl | (simp [entryFrame, mkF, argsToLocals, Value.category]; done) | (rcases ref_cases hv with rfl | ⟨va, rfl⟩ <;> rfl), ?_⟩
  have hlen := A.len
  have hj := (List.getElem?_eq_some_iff.mp h1).1
  refine Run.getstatic F (w240 hw) Via.refl UA d49_0 ?_
  refine Run.ifYes F d49_3 (t := 28) rfl rfl ?_
  refine Run.iloadN F d49_28 rfl ?_
  refine Run.iconst F d49_29 (z := 1) rfl ?_
  refine Run.ishl F d49_30 ?_
  rw [i32_dbl (by omega)]
  refine Run.istoreN F d49_31 rfl ?_
  dsimp only [List.set]
  refine Run.aloadN F d49_32 rfl rfl ?_
  refine Run.iloadN F d49_33 rfl ?_
  refine Run.iinc F d49_34 (z := 1) rfl rfl ?_
  dsimp only [List.set]
  simp only [Jvm.Free.XT.succ32]
  refine Run.baload F A (i32_nn (by omega)) (i32_tn (by omega)) h0 d49_37 ?_
  refine Run.sipush F d49_38 (z := 255) rfl ?_
  refine Run.iand F d49_41 ?_
  refine Run.getstatic F (w241 hw) Via.refl UH d49_42 ?_
  refine Run.ishl F d49_45 ?_
  refine Run.aloadN F d49_46 rfl rfl ?_
  refine Run.iloadN F d49_47 rfl ?_
  refine Run.baload F A (i32_nn (by omega)) (i32_tn (by omega)) h1 d49_48 ?_
  refine Run.sipush F d49_49 (z := 255) rfl ?_
  refine Run.iand F d49_52 ?_
  refine Run.getstatic F (w242 hw) Via.refl UL d49_53 ?_
  refine Run.ishl F d49_56 ?_
  refine Run.ior F d49_57 ?_
  refine Run.i2c F d49_58 ?_
  rw [utf_rt c0 c1]
  exact Run.ireturn F (by simp) (narrow_char c0 c1) (by decide) (by decide) d49_59 ⟨rfl, rfl, rfl⟩
set_option maxRecDepth 65536 in
set_option maxHeartbeats 4000000 in
theorem c_nbLen (l : Launch) (Z : State) (n0 : Nat) (a0 : Array Value) (hw : ∀ d ∈ tables_1, d.before a0 Z = true) (n : Nat) (h : Heap) (Ls : Lits) (hO : Old Z n0 h) (hn : n ≤ 18) :
    Con l Z n0 (⟨"java/lang/StringUTF16", "newBytesLength", "(I)I"⟩ : MethodName) jdk_52_method_3_code 1 (some .int) ({ frames := 0, cells := 0, slots := 0, locals := 0 } : Room) [.int (Int32.ofNat n)] h Ls [] (RV fun v h' Ls' => v = .int (Int32.ofNat (2 * n)) ∧ h = h' ∧ Ls = Ls') := by
  refine Con.of_run (plainFor_of_name pn3) hO ?_
  intro p e s m below meth c F hs
  refine ⟨[.val (.int (Int32.ofNat n))], by first | rfl | (simp [entryFrame, mkF, argsToLocals, Value.category]; done) | (rcases ref_cases hv with rfl | ⟨va, rfl⟩ <;> rfl), ?_⟩
  have e : (Int32.ofNat n).toInt = n := i32_ti (by omega)
  refine Run.iloadN F d47_0 rfl ?_
  refine Run.if_ge F d47_1 (t := 12) rfl e (fun _ => ?_) (fun q => by omega)
  refine Run.iloadN F d47_12 rfl ?_
  refine Run.ldcInt F (w236 hw) d47_13 ?_
  refine Run.icmp_lt F d47_15 (t := 55) rfl e (yi := 1073741823) rfl (fun _ => ?_) (fun q => by omega)
  refine Run.iloadN F d47_55 rfl ?_
  refine Run.iconst F d47_56 (z := 1) rfl ?_
  refine Run.ishl F d47_57 ?_
  rw [i32_dbl (by omega)]
  exact Run.ireturn F (by simp) rfl (by decide) (by decide) d47_58 ⟨rfl, rfl, rfl⟩
set_option maxRecDepth 65536 in
set_option maxHeartbeats 4000000 in
theorem c_nbFor (l : Launch) (Z : State) (n0 : Nat) (a0 : Array Value) (hw : ∀ d ∈ tables_1, d.before a0 Z = true) (n : Nat) (h : Heap) (Ls : Lits) (hO : Old Z n0 h) (hn : n ≤ 18) :
    Con l Z n0 (⟨"java/lang/StringUTF16", "newBytesFor", "(I)[B"⟩ : MethodName) jdk_52_method_2_code 1 (some (.array .byte)) ({ frames := 1, cells := 1, slots := 36, locals := 12 } : Room) [.int (Int32.ofNat n)] h Ls [] (RV fun v h' Ls' => ∃ b : Nat, v = .ref b ∧ Keep h h' [] ∧ b = h.size ∧ Exa Z h' b "[B" ∧ Av Z h' b .byte (List.replicate (2 * n) (.int 0)) ∧ Ls = Ls') := by
  refine Con.of_run (plainFor_of_name pn3) hO ?_
  intro p e s m below meth c F hs
  refine ⟨[.val (.int (Int32.ofNat n))], by first | rfl | (simp [entryFrame, mkF, argsToLocals, Value.category]; done) | (rcases ref_cases hv with rfl | ⟨va, rfl⟩ <;> rfl), ?_⟩
  refine Run.iloadN F d46_0 rfl ?_
  refine Run.callStatic F (w233 hw) (w234 hw) (w113 hw) (w235 hw) (c_nbLen l Z n0 a0 hw n h Ls hO hn) rfl pd3 rfl rfl rfl rfl (by decide) (by decide) rfl d46_1 ?_
  rintro _ _ _ ⟨_, rfl, rfl, rfl, rfl⟩ _ _
  refine Run.newarrayE (aty := .byte) F (w20 hw) (ad := "[B") (by decide) (i32_nn (by omega)) (i32_tn (by omega)) 36 (by omega) rfl (by decide) (by decide) d46_4 ?_
  intro h1 b hb K1 lt1 A1 E1
  exact Run.areturn F rfl rfl (by decide) (by decide) d46_6 ⟨b, rfl, K1, hb, E1, A1, rfl⟩
set_option maxRecDepth 65536 in
set_option maxHeartbeats 4000000 in
theorem c_u16len (l : Launch) (Z : State) (n0 : Nat) (a0 : Array Value) (hw : ∀ d ∈ tables_1, d.before a0 Z = true) (b : Nat) (vs : List Value) (h : Heap) (Ls : Lits) (hO : Old Z n0 h) (A : Av Z h b .byte vs) :
    Con l Z n0 (⟨"java/lang/StringUTF16", "length", "([B)I"⟩ : MethodName) jdk_52_method_6_code 1 (some .int) ({ frames := 0, cells := 0, slots := 0, locals := 0 } : Room) [.ref b] h Ls [] (RV fun w h' Ls' => w = .int (Int32.ofNat (vs.length / 2)) ∧ h = h' ∧ Ls = Ls') := by
  refine Con.of_run (plainFor_of_name pn3) hO ?_
  intro p e s m below meth c F hs
  refine ⟨[.val (.ref b)], by first | rfl | (simp [entryFrame, mkF, argsToLocals, Value.category]; done) | (rcases ref_cases hv with rfl | ⟨va, rfl⟩ <;> rfl), ?_⟩
  have e := shr_b2i true A.len
  refine Run.aloadN F d52_0 rfl rfl ?_
  refine Run.arrlen F A d52_1 ?_
  refine Run.iconst F d52_2 (z := 1) rfl ?_
  refine Run.ishr F d52_3 ?_
  exact Run.ireturn F (by simp) rfl (by decide) (by decide) d52_4 ⟨congrArg Value.int e, rfl, rfl⟩
set_option maxRecDepth 65536 in
set_option maxHeartbeats 4000000 in
theorem c_u16ci (l : Launch) (Z : State) (n0 : Nat) (a0 : Array Value) (hw : ∀ d ∈ tables_1, d.before a0 Z = true) (b : Nat) (j : Nat) (vs : List Value) {sf : Value} (SF : Sta Z Z.heap "jdk/internal/util/Preconditions" "SIOOBE_FORMATTER" "Ljava/util/function/BiFunction;" sf) (hsf : sf.isRef = true) (h : Heap) (Ls : Lits) (hO : Old Z n0 h) (A : Av Z h b .byte vs) (hj : j < vs.length / 2) :
    Con l Z n0 (⟨"java/lang/StringUTF16", "checkIndex", "(I[B)V"⟩ : MethodName) jdk_52_method_91_code 2 none ({ frames := 2, cells := 0, slots := 0, locals := 27 } : Room) [.int (Int32.ofNat j), .ref b] h Ls [] (RN fun h' Ls' => h = h' ∧ Ls = Ls') := by
  refine Con.of_run (plainFor_of_name pn3) hO ?_
  intro p e s m below meth c F hs
  refine ⟨[.val (.int (Int32.ofNat j)), .val (.ref b)], by first | rfl | (simp [entryFrame, mkF, argsToLocals, Value.category]; done) | (rcases ref_cases hv with rfl | ⟨va, rfl⟩ <;> rfl), ?_⟩
  have hlen := A.len
  refine Run.iloadN F d51_0 rfl ?_
  refine Run.aloadN F d51_1 rfl rfl ?_
  refine Run.callStatic F (w252 hw) (w253 hw) (w113 hw) (w254 hw) (c_u16len l Z n0 a0 hw b vs h Ls hO A) rfl pd4 rfl rfl rfl rfl (by decide) (by decide) rfl d51_2 ?_
  rintro _ _ _ ⟨_, rfl, rfl, rfl, rfl⟩ _ _
  have e1 := i32_ti (i := j) (by omega)
  have e2 := i32_ti (i := vs.length / 2) (by omega)
  refine Run.callStatic F (w255 hw) (w142 hw) (w7 hw) (w143 hw) (c_checkIndex l Z n0 a0 hw (Int32.ofNat j) (Int32.ofNat (vs.length / 2)) SF hsf h Ls hO (by omega) (by omega)) rfl pd2 rfl rfl rfl rfl (by decide) (by decide) rfl d51_5 ?_
  rintro _ _ _ ⟨rfl, rfl, rfl⟩ _ _
  exact Run.return_ F (by decide) (by decide) d51_8 ⟨rfl, rfl⟩
set_option maxRecDepth 65536 in
set_option maxHeartbeats 4000000 in
theorem c_u16charAt (l : Launch) (Z : State) (n0 : Nat) (a0 : Array Value) (hw : ∀ d ∈ tables_1, d.before a0 Z = true) (b : Nat) (j : Nat) (cs : List Int32) (ch : Int32) {sf : Value} (SF : Sta Z Z.heap "jdk/internal/util/Preconditions" "SIOOBE_FORMATTER" "Ljava/util/function/BiFunction;" sf) (hsf : sf.isRef = true) (UA : Sta Z Z.heap "java/lang/StringUTF16" "$assertionsDisabled" "Z" (.int 1)) (UH : Sta Z Z.heap "java/lang/StringUTF16" "HI_BYTE_SHIFT" "I" (.int 0)) (UL : Sta Z Z.heap "java/lang/StringUTF16" "LO_BYTE_SHIFT" "I" (.int 8)) (h : Heap) (Ls : Lits) (hO : Old Z n0 h) (A : Av Z h b .byte (u16 cs)) (hj : cs[j]? = some ch) (c0 : 0 ≤ ch.toInt) (c1 : ch.toInt < 65536) :
    Con l Z n0 (⟨"java/lang/StringUTF16", "charAt", "([BI)C"⟩ : MethodName) jdk_52_method_83_code 2 (some .char) ({ frames := 3, cells := 0, slots := 0, locals := 40 } : Room) [.ref b, .int (Int32.ofNat j)] h Ls [] (RV fun w h' Ls' => w = .int ch ∧ h = h' ∧ Ls = Ls') := by
  refine Con.of_run (plainFor_of_name pn3) hO ?_
  intro p e s m below meth c F hs
  refine ⟨[.val (.ref b), .val (.int (Int32.ofNat j))], by first | rfl | (simp [entryFrame, mkF, argsToLocals, Value.category]; done) | (rcases ref_cases hv with rfl | ⟨va, rfl⟩ <;> rfl), ?_⟩
  have hlt := (List.getElem?_eq_some_iff.mp hj).1
  have hg := u16_get hj
  have hl2 := u16_len cs
  refine Run.iloadN F d50_0 rfl ?_
  refine Run.aloadN F d50_1 rfl rfl ?_
  refine Run.callStatic F (w249 hw) (w250 hw) (w113 hw) (w251 hw) (c_u16ci l Z n0 a0 hw b j (u16 cs) SF hsf h Ls hO A (by omega)) rfl pd5 rfl rfl rfl rfl (by decide) (by decide) rfl d50_2 ?_
  rintro _ _ _ ⟨rfl, rfl, rfl⟩ _ _
  show Run _ _ _ _ _ _ _ _ _ _ _ _ _ _ _ _ _ _ _ _ []
  refine Run.aloadN F d50_5 rfl rfl ?_
  refine Run.iloadN F d50_6 rfl ?_
  refine Run.callStatic F (w243 hw) (w244 hw) (w113 hw) (w245 hw) (c_getChar l Z n0 a0 hw b j ch (u16 cs) UA UH UL h Ls hO A hg.1 hg.2 c0 c1) rfl pd6 rfl rfl rfl rfl (by decide) (by decide) rfl d50_7 ?_
  rintro _ _ _ ⟨_, rfl, rfl, rfl, rfl⟩ _ _
  exact Run.ireturn F (by simp) (narrow_char c0 c1) (by decide) (by decide) d50_10 ⟨rfl, rfl, rfl⟩
set_option maxRecDepth 65536 in
set_option maxHeartbeats 4000000 in
theorem c_charAt (l : Launch) (Z : State) (n0 : Nat) (a0 : Array Value) (hw : ∀ d ∈ tables_1, d.before a0 Z = true) (x b : Nat) (cs : List Int32) (j : Nat) (ch : Int32) {cz : Int32} (SC : Sta Z Z.heap "java/lang/String" "COMPACT_STRINGS" "Z" (.int cz)) (hcz : cz.toInt ≠ 0) {sf : Value} (SF : Sta Z Z.heap "jdk/internal/util/Preconditions" "SIOOBE_FORMATTER" "Ljava/util/function/BiFunction;" sf) (hsf : sf.isRef = true) (UA : Sta Z Z.heap "java/lang/StringUTF16" "$assertionsDisabled" "Z" (.int 1)) (UH : Sta Z Z.heap "java/lang/StringUTF16" "HI_BYTE_SHIFT" "I" (.int 0)) (UL : Sta Z Z.heap "java/lang/StringUTF16" "LO_BYTE_SHIFT" "I" (.int 8)) (h : Heap) (Ls : Lits) (hO : Old Z n0 h) (S : Str Z h x b (coOf cs) (byOf cs)) (hj : cs[j]? = some ch) (hcs : ∀ c ∈ cs, 0 ≤ c.toInt ∧ c.toInt < 65536) (hlen : cs.length < 2 ^ 30) :
    Con l Z n0 (⟨"java/lang/String", "charAt", "(I)C"⟩ : MethodName) jdk_42_method_56_code 2 (some .char) ({ frames := 4, cells := 0, slots := 0, locals := 53 } : Room) [.ref x, .int (Int32.ofNat j)] h Ls [] (RV fun v h' Ls' => v = .int ch ∧ h = h' ∧ Ls = Ls') := by
  refine Con.of_run (plainFor_of_name pn0) hO ?_
  intro p e s m below meth c F hs
  refine ⟨[.val (.ref x), .val (.int (Int32.ofNat j))], by first | rfl | (simp [entryFrame, mkF, argsToLocals, Value.category]; done) | (rcases ref_cases hv with rfl | ⟨va, rfl⟩ <;> rfl), ?_⟩
  have hlt := (List.getElem?_eq_some_iff.mp hj).1
  have hc := hcs ch (List.mem_of_getElem? hj)
  have ej := i32_ti (i := j) (by omega)
  refine Run.aloadN F d24_0 rfl rfl ?_
  refine Run.callVirtual F (w132 hw) (w133 hw) (fun U hU => notFace_of_selects (args := #[]) (mvT hU (w135 hw))) (w135 hw) (w134 hw) (w7 hw) (w136 hw) S.1 (c_isLatin1 l Z n0 a0 hw x (coOf cs) SC hcz h Ls hO S.2.1) rfl pd7 rfl rfl rfl rfl (by decide) (by decide) rfl d24_1 ?_
  rintro _ _ _ ⟨_, rfl, rfl, rfl, rfl⟩ _ _
  cases hl : lat cs
  · have e1 : coOf cs = 1 := by rw [coOf, hl]; rfl
    have e2 : byOf cs = u16 cs := by rw [byOf, hl]; rfl
    rw [e1, e2] at S
    rw [e1]
    refine Run.ifB_eq F d24_4 (t := 16) rfl (fun _ => ?_) (fun q => absurd q (by decide))
    refine Run.aloadN F d24_16 rfl rfl ?_
    refine Run.getfield F (host := "") (Or.inl (w25 hw)) Via.refl S.2.2.1 d24_17 ?_
    refine Run.iloadN F d24_20 rfl ?_
    refine Run.callStatic F (w246 hw) (w247 hw) (w113 hw) (w248 hw) (c_u16charAt l Z n0 a0 hw b j cs ch SF hsf UA UH UL h Ls hO S.2.2.2 hj hc.1 hc.2) rfl pd6 rfl rfl rfl rfl (by decide) (by decide) rfl d24_21 ?_
    rintro _ _ _ ⟨_, rfl, rfl, rfl, rfl⟩ _ _
    exact Run.ireturn F (by simp) (narrow_char hc.1 hc.2) (by decide) (by decide) d24_24 ⟨rfl, rfl, rfl⟩
  · have e1 : coOf cs = 0 := by rw [coOf, hl]; rfl
    have e2 : byOf cs = cs.map lb := by rw [byOf, hl]; rfl
    have h8 : ch.toInt < 256 := by have := List.all_eq_true.mp hl ch (List.mem_of_getElem? hj); simpa using this
    rw [e1, e2] at S
    rw [e1]
    refine Run.ifB_eq F d24_4 (t := 16) rfl (fun q => absurd q (by decide)) (fun _ => ?_)
    refine Run.aloadN F d24_7 rfl rfl ?_
    refine Run.getfield F (host := "") (Or.inl (w25 hw)) Via.refl S.2.2.1 d24_8 ?_
    refine Run.iloadN F d24_11 rfl ?_
    refine Run.callStatic F (w137 hw) (w138 hw) (w139 hw) (w140 hw) (c_l1charAt l Z n0 a0 hw b (Int32.ofNat j) ch.toInt8.toInt32 j (cs.map lb) SF hsf h Ls hO S.2.2.2 ej (lb_get hj)) rfl pd6 rfl rfl rfl rfl (by decide) (by decide) rfl d24_12 ?_
    rintro _ _ _ ⟨_, rfl, rfl, rfl, rfl⟩ _ _
    rw [low8 hc.1 h8]
    exact Run.ireturn F (by simp) (narrow_char hc.1 hc.2) (by decide) (by decide) d24_15 ⟨rfl, rfl, rfl⟩
set_option maxRecDepth 65536 in
set_option maxHeartbeats 4000000 in
theorem c_asbLatin1 (l : Launch) (Z : State) (n0 : Nat) (a0 : Array Value) (hw : ∀ d ∈ tables_1, d.before a0 Z = true) (x : Nat) (u : Bool) {cz : Int32} (SC : Sta Z Z.heap "java/lang/String" "COMPACT_STRINGS" "Z" (.int cz)) (hcz : cz.toInt ≠ 0) (h : Heap) (Ls : Lits) (hO : Old Z n0 h) (Fc : Fld Z h x ASB "coder" "B" (.int (b2i u))) :
    Con l Z n0 (⟨"java/lang/AbstractStringBuilder", "isLatin1", "()Z"⟩ : MethodName) jdk_68_method_68_code 1 (some .boolean) ({ frames := 0, cells := 0, slots := 0, locals := 0 } : Room) [.ref x] h Ls [] (RV fun v h' Ls' => v = .int (b2i (!u)) ∧ h = h' ∧ Ls = Ls') := by
  refine Con.of_run (plainFor_of_name pn4) hO ?_
  intro p e s m below meth c F hs
  refine ⟨[.val (.ref x)], by first | rfl | (simp [entryFrame, mkF, argsToLocals, Value.category]; done) | (rcases ref_cases hv with rfl | ⟨va, rfl⟩ <;> rfl), ?_⟩
  refine Run.getstatic F (w55 hw) Via.refl SC d16_0 ?_
  refine Run.if_eq F d16_3 (t := 17) rfl rfl (fun q => absurd q hcz) (fun _ => ?_)
  refine Run.aloadN F d16_6 rfl rfl ?_
  refine Run.getfield F (host := "") (Or.inl (w58 hw)) Via.refl Fc d16_7 ?_
  cases u
  · refine Run.ifNo F d16_10 rfl ?_
    refine Run.iconst F d16_13 (z := 1) rfl ?_
    refine Run.goto F d16_14 (t := 18) rfl ?_
    exact Run.ireturn F (by simp) rfl (by decide) (by decide) d16_18 ⟨rfl, rfl, rfl⟩
  · refine Run.ifYes F d16_10 (t := 17) rfl rfl ?_
    refine Run.iconst F d16_17 (z := 0) rfl ?_
    exact Run.ireturn F (by simp) rfl (by decide) (by decide) d16_18 ⟨rfl, rfl, rfl⟩
set_option maxRecDepth 65536 in
set_option maxHeartbeats 4000000 in
theorem c_asbValue (l : Launch) (Z : State) (n0 : Nat) (a0 : Array Value) (hw : ∀ d ∈ tables_1, d.before a0 Z = true) (x v : Nat) (h : Heap) (Ls : Lits) (hO : Old Z n0 h) (Fv : Fld Z h x ASB "value" "[B" (.ref v)) :
    Con l Z n0 (⟨"java/lang/AbstractStringBuilder", "getValue", "()[B"⟩ : MethodName) jdk_68_method_64_code 1 (some (.array .byte)) ({ frames := 0, cells := 0, slots := 0, locals := 0 } : Room) [.ref x] h Ls [] (RV fun w h' Ls' => w = .ref v ∧ h = h' ∧ Ls = Ls') := by
  refine Con.of_run (plainFor_of_name pn4) hO ?_
  intro p e s m below meth c F hs
  refine ⟨[.val (.ref x)], by first | rfl | (simp [entryFrame, mkF, argsToLocals, Value.category]; done) | (rcases ref_cases hv with rfl | ⟨va, rfl⟩ <;> rfl), ?_⟩
  refine Run.aloadN F d13_0 rfl rfl ?_
  refine Run.getfield F (host := "") (Or.inl (w56 hw)) Via.refl Fv d13_1 ?_
  exact Run.areturn F rfl rfl (by decide) (by decide) d13_4 ⟨rfl, rfl, rfl⟩
set_option maxRecDepth 65536 in
set_option maxHeartbeats 4000000 in
theorem c_asbLength (l : Launch) (Z : State) (n0 : Nat) (a0 : Array Value) (hw : ∀ d ∈ tables_1, d.before a0 Z = true) (x : Nat) (n : Int32) (h : Heap) (Ls : Lits) (hO : Old Z n0 h) (Fn : Fld Z h x ASB "count" "I" (.int n)) :
    Con l Z n0 (⟨"java/lang/AbstractStringBuilder", "length", "()I"⟩ : MethodName) jdk_68_method_6_code 1 (some .int) ({ frames := 0, cells := 0, slots := 0, locals := 0 } : Room) [.ref x] h Ls [] (RV fun w h' Ls' => w = .int n ∧ h = h' ∧ Ls = Ls') := by
  refine Con.of_run (plainFor_of_name pn4) hO ?_
  intro p e s m below meth c F hs
  refine ⟨[.val (.ref x)], by first | rfl | (simp [entryFrame, mkF, argsToLocals, Value.category]; done) | (rcases ref_cases hv with rfl | ⟨va, rfl⟩ <;> rfl), ?_⟩
  refine Run.aloadN F d15_0 rfl rfl ?_
  refine Run.getfield F (host := "") (Or.inl (w86 hw)) Via.refl Fn d15_1 ?_
  exact Run.ireturn F (by simp) rfl (by decide) (by decide) d15_4 ⟨rfl, rfl, rfl⟩
set_option maxRecDepth 65536 in
set_option maxHeartbeats 4000000 in
theorem c_sbLength (l : Launch) (Z : State) (n0 : Nat) (a0 : Array Value) (hw : ∀ d ∈ tables_1, d.before a0 Z = true) (x : Nat) (n : Int32) (h : Heap) (Ls : Lits) (hO : Old Z n0 h) (E : Exa Z h x SBN) (Fn : Fld Z h x ASB "count" "I" (.int n)) :
    Con l Z n0 (⟨"java/lang/StringBuilder", "length", "()I"⟩ : MethodName) jdk_67_method_93_code 1 (some .int) ({ frames := 1, cells := 0, slots := 0, locals := 12 } : Room) [.ref x] h Ls [] (RV fun w h' Ls' => w = .int n ∧ h = h' ∧ Ls = Ls') := by
  refine Con.of_run (plainFor_of_name pn5) hO ?_
  intro p e s m below meth c F hs
  refine ⟨[.val (.ref x)], by first | rfl | (simp [entryFrame, mkF, argsToLocals, Value.category]; done) | (rcases ref_cases hv with rfl | ⟨va, rfl⟩ <;> rfl), ?_⟩
  refine Run.aloadN F d14_0 rfl rfl ?_
  refine Run.callSuper F (w83 hw) (same_own (w78 hw) (((fun U hU => nf_cls (a := #[]) (mvT hU (w75 hw)) (mvT hU (w73 hw)) rfl) : ∀ U : State, Z.Warmed39 U.vm → NotFace U ⟨"java/lang/AbstractStringBuilder", "length", "()I"⟩) Z (State.Warmed39.refl Z)) rfl) (w79 hw) (w84 hw) (w52 hw) (w85 hw) (Ins.of_exa E (w51 hw)) (c_asbLength l Z n0 a0 hw x n h Ls hO Fn) (by decide) pd8 rfl rfl rfl rfl (by decide) (by decide) rfl d14_1 ?_
  rintro _ _ _ ⟨_, rfl, rfl, rfl, rfl⟩ _ _
  exact Run.ireturn F (by simp) rfl (by decide) (by decide) d14_4 ⟨rfl, rfl, rfl⟩
set_option maxRecDepth 65536 in
set_option maxHeartbeats 4000000 in
theorem c_mathMax (l : Launch) (Z : State) (n0 : Nat) (a0 : Array Value) (hw : ∀ d ∈ tables_1, d.before a0 Z = true) (x y : Int32) (h : Heap) (Ls : Lits) (hO : Old Z n0 h)  :
    Con l Z n0 (⟨"java/lang/Math", "max", "(II)I"⟩ : MethodName) jdk_29_method_65_code 2 (some .int) ({ frames := 0, cells := 0, slots := 0, locals := 0 } : Room) [.int x, .int y] h Ls [] (RV fun v h' Ls' => ∃ z : Int32, v = .int z ∧ z.toInt = max x.toInt y.toInt ∧ h = h' ∧ Ls = Ls') := by
  refine Con.of_run pf_max hO ?_
  intro p e s m below meth c F hs
  refine ⟨[.val (.int x), .val (.int y)], by first | rfl | (simp [entryFrame, mkF, argsToLocals, Value.category]; done) | (rcases ref_cases hv with rfl | ⟨va, rfl⟩ <;> rfl), ?_⟩
  refine Run.iloadN F d40_0 rfl ?_
  refine Run.iloadN F d40_1 rfl ?_
  refine Run.icmp_lt F d40_2 (t := 9) rfl rfl rfl (fun q => ?_) (fun q => ?_)
  · refine Run.iloadN F d40_9 rfl ?_
    exact Run.ireturn F (by simp) rfl (by decide) (by decide) d40_10 ⟨y, rfl, by omega, rfl, rfl⟩
  · refine Run.iloadN F d40_5 rfl ?_
    refine Run.goto F d40_6 (t := 10) rfl ?_
    exact Run.ireturn F (by simp) rfl (by decide) (by decide) d40_10 ⟨x, rfl, by omega, rfl, rfl⟩
set_option maxRecDepth 65536 in
set_option maxHeartbeats 4000000 in
theorem c_mathMin (l : Launch) (Z : State) (n0 : Nat) (a0 : Array Value) (hw : ∀ d ∈ tables_1, d.before a0 Z = true) (x y : Int32) (h : Heap) (Ls : Lits) (hO : Old Z n0 h)  :
    Con l Z n0 (⟨"java/lang/Math", "min", "(II)I"⟩ : MethodName) jdk_29_method_69_code 2 (some .int) ({ frames := 0, cells := 0, slots := 0, locals := 0 } : Room) [.int x, .int y] h Ls [] (RV fun v h' Ls' => ∃ z : Int32, v = .int z ∧ z.toInt = min x.toInt y.toInt ∧ h = h' ∧ Ls = Ls') := by
  refine Con.of_run pf_min hO ?_
  intro p e s m below meth c F hs
  refine ⟨[.val (.int x), .val (.int y)], by first | rfl | (simp [entryFrame, mkF, argsToLocals, Value.category]; done) | (rcases ref_cases hv with rfl | ⟨va, rfl⟩ <;> rfl), ?_⟩
  refine Run.iloadN F d42_0 rfl ?_
  refine Run.iloadN F d42_1 rfl ?_
  refine Run.icmp_gt F d42_2 (t := 9) rfl rfl rfl (fun q => ?_) (fun q => ?_)
  · refine Run.iloadN F d42_9 rfl ?_
    exact Run.ireturn F (by simp) rfl (by decide) (by decide) d42_10 ⟨y, rfl, by omega, rfl, rfl⟩
  · refine Run.iloadN F d42_5 rfl ?_
    refine Run.goto F d42_6 (t := 10) rfl ?_
    exact Run.ireturn F (by simp) rfl (by decide) (by decide) d42_10 ⟨x, rfl, by omega, rfl, rfl⟩
set_option maxRecDepth 65536 in
set_option maxHeartbeats 4000000 in
theorem c_newLength (l : Launch) (Z : State) (n0 : Nat) (a0 : Array Value) (hw : ∀ d ∈ tables_1, d.before a0 Z = true) (o a b : Int32) (h : Heap) (Ls : Lits) (hO : Old Z n0 h) (h0 : 0 ≤ o.toInt) (h1 : o.toInt ≤ 100000) (h2 : -200000 ≤ a.toInt ∧ a.toInt ≤ 100000) (h3 : 0 < b.toInt ∧ b.toInt ≤ 200000) :
    Con l Z n0 (⟨"jdk/internal/util/ArraysSupport", "newLength", "(III)I"⟩ : MethodName) jdk_48_method_27_code 4 (some .int) ({ frames := 1, cells := 0, slots := 0, locals := 14 } : Room) [.int o, .int a, .int b] h Ls [] (RV fun v h' Ls' => ∃ z : Int32, v = .int z ∧ z.toInt = o.toInt + max a.toInt b.toInt ∧ h = h' ∧ Ls = Ls') := by
  refine Con.of_run (plainFor_of_name pn6) hO ?_
  intro p e s m below meth c F hs
  refine ⟨[.val (.int o), .val (.int a), .val (.int b), .unset], by first | rfl | (simp [entryFrame, mkF, argsToLocals, Value.category]; done) | (rcases ref_cases hv with rfl | ⟨va, rfl⟩ <;> rfl), ?_⟩
  refine Run.iloadN F d39_0 rfl ?_
  refine Run.iloadN F d39_1 rfl ?_
  refine Run.iloadN F d39_2 rfl ?_
  refine Run.callStatic F (w207 hw) (w208 hw) (w209 hw) (w210 hw) (c_mathMax l Z n0 a0 hw a b h Ls hO) rfl pd9 rfl rfl rfl rfl (by decide) (by decide) rfl d39_3 ?_
  rintro _ _ _ ⟨_, rfl, z, rfl, hz, rfl, rfl⟩ _ _
  have e := c_iadd o z
  have r := rng32 (o + z)
  refine Run.iadd F d39_6 ?_
  refine Run.istoreN F d39_7 rfl ?_
  dsimp only [List.set]
  refine Run.iconst F d39_8 (z := 0) rfl ?_
  refine Run.iloadN F d39_9 rfl ?_
  refine Run.icmp_ge F d39_10 (t := 21) rfl (xi := 0) rfl rfl (fun q => by omega) (fun _ => ?_)
  refine Run.iloadN F d39_13 rfl ?_
  refine Run.ldcInt F (w211 hw) d39_14 ?_
  refine Run.icmp_gt F d39_16 (t := 21) rfl rfl (yi := 2147483639) rfl (fun q => by omega) (fun _ => ?_)
  refine Run.iloadN F d39_19 rfl ?_
  exact Run.ireturn F (by simp) rfl (by decide) (by decide) d39_20 ⟨o + z, rfl, by omega, rfl, rfl⟩
set_option maxRecDepth 65536 in
set_option maxHeartbeats 4000000 in
theorem c_newCapacity (l : Launch) (Z : State) (n0 : Nat) (a0 : Array Value) (hw : ∀ d ∈ tables_1, d.before a0 Z = true) (x v : Nat) (u : Bool) (mn : Nat) (vs : List Value) (h : Heap) (Ls : Lits) (hO : Old Z n0 h) (Fv : Fld Z h x ASB "value" "[B" (.ref v)) (Fc : Fld Z h x ASB "coder" "B" (.int (b2i u))) (A : Av Z h v .byte vs) (hmn : mn ≤ 8) (hcap : vs.length < wd u * mn) :
    Con l Z n0 (⟨"java/lang/AbstractStringBuilder", "newCapacity", "(I)I"⟩ : MethodName) jdk_68_method_10_code 6 (some .int) ({ frames := 2, cells := 0, slots := 0, locals := 29 } : Room) [.ref x, .int (Int32.ofNat mn)] h Ls [] (RV fun w h' Ls' => ∃ nc : Nat, w = .int (Int32.ofNat nc) ∧ mn ≤ nc ∧ nc ≤ 18 ∧ h = h' ∧ Ls = Ls') := by
  refine Con.of_run (plainFor_of_name pn4) hO ?_
  intro p e s m below meth c F hs
  refine ⟨[.val (.ref x), .val (.int (Int32.ofNat mn)), .unset, .unset, .unset, .unset], by first | rfl | (simp [entryFrame, mkF, argsToLocals, Value.category]; done) | (rcases ref_cases hv with rfl | ⟨va, rfl⟩ <;> rfl), ?_⟩
  have hwd : wd u ≤ 2 := by cases u <;> decide
  have hwp := wd_pos u
  have hw2 : wd u * mn ≤ 2 * mn := Nat.mul_le_mul_right mn hwd
  have l0 : vs.length ≤ 16 := by omega
  have i2 : (2 : Int32) = Int32.ofNat 2 := rfl
  refine Run.aloadN F d38_0 rfl rfl ?_
  refine Run.getfield F (host := "") (Or.inl (w56 hw)) Via.refl Fv d38_1 ?_
  refine Run.arrlen F A d38_4 ?_
  refine Run.istoreN F d38_5 rfl ?_
  dsimp only [List.set]
  refine Run.iloadN F d38_6 rfl ?_
  refine Run.aloadN F d38_7 rfl rfl ?_
  refine Run.getfield F (host := "") (Or.inl (w58 hw)) Via.refl Fc d38_8 ?_
  refine Run.ishl F d38_11 ?_
  rw [shl_b2i u (by omega)]
  refine Run.istoreN F d38_12 rfl ?_
  dsimp only [List.set]
  refine Run.iloadN F d38_13 rfl ?_
  refine Run.iloadN F d38_14 rfl ?_
  refine Run.isub F d38_15 ?_
  refine Run.istore F d38_16 rfl ?_
  dsimp only [List.set]
  refine Run.iloadN F d38_18 rfl ?_
  refine Run.iload F d38_19 rfl ?_
  refine Run.iloadN F d38_21 rfl ?_
  refine Run.iconst F d38_22 (z := 2) rfl ?_
  refine Run.aloadN F d38_23 rfl rfl ?_
  refine Run.getfield F (host := "") (Or.inl (w58 hw)) Via.refl Fc d38_24 ?_
  refine Run.ishl F d38_27 ?_
  rw [i2, shl_b2i u (by omega)]
  refine Run.iadd F d38_28 ?_
  rw [i32_add (by omega)]
  have e1 := i32_subI (a := wd u * mn) (b := vs.length) (by omega) (by omega)
  have e2 := i32_ti (i := vs.length + wd u * 2) (by omega)
  have e0 := i32_ti (i := vs.length) (by omega)
  refine Run.callStatic F (w203 hw) (w204 hw) (w205 hw) (w206 hw) (c_newLength l Z n0 a0 hw (Int32.ofNat vs.length) (Int32.ofNat (wd u * mn) - Int32.ofNat vs.length) (Int32.ofNat (vs.length + wd u * 2)) h Ls hO (by omega) (by omega) (by omega) (by omega)) rfl pd10 rfl rfl rfl rfl (by decide) (by decide) rfl d38_29 ?_
  rintro _ _ _ ⟨_, rfl, z, rfl, hz, rfl, rfl⟩ _ _
  rw [e0, e1, e2] at hz
  obtain ⟨zn, hzn⟩ : ∃ zn : Nat, z.toInt = zn := ⟨z.toInt.toNat, by omega⟩
  have ez : z = Int32.ofNat zn := i32_eq hzn
  subst ez
  refine Run.istore F d38_32 rfl ?_
  dsimp only [List.set]
  refine Run.iload F d38_34 rfl ?_
  refine Run.ldcInt F (w212 hw) d38_36 ?_
  refine Run.icmp_ne F d38_38 (t := 51) rfl hzn (yi := 2147483647) rfl (fun _ => ?_) (fun q => by omega)
  refine Run.iload F d38_51 rfl ?_
  refine Run.aloadN F d38_53 rfl rfl ?_
  refine Run.getfield F (host := "") (Or.inl (w58 hw)) Via.refl Fc d38_54 ?_
  refine Run.ishr F d38_57 ?_
  rw [shr_b2i u (by omega)]
  refine Run.ireturn F (by simp) rfl (by decide) (by decide) d38_58 ⟨zn / wd u, rfl, ?_, ?_, rfl, rfl⟩
  · cases u <;> simp only [wd] at * <;> simp at * <;> omega
  · cases u <;> simp only [wd] at * <;> simp at * <;> omega
set_option maxRecDepth 65536 in
set_option maxHeartbeats 4000000 in
theorem c_copyOf (l : Launch) (Z : State) (n0 : Nat) (a0 : Array Value) (hw : ∀ d ∈ tables_1, d.before a0 Z = true) (v : Nat) (nl : Nat) (vs : List Value) (h : Heap) (Ls : Lits) (hO : Old Z n0 h) (A : Av Z h v .byte vs) (hlt : vs.length < nl) (hK : nl ≤ 36) :
    Con l Z n0 (⟨"java/util/Arrays", "copyOf", "([BI)[B"⟩ : MethodName) jdk_65_method_121_code 3 (some (.array .byte)) ({ frames := 1, cells := 1, slots := 36, locals := 18 } : Room) [.ref v, .int (Int32.ofNat nl)] h Ls [] (RV fun w h' Ls' => ∃ b : Nat, w = .ref b ∧ Keep h h' [] ∧ h.size ≤ b ∧ b < h'.size ∧ Exa Z h' b "[B" ∧ Av Z h' b .byte (vs ++ List.replicate (nl - vs.length) (.int 0)) ∧ Ls = Ls') := by
  refine Con.of_run (plainFor_of_name pn7) hO ?_
  intro p e s m below meth c F hs
  refine ⟨[.val (.ref v), .val (.int (Int32.ofNat nl)), .unset], by first | rfl | (simp [entryFrame, mkF, argsToLocals, Value.category]; done) | (rcases ref_cases hv with rfl | ⟨va, rfl⟩ <;> rfl), ?_⟩
  have e1 := i32_ti (i := nl) (by omega)
  have e2 := i32_ti (i := vs.length) (by omega)
  refine Run.iloadN F d41_0 rfl ?_
  refine Run.aloadN F d41_1 rfl rfl ?_
  refine Run.arrlen F A d41_2 ?_
  refine Run.icmp_ne F d41_3 (t := 14) rfl e1 e2 (fun _ => ?_) (fun q => by omega)
  refine Run.iloadN F d41_14 rfl ?_
  refine Run.newarrayE (aty := .byte) F (w20 hw) (ad := "[B") (by decide) (i32_nn (by omega)) (i32_tn (by omega)) 36 hK rfl (by decide) (by decide) d41_15 ?_
  intro h1 b hb K1 lt1 A1 E1
  have hO1 : Old Z n0 h1 := hO.keep K1 all0
  have gb : n0 ≤ b := by rw [hb, ← hO.1]; exact hO.2.1
  refine Run.astoreN F d41_17 rfl rfl ?_
  dsimp only [List.set]
  refine Run.aloadN F d41_18 rfl rfl ?_
  refine Run.iconst F d41_19 (z := 0) rfl ?_
  refine Run.aloadN F d41_20 rfl rfl ?_
  refine Run.iconst F d41_21 (z := 0) rfl ?_
  refine Run.aloadN F d41_22 rfl rfl ?_
  refine Run.arrlen F (A.keep K1 nin0) d41_23 ?_
  refine Run.iloadN F d41_24 rfl ?_
  refine Run.callStatic F (w216 hw) (w217 hw) (w209 hw) (w218 hw) (c_mathMin l Z n0 a0 hw (Int32.ofNat vs.length) (Int32.ofNat nl) h1 Ls hO1) rfl pd9 rfl rfl rfl rfl (by decide) (by decide) rfl d41_25 ?_
  rintro _ _ _ ⟨_, rfl, z, rfl, hz, rfl, rfl⟩ _ _
  refine Run.arraycopy F (w219 hw) (w197 hw) (w195 hw) (w196 hw) (A.keep K1 nin0) A1 rfl gb (sp := 0) rfl (dp := 0) rfl (nn := vs.length) (by omega) (by omega) (by simp; omega) (us := vs) (by simp) rfl rfl rfl d41_28 ?_
  intro h2 K2 A2
  have A3 : Av Z h2 b .byte (vs ++ List.replicate (nl - vs.length) (.int 0)) := by
    rw [List.take_zero, List.nil_append, Nat.zero_add, List.drop_replicate] at A2; exact A2
  refine Run.aloadN F d41_31 rfl rfl ?_
  exact Run.areturn F rfl rfl (by decide) (by decide) d41_32 ⟨b, rfl, K1.trans K2 (allS (Or.inr (by omega)) all0), by omega, Nat.lt_of_lt_of_le lt1 K2.1, E1.keep K2, A3, rfl⟩
set_option maxRecDepth 65536 in
set_option maxHeartbeats 4000000 in
theorem c_ensure (l : Launch) (Z : State) (n0 : Nat) (a0 : Array Value) (hw : ∀ d ∈ tables_1, d.before a0 Z = true) (x v : Nat) (u : Bool) (cap mn : Nat) (ds : List Int32) (h : Heap) (Ls : Lits) (hO : Old Z n0 h) (S : Sb Z h x v u cap ds) (g : n0 ≤ x) (hmn : mn ≤ 8) (hcap : cap ≤ wd u * 18) :
    Con l Z n0 (⟨"java/lang/AbstractStringBuilder", "ensureCapacityInternal", "(I)V"⟩ : MethodName) jdk_68_method_9_code 3 none ({ frames := 3, cells := 1, slots := 36, locals := 48 } : Room) [.ref x, .int (Int32.ofNat mn)] h Ls [] (RN fun h' Ls' => ∃ v' cap' : Nat, Sb Z h' x v' u cap' ds ∧ wd u * mn ≤ cap' ∧ cap' ≤ wd u * 18 ∧ Keep h h' [x] ∧ (v' = v ∨ h.size ≤ v') ∧ Ls = Ls') := by
  refine Con.of_run (plainFor_of_name pn4) hO ?_
  intro p e s m below meth c F hs
  refine ⟨[.val (.ref x), .val (.int (Int32.ofNat mn)), .unset], by first | rfl | (simp [entryFrame, mkF, argsToLocals, Value.category]; done) | (rcases ref_cases hv with rfl | ⟨va, rfl⟩ <;> rfl), ?_⟩
  have S0 := S
  obtain ⟨E, Fv, Fc, Fn, Fm, Ev, tl, ht, A⟩ := S
  have hwd : wd u ≤ 2 := by cases u <;> decide
  have hwp := wd_pos u
  have hln : (byts u ds ++ tl).length = cap := by rw [List.length_append, byts_len]; omega
  have hcb : cap ≤ 36 := Nat.le_trans hcap (Nat.mul_le_mul_right _ hwd)
  have nq1 : Jvm.RoadKit.slotOf Z ASB "coder" "B" ≠ Jvm.RoadKit.slotOf Z ASB "value" "[B" := slot_ne (a0 := a0) (C := "java/lang/StringBuilder") (Or.inl (w59 hw)) (Or.inl (w57 hw)) (by decide) (t := .byte) (t' := (.array .byte)) (by decide) (by decide)
  have nq2 : Jvm.RoadKit.slotOf Z ASB "count" "I" ≠ Jvm.RoadKit.slotOf Z ASB "value" "[B" := slot_ne (a0 := a0) (C := "java/lang/StringBuilder") (Or.inl (w87 hw)) (Or.inl (w57 hw)) (by decide) (t := .int) (t' := (.array .byte)) (by decide) (by decide)
  have nq3 : Jvm.RoadKit.slotOf Z ASB "maybeLatin1" "Z" ≠ Jvm.RoadKit.slotOf Z ASB "value" "[B" := slot_ne (a0 := a0) (C := "java/lang/StringBuilder") (Or.inl (w282 hw)) (Or.inl (w57 hw)) (by decide) (t := .boolean) (t' := (.array .byte)) (by decide) (by decide)
  refine Run.aloadN F d31_0 rfl rfl ?_
  refine Run.getfield F (host := "") (Or.inl (w56 hw)) Via.refl Fv d31_1 ?_
  refine Run.arrlen F A d31_4 ?_
  rw [hln]
  refine Run.aloadN F d31_5 rfl rfl ?_
  refine Run.getfield F (host := "") (Or.inl (w58 hw)) Via.refl Fc d31_6 ?_
  refine Run.ishr F d31_9 ?_
  rw [shr_b2i u (by omega)]
  have hq : cap / wd u ≤ cap := Nat.div_le_self _ _
  refine Run.istoreN F d31_10 rfl ?_
  dsimp only [List.set]
  refine Run.iloadN F d31_11 rfl ?_
  refine Run.iloadN F d31_12 rfl ?_
  refine Run.isub F d31_13 ?_
  have e1 := i32_subI (a := mn) (b := cap / wd u) (by omega) (by omega)
  refine Run.if_le F d31_14 (t := 38) rfl e1 (fun q => ?_) (fun q => ?_)
  · refine Run.return_ F (by decide) (by decide) d31_38 ⟨v, cap, S0, ?_, hcap, Keep.refl _ _, Or.inl rfl, rfl⟩
    have : mn ≤ cap / wd u := by omega
    calc wd u * mn ≤ wd u * (cap / wd u) := Nat.mul_le_mul_left _ this
      _ ≤ cap := Nat.mul_div_le _ _
  · have hlt : cap < wd u * mn := by
      have : cap / wd u < mn := by omega
      rw [Nat.mul_comm]; exact (Nat.div_lt_iff_lt_mul hwp).mp this
    refine Run.aloadN F d31_17 rfl rfl ?_
    refine Run.aloadN F d31_18 rfl rfl ?_
    refine Run.getfield F (host := "") (Or.inl (w56 hw)) Via.refl Fv d31_19 ?_
    refine Run.aloadN F d31_22 rfl rfl ?_
    refine Run.iloadN F d31_23 rfl ?_
    refine Run.callVirtual F (w198 hw) (decl_of (w199 hw) (w202 hw)) (fun U hU => notFace_of_selects (args := #[]) (mvT hU (w201 hw))) (w201 hw) (w199 hw) (w52 hw) (w202 hw) E (c_newCapacity l Z n0 a0 hw x v u mn (byts u ds ++ tl) h Ls hO Fv Fc A hmn (by rw [hln]; exact hlt)) rfl pd3 rfl rfl rfl rfl (by decide) (by decide) rfl d31_24 ?_
    rintro _ _ _ ⟨_, rfl, nc, rfl, hnc, hnc2, rfl, rfl⟩ _ _
    refine Run.aloadN F d31_27 rfl rfl ?_
    refine Run.getfield F (host := "") (Or.inl (w58 hw)) Via.refl Fc d31_28 ?_
    refine Run.ishl F d31_31 ?_
    rw [shl_b2i u (by omega)]
    have h1c : wd u * mn ≤ wd u * nc := Nat.mul_le_mul_left _ hnc
    have h2c : wd u * nc ≤ 2 * nc := Nat.mul_le_mul_right _ hwd
    refine Run.callStatic F (w213 hw) (w214 hw) (w95 hw) (w215 hw) (c_copyOf l Z n0 a0 hw v (wd u * nc) (byts u ds ++ tl) h Ls hO A (by omega) (by omega)) rfl pd11 rfl rfl rfl rfl (by decide) (by decide) rfl d31_32 ?_
    rintro _ h1 _ ⟨_, rfl, b, rfl, K1, hb, hb2, E1, A1, rfl⟩ hO1 _
    rw [hln] at A1
    refine Run.putfield F (w56 hw) Via.refl (Fv.keep K1 nin0) (E.keep K1) g (Or.inl (w57 hw)) (w32 hw) (ty := (.array .byte)) (by decide) (v' := .ref b) rfl rfl d31_35 ?_
    intro h2 W2 K2 hs2 F2
    have lx := (ltE E)
    have hbx : b ≠ x := by omega
    refine Run.return_ F (by decide) (by decide) d31_38 ⟨b, wd u * nc, ⟨(E.keep K1).keep K2, F2, (Fc.keep K1 nin0).other W2 (Or.inr nq1), (Fn.keep K1 nin0).other W2 (Or.inr nq2), (Fm.keep K1 nin0).other W2 (Or.inr nq3), E1.keep K2, tl ++ List.replicate (wd u * nc - cap) (.int 0), ?_, ?_⟩, h1c, Nat.mul_le_mul_left _ hnc2, (K1.mono (ws' := [x]) (by simp)).trans K2 (allS (Or.inl mem1) all0), Or.inr hb, rfl⟩
    · rw [List.length_append, List.length_replicate]; omega
    · rw [← List.append_assoc]; exact A1.keep K2 (ninS hbx nin0)
set_option maxRecDepth 65536 in
set_option maxHeartbeats 4000000 in
theorem c_canEncode (l : Launch) (Z : State) (n0 : Nat) (a0 : Array Value) (hw : ∀ d ∈ tables_1, d.before a0 Z = true) (ch : Int32) (h : Heap) (Ls : Lits) (hO : Old Z n0 h)  :
    Con l Z n0 (⟨"java/lang/StringLatin1", "canEncode", "(C)Z"⟩ : MethodName) jdk_43_method_3_code 1 (some .boolean) ({ frames := 0, cells := 0, slots := 0, locals := 0 } : Room) [.int ch] h Ls [] (RV fun w h' Ls' => w = .int (b2i (decide (ch.toInt < 256))) ∧ h = h' ∧ Ls = Ls') := by
  refine Con.of_run (plainFor_of_name pn2) hO ?_
  intro p e s m below meth c F hs
  refine ⟨[.val (.int ch)], by first | rfl | (simp [entryFrame, mkF, argsToLocals, Value.category]; done) | (rcases ref_cases hv with rfl | ⟨va, rfl⟩ <;> rfl), ?_⟩
  refine Run.iloadN F d32_0 rfl ?_
  refine Run.sipush F d32_1 (z := 255) rfl ?_
  refine Run.icmp_gt F d32_4 (t := 11) rfl rfl (yi := 255) rfl (fun q => ?_) (fun q => ?_)
  · refine Run.iconst F d32_11 (z := 0) rfl ?_
    exact Run.ireturn F (by simp) rfl (by decide) (by decide) d32_12 ⟨by rw [decide_eq_false (by omega)]; rfl, rfl, rfl⟩
  · refine Run.iconst F d32_7 (z := 1) rfl ?_
    refine Run.goto F d32_8 (t := 12) rfl ?_
    exact Run.ireturn F (by simp) rfl (by decide) (by decide) d32_12 ⟨by rw [decide_eq_true (by omega)]; rfl, rfl, rfl⟩
set_option maxRecDepth 65536 in
set_option maxHeartbeats 4000000 in
theorem c_putSB (l : Launch) (Z : State) (n0 : Nat) (a0 : Array Value) (hw : ∀ d ∈ tables_1, d.before a0 Z = true) (u : Nat) (j : Nat) (ch : Int32) (vs : List Value) {sf : Value} (SF : Sta Z Z.heap "jdk/internal/util/Preconditions" "SIOOBE_FORMATTER" "Ljava/util/function/BiFunction;" sf) (hsf : sf.isRef = true) (UA : Sta Z Z.heap "java/lang/StringUTF16" "$assertionsDisabled" "Z" (.int 1)) (UH : Sta Z Z.heap "java/lang/StringUTF16" "HI_BYTE_SHIFT" "I" (.int 0)) (UL : Sta Z Z.heap "java/lang/StringUTF16" "LO_BYTE_SHIFT" "I" (.int 8)) (h : Heap) (Ls : Lits) (hO : Old Z n0 h) (A : Av Z h u .byte vs) (g : n0 ≤ u) (hj : 2 * j + 1 < vs.length) :
    Con l Z n0 (⟨"java/lang/StringUTF16", "putCharSB", "([BII)V"⟩ : MethodName) jdk_52_method_71_code 3 none ({ frames := 3, cells := 0, slots := 0, locals := 40 } : Room) [.ref u, .int (Int32.ofNat j), .int ch] h Ls [] (RN fun h' Ls' => Keep h h' [u] ∧ h'.size = h.size ∧ Av Z h' u .byte ((vs.set (2 * j) (hb0 ch)).set (2 * j + 1) (hb1 ch)) ∧ Ls = Ls') := by
  refine Con.of_run (plainFor_of_name pn3) hO ?_
  intro p e s m below meth c F hs
  refine ⟨[.val (.ref u), .val (.int (Int32.ofNat j)), .val (.int ch)], by first | rfl | (simp [entryFrame, mkF, argsToLocals, Value.category]; done) | (rcases ref_cases hv with rfl | ⟨va, rfl⟩ <;> rfl), ?_⟩
  refine Run.iloadN F d59_0 rfl ?_
  refine Run.aloadN F d59_1 rfl rfl ?_
  refine Run.callStatic F (w249 hw) (w250 hw) (w113 hw) (w251 hw) (c_u16ci l Z n0 a0 hw u j vs SF hsf h Ls hO A (by omega)) rfl pd5 rfl rfl rfl rfl (by decide) (by decide) rfl d59_2 ?_
  rintro _ _ _ ⟨rfl, rfl, rfl⟩ _ _
  show Run _ _ _ _ _ _ _ _ _ _ _ _ _ _ _ _ _ _ _ _ []
  refine Run.aloadN F d59_5 rfl rfl ?_
  refine Run.iloadN F d59_6 rfl ?_
  refine Run.iloadN F d59_7 rfl ?_
  refine Run.callStatic F (w237 hw) (w238 hw) (w113 hw) (w239 hw) (c_putChar l Z n0 a0 hw u j ch vs UA UH UL h Ls hO A g hj) rfl pd12 rfl rfl rfl rfl (by decide) (by decide) rfl d59_8 ?_
  rintro _ h1 _ ⟨rfl, K1, s1, A1, rfl⟩ _ _
  exact Run.return_ F (by decide) (by decide) d59_11 ⟨K1, s1, A1, rfl⟩
set_option maxRecDepth 65536 in
set_option maxHeartbeats 4000000 in
theorem c_cfis (l : Launch) (Z : State) (n0 : Nat) (a0 : Array Value) (hw : ∀ d ∈ tables_1, d.before a0 Z = true) (o n t : Nat) (v : Value) (h : Heap) (Ls : Lits) (hO : Old Z n0 h) (hv : v.isRef = true) (h1 : o + n ≤ t) (h2 : t < 2 ^ 31) :
    Con l Z n0 (⟨"jdk/internal/util/Preconditions", "checkFromIndexSize", "(IIILjava/util/function/BiFunction;)I"⟩ : MethodName) jdk_41_method_13_code 4 (some .int) ({ frames := 0, cells := 0, slots := 0, locals := 0 } : Room) [.int (Int32.ofNat o), .int (Int32.ofNat n), .int (Int32.ofNat t), v] h Ls [] (RV fun w h' Ls' => w = .int (Int32.ofNat o) ∧ h = h' ∧ Ls = Ls') := by
  refine Con.of_run (plainFor_of_name pn1) hO ?_
  intro p e s m below meth c F hs
  refine ⟨[.val (.int (Int32.ofNat o)), .val (.int (Int32.ofNat n)), .val (.int (Int32.ofNat t)), .val v], by first | rfl | (simp [entryFrame, mkF, argsToLocals, Value.category]; done) | (rcases ref_cases hv with rfl | ⟨va, rfl⟩ <;> rfl), ?_⟩
  have e0 := i32_ti (i := o) (by omega)
  have e1 := i32_ti (i := n) (by omega)
  have e2 := i32_ti (i := t) h2
  have e3 := i32_subI (a := t) (b := o) h2 (by omega)
  have nn : 0 ≤ (Int32.ofNat t ||| Int32.ofNat o ||| Int32.ofNat n).toInt := ior_nn (ior_nn (by omega) (by omega)) (by omega)
  refine Run.iloadN F d58_0 rfl ?_
  refine Run.iloadN F d58_1 rfl ?_
  refine Run.ior F d58_2 ?_
  refine Run.iloadN F d58_3 rfl ?_
  refine Run.ior F d58_4 ?_
  refine Run.if_lt F d58_5 (t := 15) rfl rfl (fun q => by omega) (fun _ => ?_)
  refine Run.iloadN F d58_8 rfl ?_
  refine Run.iloadN F d58_9 rfl ?_
  refine Run.iloadN F d58_10 rfl ?_
  refine Run.isub F d58_11 ?_
  refine Run.icmp_le F d58_12 (t := 23) rfl e1 e3 (fun _ => ?_) (fun q => by omega)
  refine Run.iloadN F d58_23 rfl ?_
  exact Run.ireturn F (by simp) rfl (by decide) (by decide) d58_24 ⟨rfl, rfl, rfl⟩
set_option maxRecDepth 65536 in
set_option maxHeartbeats 4000000 in
theorem c_cboc (l : Launch) (Z : State) (n0 : Nat) (a0 : Array Value) (hw : ∀ d ∈ tables_1, d.before a0 Z = true) (o n t : Nat) {sf : Value} (SF : Sta Z Z.heap "jdk/internal/util/Preconditions" "SIOOBE_FORMATTER" "Ljava/util/function/BiFunction;" sf) (hsf : sf.isRef = true) (h : Heap) (Ls : Lits) (hO : Old Z n0 h) (h1 : o + n ≤ t) (h2 : t < 2 ^ 31) :
    Con l Z n0 (⟨"java/lang/String", "checkBoundsOffCount", "(III)I"⟩ : MethodName) jdk_42_method_157_code 3 (some .int) ({ frames := 1, cells := 0, slots := 0, locals := 15 } : Room) [.int (Int32.ofNat o), .int (Int32.ofNat n), .int (Int32.ofNat t)] h Ls [] (RV fun w h' Ls' => w = .int (Int32.ofNat o) ∧ h = h' ∧ Ls = Ls') := by
  refine Con.of_run (plainFor_of_name pn0) hO ?_
  intro p e s m below meth c F hs
  refine ⟨[.val (.int (Int32.ofNat o)), .val (.int (Int32.ofNat n)), .val (.int (Int32.ofNat t))], by first | rfl | (simp [entryFrame, mkF, argsToLocals, Value.category]; done) | (rcases ref_cases hv with rfl | ⟨va, rfl⟩ <;> rfl), ?_⟩
  refine Run.iloadN F d57_0 rfl ?_
  refine Run.iloadN F d57_1 rfl ?_
  refine Run.iloadN F d57_2 rfl ?_
  refine Run.getstatic F (w144 hw) Via.refl SF d57_3 ?_
  refine Run.callStatic F (w275 hw) (w276 hw) (w145 hw) (w277 hw) (c_cfis l Z n0 a0 hw o n t sf h Ls hO hsf h1 h2) rfl pd13 rfl rfl rfl rfl (by decide) (by decide) rfl d57_6 ?_
  rintro _ _ _ ⟨_, rfl, rfl, rfl, rfl⟩ _ _
  exact Run.ireturn F (by simp) rfl (by decide) (by decide) d57_9 ⟨rfl, rfl, rfl⟩
set_option maxRecDepth 65536 in
set_option maxHeartbeats 4000000 in
theorem c_u16cboc (l : Launch) (Z : State) (n0 : Nat) (a0 : Array Value) (hw : ∀ d ∈ tables_1, d.before a0 Z = true) (b : Nat) (o n : Nat) (vs : List Value) {sf : Value} (SF : Sta Z Z.heap "jdk/internal/util/Preconditions" "SIOOBE_FORMATTER" "Ljava/util/function/BiFunction;" sf) (hsf : sf.isRef = true) (h : Heap) (Ls : Lits) (hO : Old Z n0 h) (A : Av Z h b .byte vs) (h1 : o + n ≤ vs.length / 2) :
    Con l Z n0 (⟨"java/lang/StringUTF16", "checkBoundsOffCount", "(II[B)V"⟩ : MethodName) jdk_52_method_94_code 3 none ({ frames := 2, cells := 0, slots := 0, locals := 29 } : Room) [.int (Int32.ofNat o), .int (Int32.ofNat n), .ref b] h Ls [] (RN fun h' Ls' => h = h' ∧ Ls = Ls') := by
  refine Con.of_run (plainFor_of_name pn3) hO ?_
  intro p e s m below meth c F hs
  refine ⟨[.val (.int (Int32.ofNat o)), .val (.int (Int32.ofNat n)), .val (.ref b)], by first | rfl | (simp [entryFrame, mkF, argsToLocals, Value.category]; done) | (rcases ref_cases hv with rfl | ⟨va, rfl⟩ <;> rfl), ?_⟩
  have hlen := A.len
  refine Run.iloadN F d56_0 rfl ?_
  refine Run.iloadN F d56_1 rfl ?_
  refine Run.aloadN F d56_2 rfl rfl ?_
  refine Run.callStatic F (w252 hw) (w253 hw) (w113 hw) (w254 hw) (c_u16len l Z n0 a0 hw b vs h Ls hO A) rfl pd4 rfl rfl rfl rfl (by decide) (by decide) rfl d56_3 ?_
  rintro _ _ _ ⟨_, rfl, rfl, rfl, rfl⟩ _ _
  refine Run.callStatic F (w272 hw) (w273 hw) (w7 hw) (w274 hw) (c_cboc l Z n0 a0 hw o n (vs.length / 2) SF hsf h Ls hO h1 (by omega)) rfl pd10 rfl rfl rfl rfl (by decide) (by decide) rfl d56_6 ?_
  rintro _ _ _ ⟨_, rfl, rfl, rfl, rfl⟩ _ _
  refine Run.pop F d56_9 rfl ?_
  exact Run.return_ F (by decide) (by decide) d56_10 ⟨rfl, rfl⟩
set_option maxRecDepth 65536 in
set_option maxHeartbeats 4000000 in
theorem c_u16inf (l : Launch) (Z : State) (n0 : Nat) (a0 : Array Value) (hw : ∀ d ∈ tables_1, d.before a0 Z = true) (b t : Nat) (cs : List Int32) (o : Nat) (sx pr rs : List Value) {sf : Value} (SF : Sta Z Z.heap "jdk/internal/util/Preconditions" "SIOOBE_FORMATTER" "Ljava/util/function/BiFunction;" sf) (hsf : sf.isRef = true) (UA : Sta Z Z.heap "java/lang/StringUTF16" "$assertionsDisabled" "Z" (.int 1)) (UH : Sta Z Z.heap "java/lang/StringUTF16" "HI_BYTE_SHIFT" "I" (.int 0)) (UL : Sta Z Z.heap "java/lang/StringUTF16" "LO_BYTE_SHIFT" "I" (.int 8)) (h : Heap) (Ls : Lits) (hO : Old Z n0 h) (As : Av Z h b .byte (cs.map lb ++ sx)) (Ad : Av Z h t .byte (pr ++ rs)) (g : n0 ≤ t) (hbt : b ≠ t) (hpr : pr.length = 2 * o) (hrs : 2 * cs.length ≤ rs.length) (hcs : ∀ c ∈ cs, 0 ≤ c.toInt ∧ c.toInt < 256) :
    Con l Z n0 (⟨"java/lang/StringUTF16", "inflate", "([BI[BII)V"⟩ : MethodName) jdk_52_method_86_code 6 none ({ frames := 3, cells := 0, slots := 0, locals := 43 } : Room) [.ref b, .int 0, .ref t, .int (Int32.ofNat o), .int (Int32.ofNat cs.length)] h Ls [] (RN fun h' Ls' => Keep h h' [t] ∧ Av Z h' t .byte (pr ++ u16 cs ++ rs.drop (2 * cs.length)) ∧ Ls = Ls') := by
  refine Con.of_run (plainFor_of_name pn3) hO ?_
  intro p e s m below meth c F hs
  refine ⟨[.val (.ref b), .val (.int 0), .val (.ref t), .val (.int (Int32.ofNat o)), .val (.int (Int32.ofNat cs.length)), .unset], by first | rfl | (simp [entryFrame, mkF, argsToLocals, Value.category]; done) | (rcases ref_cases hv with rfl | ⟨va, rfl⟩ <;> rfl), ?_⟩
  have hls := As.len
  have hld := Ad.len
  rw [List.length_append, List.length_map] at hls
  rw [List.length_append] at hld
  refine Run.iloadN F d55_0 rfl ?_
  refine Run.iload F d55_1 rfl ?_
  refine Run.aloadN F d55_3 rfl rfl ?_
  refine Run.callStatic F (w269 hw) (w270 hw) (w113 hw) (w271 hw) (c_u16cboc l Z n0 a0 hw t o cs.length (pr ++ rs) SF hsf h Ls hO Ad (by rw [List.length_append]; omega)) rfl pd14 rfl rfl rfl rfl (by decide) (by decide) rfl d55_4 ?_
  rintro _ _ _ ⟨rfl, rfl, rfl⟩ _ _
  show Run _ _ _ _ _ _ _ _ _ _ _ _ _ _ _ _ _ _ _ _ []
  refine Run.iconst F d55_7 (z := 0) rfl ?_
  refine Run.istore F d55_8 rfl ?_
  dsimp only [List.set]
  refine Run.rec (fun r h' k n Ls' L st => ∃ i, i + r = cs.length ∧ k = 0 ∧ n = 0 ∧ Ls = Ls' ∧ Keep h h' [t] ∧ Old Z n0 h' ∧ Av Z h' t .byte (pr ++ u16 (cs.take i) ++ rs.drop (2 * i)) ∧ L = [.val (.ref b), .val (.int (Int32.ofNat i)), .val (.ref t), .val (.int (Int32.ofNat (o + i))), .val (.int (Int32.ofNat cs.length)), .val (.int (Int32.ofNat i))] ∧ st = []) ?_ cs.length _ _ _ _ _ _ ⟨0, by omega, rfl, rfl, rfl, Keep.refl _ _, hO, by simpa [u16] using Ad, rfl, rfl⟩
  rintro r h' k n Ls' L st ⟨i, hi, rfl, rfl, rfl, K, OO, A, rfl, rfl⟩ ih
  refine Run.iload F d55_10 rfl ?_
  refine Run.iload F d55_12 rfl ?_
  refine Run.icmp_ge F d55_14 (t := 41) rfl (i32_ti (by omega)) (i32_ti (by omega)) (fun q => ?_) (fun q => ?_)
  · have hr : r = 0 := by omega
    have hi' : i = cs.length := by omega
    subst hr hi'
    refine Run.return_ F (by decide) (by decide) d55_41 ⟨K, ?_, rfl⟩
    rw [List.take_length] at A; exact A
  · obtain ⟨r, rfl⟩ : ∃ r', r = r' + 1 := ⟨r - 1, by omega⟩
    have hlt : i < cs.length := by omega
    obtain ⟨c1, hc1⟩ : ∃ c1, cs[i]? = some c1 := ⟨_, List.getElem?_eq_getElem hlt⟩
    have hc2 := hcs c1 (List.mem_of_getElem? hc1)
    obtain ⟨r0, r1, rr, hrr⟩ : ∃ r0 r1 rr, rs.drop (2 * i) = r0 :: r1 :: rr := by
      have hl : 2 ≤ (rs.drop (2 * i)).length := by rw [List.length_drop]; omega
      match hm : rs.drop (2 * i), hl with
      | r0 :: r1 :: rr, _ => exact ⟨r0, r1, rr, rfl⟩
    have hrr2 : rs.drop (2 * (i + 1)) = rr := by
      have : rs.drop (2 * (i + 1)) = (rs.drop (2 * i)).drop 2 := by rw [List.drop_drop]; congr 1 <;> omega
      rw [this, hrr]; rfl
    rw [hrr] at A
    have hpl : (pr ++ u16 (cs.take i)).length = 2 * (o + i) := by rw [List.length_append, u16_len, List.length_take]; omega
    refine Run.aloadN F d55_17 rfl rfl ?_
    refine Run.iloadN F d55_18 rfl ?_
    refine Run.iinc F d55_19 (z := 1) rfl rfl ?_
    dsimp only [List.set]
    refine Run.aloadN F d55_22 rfl rfl ?_
    refine Run.iloadN F d55_23 rfl ?_
    refine Run.iinc F d55_24 (z := 1) rfl rfl ?_
    dsimp only [List.set]
    simp only [Jvm.Free.XT.succ32]
    refine Run.baload F (As.keep K (ninS hbt nin0)) (i32_nn (by omega)) (i32_tn (by omega)) (v := .int c1.toInt8.toInt32) (by rw [List.getElem?_append_left (by simpa using hlt)]; exact lb_get hc1) d55_27 ?_
    refine Run.sipush F d55_28 (z := 255) rfl ?_
    refine Run.iand F d55_31 ?_
    rw [low8' hc2.1 hc2.2]
    refine Run.callStatic F (w237 hw) (w238 hw) (w113 hw) (w239 hw) (c_putChar l Z n0 a0 hw t (o + i) c1 _ UA UH UL h' Ls OO A g (by rw [List.length_append, hpl, List.length_cons, List.length_cons]; omega)) rfl pd12 rfl rfl rfl rfl (by decide) (by decide) rfl d55_32 ?_
    rintro _ h2 _ ⟨rfl, K2, s2, A2, rfl⟩ O2 _
    show Run _ _ _ _ _ _ _ _ _ _ _ _ _ _ _ _ _ _ _ _ []
    refine Run.iinc F d55_35 (z := 1) rfl rfl ?_
    dsimp only [List.set]
    refine Run.goto F d55_38 (t := 10) rfl ?_
    refine ih r _ _ _ _ _ _ (by omega) ⟨i + 1, by omega, rfl, rfl, rfl, K.trans K2 (allS (Or.inl mem1) all0), O2, ?_, ?_, rfl⟩
    · rw [set2 hpl] at A2
      rw [hrr2, List.take_succ, hc1, u16_app]
      simpa [u16] using A2
    · simp only [Jvm.Free.XT.succ32]; rfl
set_option maxRecDepth 65536 in
set_option maxHeartbeats 4000000 in
theorem c_l1inf (l : Launch) (Z : State) (n0 : Nat) (a0 : Array Value) (hw : ∀ d ∈ tables_1, d.before a0 Z = true) (b t : Nat) (cs : List Int32) (o : Nat) (sx pr rs : List Value) {sf : Value} (SF : Sta Z Z.heap "jdk/internal/util/Preconditions" "SIOOBE_FORMATTER" "Ljava/util/function/BiFunction;" sf) (hsf : sf.isRef = true) (UA : Sta Z Z.heap "java/lang/StringUTF16" "$assertionsDisabled" "Z" (.int 1)) (UH : Sta Z Z.heap "java/lang/StringUTF16" "HI_BYTE_SHIFT" "I" (.int 0)) (UL : Sta Z Z.heap "java/lang/StringUTF16" "LO_BYTE_SHIFT" "I" (.int 8)) (h : Heap) (Ls : Lits) (hO : Old Z n0 h) (As : Av Z h b .byte (cs.map lb ++ sx)) (Ad : Av Z h t .byte (pr ++ rs)) (g : n0 ≤ t) (hbt : b ≠ t) (hpr : pr.length = 2 * o) (hrs : 2 * cs.length ≤ rs.length) (hcs : ∀ c ∈ cs, 0 ≤ c.toInt ∧ c.toInt < 256) :
    Con l Z n0 (⟨"java/lang/StringLatin1", "inflate", "([BI[BII)V"⟩ : MethodName) jdk_43_method_50_code 5 none ({ frames := 4, cells := 0, slots := 0, locals := 60 } : Room) [.ref b, .int 0, .ref t, .int (Int32.ofNat o), .int (Int32.ofNat cs.length)] h Ls [] (RN fun h' Ls' => Keep h h' [t] ∧ Av Z h' t .byte (pr ++ u16 cs ++ rs.drop (2 * cs.length)) ∧ Ls = Ls') := by
  refine Con.of_run (plainFor_of_name pn2) hO ?_
  intro p e s m below meth c F hs
  refine ⟨[.val (.ref b), .val (.int 0), .val (.ref t), .val (.int (Int32.ofNat o)), .val (.int (Int32.ofNat cs.length))], by first | rfl | (simp [entryFrame, mkF, argsToLocals, Value.category]; done) | (rcases ref_cases hv with rfl | ⟨va, rfl⟩ <;> rfl), ?_⟩
  refine Run.aloadN F d54_0 rfl rfl ?_
  refine Run.iloadN F d54_1 rfl ?_
  refine Run.aloadN F d54_2 rfl rfl ?_
  refine Run.iloadN F d54_3 rfl ?_
  refine Run.iload F d54_4 rfl ?_
  refine Run.callStatic F (w266 hw) (w267 hw) (w113 hw) (w268 hw) (c_u16inf l Z n0 a0 hw b t cs o sx pr rs SF hsf UA UH UL h Ls hO As Ad g hbt hpr hrs hcs) rfl pd15 rfl rfl rfl rfl (by decide) (by decide) rfl d54_6 ?_
  rintro _ h1 _ ⟨rfl, K1, A1, rfl⟩ _ _
  exact Run.return_ F (by decide) (by decide) d54_9 ⟨K1, A1, rfl⟩
set_option maxRecDepth 65536 in
set_option maxHeartbeats 4000000 in
theorem c_asbInflT (l : Launch) (Z : State) (n0 : Nat) (a0 : Array Value) (hw : ∀ d ∈ tables_1, d.before a0 Z = true) (x : Nat) {cz : Int32} (SC : Sta Z Z.heap "java/lang/String" "COMPACT_STRINGS" "Z" (.int cz)) (hcz : cz.toInt ≠ 0) (h : Heap) (Ls : Lits) (hO : Old Z n0 h) (E : Exa Z h x SBN) (Fc : Fld Z h x ASB "coder" "B" (.int (b2i true))) :
    Con l Z n0 (⟨"java/lang/AbstractStringBuilder", "inflate", "()V"⟩ : MethodName) jdk_68_method_11_code 2 none ({ frames := 1, cells := 0, slots := 0, locals := 12 } : Room) [.ref x] h Ls [] (RN fun h' Ls' => h = h' ∧ Ls = Ls') := by
  refine Con.of_run (plainFor_of_name pn4) hO ?_
  intro p e s m below meth c F hs
  refine ⟨[.val (.ref x), .unset], by first | rfl | (simp [entryFrame, mkF, argsToLocals, Value.category]; done) | (rcases ref_cases hv with rfl | ⟨va, rfl⟩ <;> rfl), ?_⟩
  refine Run.aloadN F d53_0 rfl rfl ?_
  refine Run.callVirtual F (w163 hw) (w89 hw) (fun U hU => notFace_of_selects (args := #[]) (mvT hU (w91 hw))) (w91 hw) (w90 hw) (w52 hw) (w92 hw) E (c_asbLatin1 l Z n0 a0 hw x true SC hcz h Ls hO Fc) rfl pd7 rfl rfl rfl rfl (by decide) (by decide) rfl d53_1 ?_
  rintro _ _ _ ⟨_, rfl, rfl, rfl, rfl⟩ _ _
  refine Run.ifNo F d53_4 rfl ?_
  exact Run.return_ F (by decide) (by decide) d53_7 ⟨rfl, rfl⟩
set_option maxRecDepth 65536 in
set_option maxHeartbeats 4000000 in
theorem c_asbInflF (l : Launch) (Z : State) (n0 : Nat) (a0 : Array Value) (hw : ∀ d ∈ tables_1, d.before a0 Z = true) (x v : Nat) (cap : Nat) (ds : List Int32) {cz : Int32} (SC : Sta Z Z.heap "java/lang/String" "COMPACT_STRINGS" "Z" (.int cz)) (hcz : cz.toInt ≠ 0) {sf : Value} (SF : Sta Z Z.heap "jdk/internal/util/Preconditions" "SIOOBE_FORMATTER" "Ljava/util/function/BiFunction;" sf) (hsf : sf.isRef = true) (UA : Sta Z Z.heap "java/lang/StringUTF16" "$assertionsDisabled" "Z" (.int 1)) (UH : Sta Z Z.heap "java/lang/StringUTF16" "HI_BYTE_SHIFT" "I" (.int 0)) (UL : Sta Z Z.heap "java/lang/StringUTF16" "LO_BYTE_SHIFT" "I" (.int 8)) (h : Heap) (Ls : Lits) (hO : Old Z n0 h) (S : Sb Z h x v false cap ds) (g : n0 ≤ x) (hcap : cap ≤ 18) (hds : ∀ c ∈ ds, 0 ≤ c.toInt ∧ c.toInt < 256) :
    Con l Z n0 (⟨"java/lang/AbstractStringBuilder", "inflate", "()V"⟩ : MethodName) jdk_68_method_11_code 2 none ({ frames := 5, cells := 1, slots := 36, locals := 76 } : Room) [.ref x] h Ls [] (RN fun h' Ls' => ∃ v' : Nat, Sb Z h' x v' true (2 * cap) ds ∧ Keep h h' [x] ∧ h.size ≤ v' ∧ Ls = Ls') := by
  refine Con.of_run (plainFor_of_name pn4) hO ?_
  intro p e s m below meth c F hs
  refine ⟨[.val (.ref x), .unset], by first | rfl | (simp [entryFrame, mkF, argsToLocals, Value.category]; done) | (rcases ref_cases hv with rfl | ⟨va, rfl⟩ <;> rfl), ?_⟩
  obtain ⟨E, Fv, Fc, Fn, Fm, Ev, tl, ht, A⟩ := S
  have e1 : wd false * ds.length = ds.length := by simp [wd]
  rw [e1] at ht
  have e2 : byts false ds = ds.map lb := rfl
  rw [e2] at A
  have hln : (ds.map lb ++ tl).length = cap := by rw [List.length_append, List.length_map]; omega
  have nq1 : Jvm.RoadKit.slotOf Z ASB "coder" "B" ≠ Jvm.RoadKit.slotOf Z ASB "value" "[B" := slot_ne (a0 := a0) (C := "java/lang/StringBuilder") (Or.inl (w59 hw)) (Or.inl (w57 hw)) (by decide) (t := .byte) (t' := (.array .byte)) (by decide) (by decide)
  have nq2 : Jvm.RoadKit.slotOf Z ASB "count" "I" ≠ Jvm.RoadKit.slotOf Z ASB "value" "[B" := slot_ne (a0 := a0) (C := "java/lang/StringBuilder") (Or.inl (w87 hw)) (Or.inl (w57 hw)) (by decide) (t := .int) (t' := (.array .byte)) (by decide) (by decide)
  have nq3 : Jvm.RoadKit.slotOf Z ASB "maybeLatin1" "Z" ≠ Jvm.RoadKit.slotOf Z ASB "value" "[B" := slot_ne (a0 := a0) (C := "java/lang/StringBuilder") (Or.inl (w282 hw)) (Or.inl (w57 hw)) (by decide) (t := .boolean) (t' := (.array .byte)) (by decide) (by decide)
  have n4 : Jvm.RoadKit.slotOf Z ASB "value" "[B" ≠ Jvm.RoadKit.slotOf Z ASB "coder" "B" := slot_ne (a0 := a0) (C := "java/lang/StringBuilder") (Or.inl (w57 hw)) (Or.inl (w59 hw)) (by decide) (t := (.array .byte)) (t' := .byte) (by decide) (by decide)
  have n5 : Jvm.RoadKit.slotOf Z ASB "count" "I" ≠ Jvm.RoadKit.slotOf Z ASB "coder" "B" := slot_ne (a0 := a0) (C := "java/lang/StringBuilder") (Or.inl (w87 hw)) (Or.inl (w59 hw)) (by decide) (t := .int) (t' := .byte) (by decide) (by decide)
  have n6 : Jvm.RoadKit.slotOf Z ASB "maybeLatin1" "Z" ≠ Jvm.RoadKit.slotOf Z ASB "coder" "B" := slot_ne (a0 := a0) (C := "java/lang/StringBuilder") (Or.inl (w282 hw)) (Or.inl (w59 hw)) (by decide) (t := .boolean) (t' := .byte) (by decide) (by decide)
  refine Run.aloadN F d53_0 rfl rfl ?_
  refine Run.callVirtual F (w163 hw) (w89 hw) (fun U hU => notFace_of_selects (args := #[]) (mvT hU (w91 hw))) (w91 hw) (w90 hw) (w52 hw) (w92 hw) E (c_asbLatin1 l Z n0 a0 hw x false SC hcz h Ls hO Fc) rfl pd7 rfl rfl rfl rfl (by decide) (by decide) rfl d53_1 ?_
  rintro _ _ _ ⟨_, rfl, rfl, rfl, rfl⟩ _ _
  refine Run.ifYes F d53_4 (t := 8) rfl rfl ?_
  refine Run.aloadN F d53_8 rfl rfl ?_
  refine Run.getfield F (host := "") (Or.inl (w56 hw)) Via.refl Fv d53_9 ?_
  refine Run.arrlen F A d53_12 ?_
  rw [hln]
  refine Run.callStatic F (w262 hw) (w231 hw) (w113 hw) (w232 hw) (c_nbFor l Z n0 a0 hw cap h Ls hO (by omega)) rfl pd16 rfl rfl rfl rfl (by decide) (by decide) rfl d53_13 ?_
  rintro _ h1 _ ⟨_, rfl, b, rfl, K1, hb, E1, A1, rfl⟩ hO1 _
  have gb : n0 ≤ b := by rw [hb, ← hO.1]; exact hO.2.1
  have lv := A.lt
  have lx := (ltE E)
  have hvb : v ≠ b := by omega
  have hbx : b ≠ x := by omega
  refine Run.astoreN F d53_16 rfl rfl ?_
  dsimp only [List.set]
  refine Run.aloadN F d53_17 rfl rfl ?_
  refine Run.getfield F (host := "") (Or.inl (w56 hw)) Via.refl (Fv.keep K1 nin0) d53_18 ?_
  refine Run.iconst F d53_21 (z := 0) rfl ?_
  refine Run.aloadN F d53_22 rfl rfl ?_
  refine Run.iconst F d53_23 (z := 0) rfl ?_
  refine Run.aloadN F d53_24 rfl rfl ?_
  refine Run.getfield F (host := "") (Or.inl (w86 hw)) Via.refl (Fn.keep K1 nin0) d53_25 ?_
  refine Run.callStatic F (w263 hw) (w264 hw) (w139 hw) (w265 hw) (c_l1inf l Z n0 a0 hw v b ds 0 tl [] (List.replicate (2 * cap) (.int 0)) SF hsf UA UH UL h1 Ls hO1 (A.keep K1 nin0) (by simpa using A1) gb hvb rfl (by rw [List.length_replicate]; omega) hds) rfl pd15 rfl rfl rfl rfl (by decide) (by decide) rfl d53_28 ?_
  rintro _ h2 _ ⟨rfl, K2, A2, rfl⟩ hO2 _
  show Run _ _ _ _ _ _ _ _ _ _ _ _ _ _ _ _ _ _ _ _ []
  have hx2 : x ∉ [b] := ninS (Ne.symm hbx) nin0
  refine Run.aloadN F d53_31 rfl rfl ?_
  refine Run.aloadN F d53_32 rfl rfl ?_
  refine Run.putfield F (w56 hw) Via.refl ((Fv.keep K1 nin0).keep K2 hx2) ((E.keep K1).keep K2) g (Or.inl (w57 hw)) (w32 hw) (ty := (.array .byte)) (by decide) (v' := .ref b) rfl rfl d53_33 ?_
  intro h3 W3 K3 hs3 F3
  refine Run.aloadN F d53_36 rfl rfl ?_
  refine Run.iconst F d53_37 (z := 1) rfl ?_
  have E3 : Exa Z h3 x SBN := ((E.keep K1).keep K2).keep K3
  have Fc3 : Fld Z h3 x ASB "coder" "B" (.int (b2i false)) := ((Fc.keep K1 nin0).keep K2 hx2).other W3 (Or.inr nq1)
  refine Run.putfield F (w58 hw) Via.refl Fc3 E3 g (Or.inl (w59 hw)) (w32 hw) (ty := .byte) (by decide) (v' := .int (b2i true)) rfl rfl d53_38 ?_
  intro h4 W4 K4 hs4 F4
  have K12 : Keep h h2 [] := K1.trans K2 (allS (Or.inr (by omega)) all0)
  have K14 : Keep h h4 [x] := ((K12.mono (ws' := [x]) (by simp)).trans K3 (allS (Or.inl mem1) all0)).trans K4 (allS (Or.inl mem1) all0)
  refine Run.return_ F (by decide) (by decide) d53_41 ⟨b, ⟨E3.keep K4, F3.other W4 (Or.inr n4), F4, (((Fn.keep K1 nin0).keep K2 hx2).other W3 (Or.inr nq2)).other W4 (Or.inr n5), (((Fm.keep K1 nin0).keep K2 hx2).other W3 (Or.inr nq3)).other W4 (Or.inr n6), ((E1.keep K2).keep K3).keep K4, (List.replicate (2 * cap) (.int 0)).drop (2 * ds.length), ?_, ?_⟩, K14, by omega, rfl⟩
  · have : wd true = 2 := rfl
    rw [List.length_drop, List.length_replicate, this]; omega
  · exact ((by simpa [byts] using A2 : Av Z h2 b .byte (byts true ds ++ (List.replicate (2 * cap) (.int 0)).drop (2 * ds.length))).keep K3 (ninS hbx nin0)).keep K4 (ninS hbx nin0)
set_option maxRecDepth 65536 in
set_option maxHeartbeats 4000000 in
theorem c_asbInit (l : Launch) (Z : State) (n0 : Nat) (a0 : Array Value) (hw : ∀ d ∈ tables_1, d.before a0 Z = true) (x : Nat) (cap : Nat) {cz : Int32} (SC : Sta Z Z.heap "java/lang/String" "COMPACT_STRINGS" "Z" (.int cz)) (hcz : cz.toInt ≠ 0) (h : Heap) (Ls : Lits) (hO : Old Z n0 h) (E : Exa Z h x SBN) (Fv : Fld Z h x ASB "value" "[B" .null) (Fc : Fld Z h x ASB "coder" "B" (.int 0)) (Fn : Fld Z h x ASB "count" "I" (.int 0)) (Fm : Fld Z h x ASB "maybeLatin1" "Z" (.int 0)) (g : n0 ≤ x) (hcap : cap ≤ 18) :
    Con l Z n0 (⟨"java/lang/AbstractStringBuilder", "<init>", "(I)V"⟩ : MethodName) jdk_68_method_2_code 2 none ({ frames := 1, cells := 1, slots := 18, locals := 12 } : Room) [.ref x, .int (Int32.ofNat cap)] h Ls [] (RN fun h' Ls' => ∃ v : Nat, Sb Z h' x v false cap [] ∧ Keep h h' [x] ∧ h.size ≤ v ∧ Ls = Ls') := by
  refine Con.of_run (plainFor_of_name pn4) hO ?_
  intro p e s m below meth c F hs
  refine ⟨[.val (.ref x), .val (.int (Int32.ofNat cap))], by first | rfl | (simp [entryFrame, mkF, argsToLocals, Value.category]; done) | (rcases ref_cases hv with rfl | ⟨va, rfl⟩ <;> rfl), ?_⟩
  have nq1 : Jvm.RoadKit.slotOf Z ASB "coder" "B" ≠ Jvm.RoadKit.slotOf Z ASB "value" "[B" := slot_ne (a0 := a0) (C := "java/lang/StringBuilder") (Or.inl (w59 hw)) (Or.inl (w57 hw)) (by decide) (t := .byte) (t' := (.array .byte)) (by decide) (by decide)
  have nq2 : Jvm.RoadKit.slotOf Z ASB "count" "I" ≠ Jvm.RoadKit.slotOf Z ASB "value" "[B" := slot_ne (a0 := a0) (C := "java/lang/StringBuilder") (Or.inl (w87 hw)) (Or.inl (w57 hw)) (by decide) (t := .int) (t' := (.array .byte)) (by decide) (by decide)
  have nq3 : Jvm.RoadKit.slotOf Z ASB "maybeLatin1" "Z" ≠ Jvm.RoadKit.slotOf Z ASB "value" "[B" := slot_ne (a0 := a0) (C := "java/lang/StringBuilder") (Or.inl (w282 hw)) (Or.inl (w57 hw)) (by decide) (t := .boolean) (t' := (.array .byte)) (by decide) (by decide)
  have n4 : Jvm.RoadKit.slotOf Z ASB "value" "[B" ≠ Jvm.RoadKit.slotOf Z ASB "coder" "B" := slot_ne (a0 := a0) (C := "java/lang/StringBuilder") (Or.inl (w57 hw)) (Or.inl (w59 hw)) (by decide) (t := (.array .byte)) (t' := .byte) (by decide) (by decide)
  have n5 : Jvm.RoadKit.slotOf Z ASB "count" "I" ≠ Jvm.RoadKit.slotOf Z ASB "coder" "B" := slot_ne (a0 := a0) (C := "java/lang/StringBuilder") (Or.inl (w87 hw)) (Or.inl (w59 hw)) (by decide) (t := .int) (t' := .byte) (by decide) (by decide)
  have n6 : Jvm.RoadKit.slotOf Z ASB "maybeLatin1" "Z" ≠ Jvm.RoadKit.slotOf Z ASB "coder" "B" := slot_ne (a0 := a0) (C := "java/lang/StringBuilder") (Or.inl (w282 hw)) (Or.inl (w59 hw)) (by decide) (t := .boolean) (t' := .byte) (by decide) (by decide)
  refine Run.aloadN F d9_0 rfl rfl ?_
  refine Run.objInit F (w54 hw) (w17 hw) (w18 hw) rfl rfl rfl d9_1 ?_
  refine Run.getstatic F (w55 hw) Via.refl SC d9_4 ?_
  refine Run.if_eq F d9_7 (t := 25) rfl rfl (fun q => absurd q hcz) (fun _ => ?_)
  refine Run.aloadN F d9_10 rfl rfl ?_
  refine Run.iloadN F d9_11 rfl ?_
  refine Run.newarrayE (aty := .byte) F (w20 hw) (ad := "[B") (by decide) (i32_nn (by omega)) (i32_tn (by omega)) 18 hcap rfl (by decide) (by decide) d9_12 ?_
  intro h1 b hb K1 lt1 A1 E1
  have lx := (ltE E)
  have hbx : b ≠ x := by omega
  refine Run.putfield F (w56 hw) Via.refl (Fv.keep K1 nin0) (E.keep K1) g (Or.inl (w57 hw)) (w32 hw) (ty := (.array .byte)) (by decide) (v' := .ref b) rfl rfl d9_14 ?_
  intro h2 W2 K2 hs2 F2
  refine Run.aloadN F d9_17 rfl rfl ?_
  refine Run.iconst F d9_18 (z := 0) rfl ?_
  have E2 : Exa Z h2 x SBN := (E.keep K1).keep K2
  have Fc2 : Fld Z h2 x ASB "coder" "B" (.int 0) := (Fc.keep K1 nin0).other W2 (Or.inr nq1)
  refine Run.putfield F (w58 hw) Via.refl Fc2 E2 g (Or.inl (w59 hw)) (w32 hw) (ty := .byte) (by decide) (v' := .int 0) rfl rfl d9_19 ?_
  intro h3 W3 K3 hs3 F3
  refine Run.goto F d9_22 (t := 38) rfl ?_
  have K13 : Keep h h3 [x] := ((K1.mono (ws' := [x]) (by simp)).trans K2 (allS (Or.inl mem1) all0)).trans K3 (allS (Or.inl mem1) all0)
  refine Run.return_ F (by decide) (by decide) d9_38 ⟨b, ⟨E2.keep K3, F2.other W3 (Or.inr n4), F3, ((Fn.keep K1 nin0).other W2 (Or.inr nq2)).other W3 (Or.inr n5), ((Fm.keep K1 nin0).other W2 (Or.inr nq3)).other W3 (Or.inr n6), (E1.keep K2).keep K3, List.replicate cap (.int 0), by simp, (A1.keep K2 (ninS hbx nin0)).keep K3 (ninS hbx nin0)⟩, K13, by omega, rfl⟩
set_option maxRecDepth 65536 in
set_option maxHeartbeats 4000000 in
theorem c_sbInit (l : Launch) (Z : State) (n0 : Nat) (a0 : Array Value) (hw : ∀ d ∈ tables_1, d.before a0 Z = true) (x : Nat) (cap : Nat) {cz : Int32} (SC : Sta Z Z.heap "java/lang/String" "COMPACT_STRINGS" "Z" (.int cz)) (hcz : cz.toInt ≠ 0) (h : Heap) (Ls : Lits) (hO : Old Z n0 h) (E : Exa Z h x SBN) (Fv : Fld Z h x ASB "value" "[B" .null) (Fc : Fld Z h x ASB "coder" "B" (.int 0)) (Fn : Fld Z h x ASB "count" "I" (.int 0)) (Fm : Fld Z h x ASB "maybeLatin1" "Z" (.int 0)) (g : n0 ≤ x) (hcap : cap ≤ 18) :
    Con l Z n0 (⟨"java/lang/StringBuilder", "<init>", "(I)V"⟩ : MethodName) jdk_67_method_2_code 2 none ({ frames := 2, cells := 1, slots := 18, locals := 25 } : Room) [.ref x, .int (Int32.ofNat cap)] h Ls [] (RN fun h' Ls' => ∃ v : Nat, Sb Z h' x v false cap [] ∧ Keep h h' [x] ∧ h.size ≤ v ∧ Ls = Ls') := by
  refine Con.of_run (plainFor_of_name pn5) hO ?_
  intro p e s m below meth c F hs
  refine ⟨[.val (.ref x), .val (.int (Int32.ofNat cap))], by first | rfl | (simp [entryFrame, mkF, argsToLocals, Value.category]; done) | (rcases ref_cases hv with rfl | ⟨va, rfl⟩ <;> rfl), ?_⟩
  refine Run.aloadN F d8_0 rfl rfl ?_
  refine Run.iloadN F d8_1 rfl ?_
  refine Run.callInit F (w48 hw) (w49 hw) (w52 hw) (w53 hw) (c_asbInit l Z n0 a0 hw x cap SC hcz h Ls hO E Fv Fc Fn Fm g hcap) rfl rfl pd17 rfl rfl rfl rfl (by decide) (by decide) rfl d8_2 ?_
  rintro _ h1 _ ⟨rfl, hq⟩ _ _
  exact Run.return_ F (by decide) (by decide) d8_5 hq
set_option maxRecDepth 65536 in
set_option maxHeartbeats 4000000 in
theorem c_asbAppC (l : Launch) (Z : State) (n0 : Nat) (a0 : Array Value) (hw : ∀ d ∈ tables_1, d.before a0 Z = true) (x v : Nat) (u : Bool) (cap : Nat) (ds : List Int32) (ch : Int32) {cz : Int32} (SC : Sta Z Z.heap "java/lang/String" "COMPACT_STRINGS" "Z" (.int cz)) (hcz : cz.toInt ≠ 0) {sf : Value} (SF : Sta Z Z.heap "jdk/internal/util/Preconditions" "SIOOBE_FORMATTER" "Ljava/util/function/BiFunction;" sf) (hsf : sf.isRef = true) (UA : Sta Z Z.heap "java/lang/StringUTF16" "$assertionsDisabled" "Z" (.int 1)) (UH : Sta Z Z.heap "java/lang/StringUTF16" "HI_BYTE_SHIFT" "I" (.int 0)) (UL : Sta Z Z.heap "java/lang/StringUTF16" "LO_BYTE_SHIFT" "I" (.int 8)) (h : Heap) (Ls : Lits) (hO : Old Z n0 h) (S : Sb Z h x v u cap ds) (g : n0 ≤ x) (gv : n0 ≤ v) (hcap : cap ≤ wd u * 18) (hds : ds.length < 8) (hla : u = false → ∀ c ∈ ds, 0 ≤ c.toInt ∧ c.toInt < 256) (hch : 0 ≤ ch.toInt ∧ ch.toInt < 65536) :
    Con l Z n0 (⟨"java/lang/AbstractStringBuilder", "append", "(C)Ljava/lang/AbstractStringBuilder;"⟩ : MethodName) jdk_68_method_31_code 2 (some (.object "java/lang/AbstractStringBuilder")) ({ frames := 6, cells := 2, slots := 72, locals := 89 } : Room) [.ref x, .int ch] h Ls [] (RV fun w h' Ls' => w = .ref x ∧ ∃ v' cap' : Nat, Sb Z h' x v' (u || !decide (ch.toInt < 256)) cap' (ds ++ [ch]) ∧ cap' ≤ wd (u || !decide (ch.toInt < 256)) * 18 ∧ Keep h h' [x, v] ∧ (v' = v ∨ h.size ≤ v') ∧ Ls = Ls') := by
  refine Con.of_run (plainFor_of_name pn4) hO ?_
  intro p e s m below meth c F hs
  refine ⟨[.val (.ref x), .val (.int ch)], by first | rfl | (simp [entryFrame, mkF, argsToLocals, Value.category]; done) | (rcases ref_cases hv with rfl | ⟨va, rfl⟩ <;> rfl), ?_⟩
  have nq1 : Jvm.RoadKit.slotOf Z ASB "value" "[B" ≠ Jvm.RoadKit.slotOf Z ASB "count" "I" := slot_ne (a0 := a0) (C := "java/lang/StringBuilder") (Or.inl (w57 hw)) (Or.inl (w87 hw)) (by decide) (t := (.array .byte)) (t' := .int) (by decide) (by decide)
  have nq2 : Jvm.RoadKit.slotOf Z ASB "coder" "B" ≠ Jvm.RoadKit.slotOf Z ASB "count" "I" := slot_ne (a0 := a0) (C := "java/lang/StringBuilder") (Or.inl (w59 hw)) (Or.inl (w87 hw)) (by decide) (t := .byte) (t' := .int) (by decide) (by decide)
  have nq3 : Jvm.RoadKit.slotOf Z ASB "maybeLatin1" "Z" ≠ Jvm.RoadKit.slotOf Z ASB "count" "I" := slot_ne (a0 := a0) (C := "java/lang/StringBuilder") (Or.inl (w282 hw)) (Or.inl (w87 hw)) (by decide) (t := .boolean) (t' := .int) (by decide) (by decide)
  refine Run.aloadN F d30_0 rfl rfl ?_
  refine Run.aloadN F d30_1 rfl rfl ?_
  refine Run.getfield F (host := "") (Or.inl (w86 hw)) Via.refl S.2.2.2.1 d30_2 ?_
  refine Run.iconst F d30_5 (z := 1) rfl ?_
  refine Run.iadd F d30_6 ?_
  simp only [Jvm.Free.XT.succ32]
  refine Run.callVirtual F (w158 hw) (decl_of (w159 hw) (w162 hw)) (fun U hU => notFace_of_selects (args := #[]) (mvT hU (w161 hw))) (w161 hw) (w159 hw) (w52 hw) (w162 hw) S.1 (c_ensure l Z n0 a0 hw x v u cap (ds.length + 1) ds h Ls hO S g (by omega) hcap) rfl pd17 rfl rfl rfl rfl (by decide) (by decide) rfl d30_7 ?_
  rintro _ h1 _ ⟨rfl, v1, cap1, S1, hc1, hc1', K1, hv1, rfl⟩ hO1 hz1
  show Run _ _ _ _ _ _ _ _ _ _ _ _ _ _ _ _ _ _ _ _ []
  have gv1 : n0 ≤ v1 := by
    have := hO.2.1
    rcases hv1 with rfl | q
    · exact gv
    · rw [hO.1] at this; omega
  refine Run.aloadN F d30_10 rfl rfl ?_
  refine Run.callVirtual F (w163 hw) (w89 hw) (fun U hU => notFace_of_selects (args := #[]) (mvT hU (w91 hw))) (w91 hw) (w90 hw) (w52 hw) (w92 hw) S1.1 (c_asbLatin1 l Z n0 a0 hw x u SC hcz h1 Ls hO1 S1.2.2.1) rfl pd7 rfl rfl rfl rfl (by decide) (by decide) rfl d30_11 ?_
  rintro _ _ _ ⟨_, rfl, rfl, rfl, rfl⟩ _ _
  refine Run.via (pcJ := 45) (fun h' k n Ls' L st => h1 = h' ∧ k = 1 ∧ n = 36 ∧ Ls = Ls' ∧ L = [.val (.ref x), .val (.int ch)] ∧ st = [] ∧ (u || !decide (ch.toInt < 256)) = true) ?_ ?_
  · rintro _ _ _ _ _ _ ⟨rfl, rfl, rfl, rfl, rfl, rfl, hu⟩
    rw [hu]
    refine Run.via (pcJ := 56) (fun h' k n Ls' L st => ∃ v2 cap2 : Nat, Sb Z h' x v2 true cap2 ds ∧ Old Z n0 h' ∧ n0 ≤ v2 ∧ 2 * (ds.length + 1) ≤ cap2 ∧ cap2 ≤ wd true * 18 ∧ Keep h1 h' [x] ∧ (v2 = v1 ∨ h1.size ≤ v2) ∧ k ≤ 2 ∧ n ≤ 72 ∧ Ls = Ls' ∧ L = [.val (.ref x), .val (.int ch)] ∧ st = []) ?_ ?_
    · rintro h2 k2 n2 _ _ _ ⟨v2, cap2, S2, hO2, gv2, hc2, hc2', K2, hv2, hk2, hn2, rfl, rfl, rfl⟩
      have S2' := S2
      have nxv := S2.ne
      obtain ⟨E, Fv, Fc, Fn, Fm, Ev, tl, ht, A⟩ := S2'
      have w2 : wd true = 2 := rfl
      rw [w2] at ht
      refine Run.aloadN F d30_56 rfl rfl ?_
      refine Run.getfield F (host := "") (Or.inl (w56 hw)) Via.refl Fv d30_57 ?_
      refine Run.aloadN F d30_60 rfl rfl ?_
      refine Run.dup F d30_61 rfl ?_
      refine Run.getfield F (host := "") (Or.inl (w86 hw)) Via.refl Fn d30_62 ?_
      refine Run.dupX1 F d30_65 rfl rfl ?_
      refine Run.iconst F d30_66 (z := 1) rfl ?_
      refine Run.iadd F d30_67 ?_
      simp only [Jvm.Free.XT.succ32]
      refine Run.putfield F (w86 hw) Via.refl Fn E g (Or.inl (w87 hw)) (w32 hw) (ty := .int) (by decide) (v' := .int (Int32.ofNat (ds.length + 1))) rfl rfl d30_68 ?_
      intro h3 W3 K3 hs3 F3
      have hO3 : Old Z n0 h3 := hO2.wr W3 g
      have hxv : v2 ∉ [x] := ninS (Ne.symm nxv) nin0
      obtain ⟨r0, r1, rr, hrr⟩ := two_of (show 2 ≤ tl.length by omega)
      subst hrr
      have hbl : (byts true ds).length = 2 * ds.length := by rw [byts_len]; rfl
      refine Run.iloadN F d30_71 rfl ?_
      refine Run.callStatic F (w278 hw) (w279 hw) (w113 hw) (w280 hw) (c_putSB l Z n0 a0 hw v2 ds.length ch (byts true ds ++ r0 :: r1 :: rr) SF hsf UA UH UL h3 Ls hO3 (A.keep K3 hxv) gv2 (by rw [List.length_append, hbl, List.length_cons, List.length_cons]; omega)) rfl pd12 rfl rfl rfl rfl (by show k2 + 0 ≤ 2; omega) (by show n2 + 0 ≤ 72; omega) rfl d30_72 ?_
      rintro _ h4 _ ⟨rfl, K4, s4, A4, rfl⟩ hO4 _
      show Run _ _ _ _ _ _ _ _ _ _ _ _ _ _ _ _ _ _ _ _ []
      rw [set2 hbl] at A4
      have hxv4 : x ∉ [v2] := ninS nxv nin0
      have hln : Int32.ofNat (ds ++ [ch]).length = Int32.ofNat (ds.length + 1) := by simp
      have S4 : Sb Z h4 x v2 true cap2 (ds ++ [ch]) := ⟨(E.keep K3).keep K4, (Fv.other W3 (Or.inr nq1)).keep K4 hxv4, (Fc.other W3 (Or.inr nq2)).keep K4 hxv4, by rw [hln]; exact F3.keep K4 hxv4, (Fm.other W3 (Or.inr nq3)).keep K4 hxv4, (Ev.keep K3).keep K4, rr, by rw [w2]; simp at ht ⊢; omega, by rw [byts_app, List.append_assoc]; exact A4⟩
      have hfin : v2 = v ∨ h.size ≤ v2 := by
        have := K1.1
        rcases hv2 with rfl | q
        · exact hv1
        · exact Or.inr (by omega)
      have K02 : Keep h h2 [x] := K1.trans K2 (allS (Or.inl mem1) all0)
      have K04 : Keep h h4 [x, v] := ((K02.mono (ws' := [x, v]) (by simp)).trans K3 (allS (Or.inl mem2) all0)).trans K4 (allS (hfin.elim (fun q => Or.inl (q ▸ mem3)) Or.inr) all0)
      refine Run.aloadN F d30_75 rfl rfl ?_
      exact Run.areturn F rfl rfl (by show k2 + 0 ≤ 2; omega) (by show n2 + 0 ≤ 72; omega) d30_76 ⟨rfl, v2, cap2, S4, hc2', K04, hfin, rfl⟩
    · intro J
      refine Run.aloadN F d30_45 rfl rfl ?_
      refine Run.callVirtual F (w163 hw) (w89 hw) (fun U hU => notFace_of_selects (args := #[]) (mvT hU (w91 hw))) (w91 hw) (w90 hw) (w52 hw) (w92 hw) S1.1 (c_asbLatin1 l Z n0 a0 hw x u SC hcz h1 Ls hO1 S1.2.2.1) rfl pd7 rfl rfl rfl rfl (by decide) (by decide) rfl d30_46 ?_
      rintro _ _ _ ⟨_, rfl, rfl, rfl, rfl⟩ _ _
      cases u
      · refine Run.ifB_eq F d30_49 (t := 56) rfl (fun q => absurd q (by decide)) (fun _ => ?_)
        refine Run.aloadN F d30_52 rfl rfl ?_
        have hc8 : cap1 ≤ 18 := by simpa [wd] using hc1'
        refine Run.callVirtual F (w257 hw) (decl_of (w258 hw) (w261 hw)) (fun U hU => notFace_of_selects (args := #[]) (mvT hU (w260 hw))) (w260 hw) (w258 hw) (w52 hw) (w261 hw) S1.1 (c_asbInflF l Z n0 a0 hw x v1 cap1 ds SC hcz SF hsf UA UH UL h1 Ls hO1 S1 g hc8 (hla rfl)) rfl pd18 rfl rfl rfl rfl (by decide) (by decide) rfl d30_53 ?_
        rintro _ h2 _ ⟨rfl, v2, S2, K2, hv2, rfl⟩ hO2 _
        have g2 : n0 ≤ v2 := by have := hO1.2.1; rw [hO1.1] at this; omega
        have hc9 : 2 * (ds.length + 1) ≤ 2 * cap1 := by
          have q8 : wd false = 1 := rfl
          rw [q8] at hc1
          omega
        exact J _ _ _ _ _ _ ⟨v2, 2 * cap1, S2, hO2, g2, hc9, by show 2 * cap1 ≤ 2 * 18; omega, K2, Or.inr hv2, by decide, by decide, rfl, rfl, rfl⟩
      · refine Run.ifB_eq F d30_49 (t := 56) rfl (fun _ => ?_) (fun q => absurd q (by decide))
        exact J _ _ _ _ _ _ ⟨v1, cap1, S1, hO1, gv1, hc1, hc1', Keep.refl _ _, Or.inl rfl, by decide, by decide, rfl, rfl, rfl⟩
  · intro J
    cases u
    · refine Run.ifB_eq F d30_14 (t := 45) rfl (fun q => absurd q (by decide)) (fun _ => ?_)
      refine Run.iloadN F d30_17 rfl ?_
      refine Run.callStatic F (w164 hw) (w165 hw) (w139 hw) (w166 hw) (c_canEncode l Z n0 a0 hw ch h1 Ls hO1) rfl pd19 rfl rfl rfl rfl (by decide) (by decide) rfl d30_18 ?_
      rintro _ _ _ ⟨_, rfl, rfl, rfl, rfl⟩ _ _
      refine Run.ifB_eq F d30_21 (t := 45) rfl (fun q => ?_) (fun q => ?_)
      · exact J _ _ _ _ _ _ ⟨rfl, rfl, rfl, rfl, rfl, rfl, by rw [q]; rfl⟩
      · have hlt := of_decide_eq_true q
        have nxv := S1.ne
        obtain ⟨E, Fv, Fc, Fn, Fm, Ev, tl, ht, A⟩ := S1
        have w1 : wd false = 1 := rfl
        rw [w1] at ht
        have hcc : ds.length + 1 ≤ cap1 := by simpa [wd] using hc1
        obtain ⟨r0, rr, hrr⟩ := one_of (show 1 ≤ tl.length by omega)
        subst hrr
        refine Run.aloadN F d30_24 rfl rfl ?_
        refine Run.getfield F (host := "") (Or.inl (w56 hw)) Via.refl Fv d30_25 ?_
        refine Run.aloadN F d30_28 rfl rfl ?_
        refine Run.dup F d30_29 rfl ?_
        refine Run.getfield F (host := "") (Or.inl (w86 hw)) Via.refl Fn d30_30 ?_
        refine Run.dupX1 F d30_33 rfl rfl ?_
        refine Run.iconst F d30_34 (z := 1) rfl ?_
        refine Run.iadd F d30_35 ?_
        simp only [Jvm.Free.XT.succ32]
        refine Run.putfield F (w86 hw) Via.refl Fn E g (Or.inl (w87 hw)) (w32 hw) (ty := .int) (by decide) (v' := .int (Int32.ofNat (ds.length + 1))) rfl rfl d30_36 ?_
        intro h3 W3 K3 hs3 F3
        have hxv : v1 ∉ [x] := ninS (Ne.symm nxv) nin0
        refine Run.iloadN F d30_39 rfl ?_
        refine Run.i2b F d30_40 ?_
        have hbl : (byts false ds).length = ds.length := by rw [byts_len]; simp [wd]
        refine Run.bastore F (A.keep K3 hxv) gv1 (i32_nn (by omega)) (i32_tn (by omega)) (by rw [List.length_append, hbl, List.length_cons]; omega) (narB ch) d30_41 ?_
        intro h4 W4 K4 s4 A4
        rw [set1 hbl] at A4
        have hxv4 : x ∉ [v1] := ninS nxv nin0
        have hln : Int32.ofNat (ds ++ [ch]).length = Int32.ofNat (ds.length + 1) := by simp
        have S4 : Sb Z h4 x v1 false cap1 (ds ++ [ch]) := ⟨(E.keep K3).keep K4, (Fv.other W3 (Or.inr nq1)).keep K4 hxv4, (Fc.other W3 (Or.inr nq2)).keep K4 hxv4, by rw [hln]; exact F3.keep K4 hxv4, (Fm.other W3 (Or.inr nq3)).keep K4 hxv4, (Ev.keep K3).keep K4, rr, by rw [w1]; simp at ht ⊢; omega, by rw [byts_app, List.append_assoc]; exact A4⟩
        have K04 : Keep h h4 [x, v] := ((K1.mono (ws' := [x, v]) (by simp)).trans K3 (allS (Or.inl mem2) all0)).trans K4 (allS (hv1.elim (fun q => Or.inl (q ▸ mem3)) Or.inr) all0)
        have eu : (false || !decide (ch.toInt < 256)) = false := by rw [q]; rfl
        refine Run.goto F d30_42 (t := 75) rfl ?_
        refine Run.aloadN F d30_75 rfl rfl ?_
        exact Run.areturn F rfl rfl (by decide) (by decide) d30_76 ⟨rfl, v1, cap1, by rw [eu]; exact S4, by rw [eu]; exact hc1', K04, hv1, rfl⟩
    · refine Run.ifB_eq F d30_14 (t := 45) rfl (fun _ => ?_) (fun q => absurd q (by decide))
      exact J _ _ _ _ _ _ ⟨rfl, rfl, rfl, rfl, rfl, rfl, rfl⟩
set_option maxRecDepth 65536 in
set_option maxHeartbeats 4000000 in
theorem c_sbAppC (l : Launch) (Z : State) (n0 : Nat) (a0 : Array Value) (hw : ∀ d ∈ tables_1, d.before a0 Z = true) (x v : Nat) (u : Bool) (cap : Nat) (ds : List Int32) (ch : Int32) {cz : Int32} (SC : Sta Z Z.heap "java/lang/String" "COMPACT_STRINGS" "Z" (.int cz)) (hcz : cz.toInt ≠ 0) {sf : Value} (SF : Sta Z Z.heap "jdk/internal/util/Preconditions" "SIOOBE_FORMATTER" "Ljava/util/function/BiFunction;" sf) (hsf : sf.isRef = true) (UA : Sta Z Z.heap "java/lang/StringUTF16" "$assertionsDisabled" "Z" (.int 1)) (UH : Sta Z Z.heap "java/lang/StringUTF16" "HI_BYTE_SHIFT" "I" (.int 0)) (UL : Sta Z Z.heap "java/lang/StringUTF16" "LO_BYTE_SHIFT" "I" (.int 8)) (h : Heap) (Ls : Lits) (hO : Old Z n0 h) (S : Sb Z h x v u cap ds) (g : n0 ≤ x) (gv : n0 ≤ v) (hcap : cap ≤ wd u * 18) (hds : ds.length < 8) (hla : u = false → ∀ c ∈ ds, 0 ≤ c.toInt ∧ c.toInt < 256) (hch : 0 ≤ ch.toInt ∧ ch.toInt < 65536) :
    Con l Z n0 (⟨"java/lang/StringBuilder", "append", "(C)Ljava/lang/StringBuilder;"⟩ : MethodName) jdk_67_method_14_code 2 (some (.object "java/lang/StringBuilder")) ({ frames := 7, cells := 2, slots := 72, locals := 102 } : Room) [.ref x, .int ch] h Ls [] (RV fun w h' Ls' => w = .ref x ∧ ∃ v' cap' : Nat, Sb Z h' x v' (u || !decide (ch.toInt < 256)) cap' (ds ++ [ch]) ∧ cap' ≤ wd (u || !decide (ch.toInt < 256)) * 18 ∧ Keep h h' [x, v] ∧ (v' = v ∨ h.size ≤ v') ∧ Ls = Ls') := by
  refine Con.of_run (plainFor_of_name pn5) hO ?_
  intro p e s m below meth c F hs
  refine ⟨[.val (.ref x), .val (.int ch)], by first | rfl | (simp [entryFrame, mkF, argsToLocals, Value.category]; done) | (rcases ref_cases hv with rfl | ⟨va, rfl⟩ <;> rfl), ?_⟩
  refine Run.aloadN F d29_0 rfl rfl ?_
  refine Run.iloadN F d29_1 rfl ?_
  refine Run.callSuper F (w154 hw) (same_own (w156 hw) (((fun U hU => nf_cls (a := #[]) (mvT hU (w75 hw)) (mvT hU (w73 hw)) rfl) : ∀ U : State, Z.Warmed39 U.vm → NotFace U ⟨"java/lang/AbstractStringBuilder", "append", "(C)Ljava/lang/AbstractStringBuilder;"⟩) Z (State.Warmed39.refl Z)) rfl) (w155 hw) (w84 hw) (w52 hw) (w157 hw) (Ins.of_exa S.1 (w51 hw)) (c_asbAppC l Z n0 a0 hw x v u cap ds ch SC hcz SF hsf UA UH UL h Ls hO S g gv hcap hds hla hch) (by decide) pd20 rfl rfl rfl rfl (by decide) (by decide) rfl d29_2 ?_
  rintro _ h1 _ ⟨_, rfl, rfl, hq⟩ _ _
  refine Run.pop F d29_5 rfl ?_
  refine Run.aloadN F d29_6 rfl rfl ?_
  exact Run.areturn F rfl rfl (by decide) (by decide) d29_7 ⟨rfl, hq⟩
set_option maxRecDepth 65536 in
set_option maxHeartbeats 4000000 in
theorem c_getBytes (l : Launch) (Z : State) (n0 : Nat) (a0 : Array Value) (hw : ∀ d ∈ tables_1, d.before a0 Z = true) (y b t : Nat) (u : Bool) (cs : List Int32) (o : Nat) (pr rs : List Value) {cz : Int32} (SC : Sta Z Z.heap "java/lang/String" "COMPACT_STRINGS" "Z" (.int cz)) (hcz : cz.toInt ≠ 0) {sf : Value} (SF : Sta Z Z.heap "jdk/internal/util/Preconditions" "SIOOBE_FORMATTER" "Ljava/util/function/BiFunction;" sf) (hsf : sf.isRef = true) (UA : Sta Z Z.heap "java/lang/StringUTF16" "$assertionsDisabled" "Z" (.int 1)) (UH : Sta Z Z.heap "java/lang/StringUTF16" "HI_BYTE_SHIFT" "I" (.int 0)) (UL : Sta Z Z.heap "java/lang/StringUTF16" "LO_BYTE_SHIFT" "I" (.int 8)) (h : Heap) (Ls : Lits) (hO : Old Z n0 h) (S : Str Z h y b 0 (cs.map lb)) (Ad : Av Z h t .byte (pr ++ rs)) (g : n0 ≤ t) (hbt : b ≠ t) (hpr : pr.length = wd u * o) (hrs : wd u * cs.length ≤ rs.length) (hcs : ∀ c ∈ cs, 0 ≤ c.toInt ∧ c.toInt < 256) :
    Con l Z n0 (⟨"java/lang/String", "getBytes", "([BIB)V"⟩ : MethodName) jdk_42_method_147_code 4 none ({ frames := 5, cells := 0, slots := 0, locals := 76 } : Room) [.ref y, .ref t, .int (Int32.ofNat o), .int (b2i u)] h Ls [] (RN fun h' Ls' => Keep h h' [t] ∧ Av Z h' t .byte (pr ++ byts u cs ++ rs.drop (wd u * cs.length)) ∧ Ls = Ls') := by
  refine Con.of_run (plainFor_of_name pn0) hO ?_
  intro p e s m below meth c F hs
  refine ⟨[.val (.ref y), .val (.ref t), .val (.int (Int32.ofNat o)), .val (.int (b2i u))], by first | rfl | (simp [entryFrame, mkF, argsToLocals, Value.category]; done) | (rcases ref_cases hv with rfl | ⟨va, rfl⟩ <;> rfl), ?_⟩
  have hld := Ad.len
  rw [List.length_append] at hld
  refine Run.aloadN F d37_0 rfl rfl ?_
  refine Run.callVirtual F (w39 hw) (w40 hw) (fun U hU => notFace_of_selects (args := #[]) (mvT hU (w42 hw))) (w42 hw) (w41 hw) (w7 hw) (w43 hw) S.1 (c_coder l Z n0 a0 hw y 0 SC hcz h Ls hO S.2.1 rfl) rfl pd0 rfl rfl rfl rfl (by decide) (by decide) rfl d37_1 ?_
  rintro _ _ _ ⟨_, rfl, rfl, rfl, rfl⟩ _ _
  refine Run.iloadN F d37_4 rfl ?_
  cases u
  · refine Run.icmpNo F d37_5 rfl ?_
    have w1 : wd false = 1 := rfl
    rw [w1] at hpr hrs ⊢
    have e0 : Int32.ofNat o <<< (b2i false &&& 31) = Int32.ofNat (1 * o) := by
      apply Int32.toInt_inj.mp
      have f1 : ((Int32.ofNat o <<< (b2i false &&& 31)).toInt - (Int32.ofNat o).toInt * (2 ^ 0 : Nat)) % 4294967296 = 0 := c_ishl (Int32.ofNat o) 0 0 (by decide)
      have f2 := rng32 (Int32.ofNat o <<< (b2i false &&& 31))
      rw [Nat.one_mul, i32_ti (i := o) (by omega)]
      rw [i32_ti (i := o) (by omega)] at f1
      simp only [Nat.pow_zero] at f1
      omega
    refine Run.aloadN F d37_8 rfl rfl ?_
    refine Run.getfield F (host := "") (Or.inl (w25 hw)) Via.refl S.2.2.1 d37_9 ?_
    refine Run.iconst F d37_12 (z := 0) rfl ?_
    refine Run.aloadN F d37_13 rfl rfl ?_
    refine Run.iloadN F d37_14 rfl ?_
    refine Run.iloadN F d37_15 rfl ?_
    refine Run.ishl F d37_16 ?_
    rw [e0]
    refine Run.aloadN F d37_17 rfl rfl ?_
    refine Run.getfield F (host := "") (Or.inl (w25 hw)) Via.refl S.2.2.1 d37_18 ?_
    refine Run.arrlen F S.2.2.2 d37_21 ?_
    rw [List.length_map]
    refine Run.arraycopy F (w194 hw) (w197 hw) (w195 hw) (w196 hw) S.2.2.2 Ad rfl g (sp := 0) rfl (dp := 1 * o) (i32_ti (by omega)) (nn := cs.length) (i32_ti (by omega)) (by simp) (by rw [List.length_append]; omega) (us := cs.map lb) (by rw [List.drop_zero]; exact List.take_of_length_le (by simp)) rfl rfl rfl d37_22 ?_
    intro h1 K1 A1
    refine Run.goto F d37_25 (t := 43) rfl ?_
    refine Run.return_ F (by decide) (by decide) d37_43 ⟨K1, ?_, rfl⟩
    rw [← hpr, List.take_left, List.drop_append] at A1
    have e4 : pr.length + cs.length - pr.length = 1 * cs.length := by omega
    rw [e4, List.drop_eq_nil_of_le (by omega), List.nil_append] at A1
    exact A1
  · refine Run.icmpYes F d37_5 (t := 28) rfl rfl ?_
    have w1 : wd true = 2 := rfl
    rw [w1] at hpr hrs ⊢
    refine Run.aloadN F d37_28 rfl rfl ?_
    refine Run.getfield F (host := "") (Or.inl (w25 hw)) Via.refl S.2.2.1 d37_29 ?_
    refine Run.iconst F d37_32 (z := 0) rfl ?_
    refine Run.aloadN F d37_33 rfl rfl ?_
    refine Run.iloadN F d37_34 rfl ?_
    refine Run.aloadN F d37_35 rfl rfl ?_
    refine Run.getfield F (host := "") (Or.inl (w25 hw)) Via.refl S.2.2.1 d37_36 ?_
    refine Run.arrlen F S.2.2.2 d37_39 ?_
    rw [List.length_map]
    refine Run.callStatic F (w283 hw) (w264 hw) (w139 hw) (w265 hw) (c_l1inf l Z n0 a0 hw b t cs o [] pr rs SF hsf UA UH UL h Ls hO (by simpa using S.2.2.2) Ad g hbt hpr hrs hcs) rfl pd15 rfl rfl rfl rfl (by decide) (by decide) rfl d37_40 ?_
    rintro _ h1 _ ⟨rfl, K1, A1, rfl⟩ _ _
    exact Run.return_ F (by decide) (by decide) d37_43 ⟨K1, A1, rfl⟩
set_option maxRecDepth 65536 in
set_option maxHeartbeats 4000000 in
theorem c_inflIf (l : Launch) (Z : State) (n0 : Nat) (a0 : Array Value) (hw : ∀ d ∈ tables_1, d.before a0 Z = true) (x y : Nat) (u : Bool) {cz : Int32} (SC : Sta Z Z.heap "java/lang/String" "COMPACT_STRINGS" "Z" (.int cz)) (hcz : cz.toInt ≠ 0) (h : Heap) (Ls : Lits) (hO : Old Z n0 h) (E : Exa Z h x SBN) (Fc : Fld Z h x ASB "coder" "B" (.int (b2i u))) (Ey : Exa Z h y "java/lang/String") (Fy : Fld Z h y "java/lang/String" "coder" "B" (.int 0)) :
    Con l Z n0 (⟨"java/lang/AbstractStringBuilder", "inflateIfNeededFor", "(Ljava/lang/String;)V"⟩ : MethodName) jdk_68_method_71_code 2 none ({ frames := 2, cells := 0, slots := 0, locals := 25 } : Room) [.ref x, .ref y] h Ls [] (RN fun h' Ls' => h = h' ∧ Ls = Ls') := by
  refine Con.of_run (plainFor_of_name pn4) hO ?_
  intro p e s m below meth c F hs
  refine ⟨[.val (.ref x), .val (.ref y)], by first | rfl | (simp [entryFrame, mkF, argsToLocals, Value.category]; done) | (rcases ref_cases hv with rfl | ⟨va, rfl⟩ <;> rfl), ?_⟩
  refine Run.getstatic F (w55 hw) Via.refl SC d36_0 ?_
  refine Run.if_eq F d36_3 (t := 21) rfl rfl (fun q => absurd q hcz) (fun _ => ?_)
  refine Run.aloadN F d36_6 rfl rfl ?_
  refine Run.getfield F (host := "") (Or.inl (w58 hw)) Via.refl Fc d36_7 ?_
  refine Run.aloadN F d36_10 rfl rfl ?_
  refine Run.callVirtual F (w188 hw) (w40 hw) (fun U hU => notFace_of_selects (args := #[]) (mvT hU (w42 hw))) (w42 hw) (w41 hw) (w7 hw) (w43 hw) Ey (c_coder l Z n0 a0 hw y 0 SC hcz h Ls hO Fy rfl) rfl pd0 rfl rfl rfl rfl (by decide) (by decide) rfl d36_11 ?_
  rintro _ _ _ ⟨_, rfl, rfl, rfl, rfl⟩ _ _
  cases u
  · refine Run.icmpYes F d36_14 (t := 21) rfl rfl ?_
    exact Run.return_ F (by decide) (by decide) d36_21 ⟨rfl, rfl⟩
  · refine Run.icmpNo F d36_14 rfl ?_
    refine Run.aloadN F d36_17 rfl rfl ?_
    refine Run.callVirtual F (w257 hw) (decl_of (w258 hw) (w261 hw)) (fun U hU => notFace_of_selects (args := #[]) (mvT hU (w260 hw))) (w260 hw) (w258 hw) (w52 hw) (w261 hw) E (c_asbInflT l Z n0 a0 hw x SC hcz h Ls hO E Fc) rfl pd18 rfl rfl rfl rfl (by decide) (by decide) rfl d36_18 ?_
    rintro _ _ _ ⟨rfl, rfl, rfl⟩ _ _
    exact Run.return_ F (by decide) (by decide) d36_21 ⟨rfl, rfl⟩
set_option maxRecDepth 65536 in
set_option maxHeartbeats 4000000 in
theorem c_putAt (l : Launch) (Z : State) (n0 : Nat) (a0 : Array Value) (hw : ∀ d ∈ tables_1, d.before a0 Z = true) (x v y b : Nat) (u : Bool) (cap : Nat) (ds cs : List Int32) {cz : Int32} (SC : Sta Z Z.heap "java/lang/String" "COMPACT_STRINGS" "Z" (.int cz)) (hcz : cz.toInt ≠ 0) {sf : Value} (SF : Sta Z Z.heap "jdk/internal/util/Preconditions" "SIOOBE_FORMATTER" "Ljava/util/function/BiFunction;" sf) (hsf : sf.isRef = true) (UA : Sta Z Z.heap "java/lang/StringUTF16" "$assertionsDisabled" "Z" (.int 1)) (UH : Sta Z Z.heap "java/lang/StringUTF16" "HI_BYTE_SHIFT" "I" (.int 0)) (UL : Sta Z Z.heap "java/lang/StringUTF16" "LO_BYTE_SHIFT" "I" (.int 8)) (h : Heap) (Ls : Lits) (hO : Old Z n0 h) (S : Sb Z h x v u cap ds) (T : Str Z h y b 0 (cs.map lb)) (g : n0 ≤ x) (gv : n0 ≤ v) (hbv : b ≠ v) (hcs : ∀ c ∈ cs, 0 ≤ c.toInt ∧ c.toInt < 256) (hroom : wd u * (ds.length + cs.length) ≤ cap) :
    Con l Z n0 (⟨"java/lang/AbstractStringBuilder", "putStringAt", "(ILjava/lang/String;)V"⟩ : MethodName) jdk_68_method_73_code 3 none ({ frames := 6, cells := 0, slots := 0, locals := 91 } : Room) [.ref x, .int (Int32.ofNat ds.length), .ref y] h Ls [] (RN fun h' Ls' => Keep h h' [v] ∧ (∃ tl : List Value, tl.length + wd u * (ds.length + cs.length) = cap ∧ Av Z h' v .byte (byts u (ds ++ cs) ++ tl)) ∧ Ls = Ls') := by
  refine Con.of_run (plainFor_of_name pn4) hO ?_
  intro p e s m below meth c F hs
  refine ⟨[.val (.ref x), .val (.int (Int32.ofNat ds.length)), .val (.ref y)], by first | rfl | (simp [entryFrame, mkF, argsToLocals, Value.category]; done) | (rcases ref_cases hv with rfl | ⟨va, rfl⟩ <;> rfl), ?_⟩
  obtain ⟨E, Fv, Fc, Fn, Fm, Ev, tl, ht, A⟩ := S
  have hm : wd u * (ds.length + cs.length) = wd u * ds.length + wd u * cs.length := Nat.mul_add _ _ _
  refine Run.aloadN F d35_0 rfl rfl ?_
  refine Run.aloadN F d35_1 rfl rfl ?_
  refine Run.callVirtual F (w183 hw) (decl_of (w184 hw) (w187 hw)) (fun U hU => notFace_of_selects (args := #[]) (mvT hU (w186 hw))) (w186 hw) (w184 hw) (w52 hw) (w187 hw) E (c_inflIf l Z n0 a0 hw x y u SC hcz h Ls hO E Fc T.1 T.2.1) rfl pd21 rfl rfl rfl rfl (by decide) (by decide) rfl d35_2 ?_
  rintro _ _ _ ⟨rfl, rfl, rfl⟩ _ _
  show Run _ _ _ _ _ _ _ _ _ _ _ _ _ _ _ _ _ _ _ _ []
  refine Run.aloadN F d35_5 rfl rfl ?_
  refine Run.aloadN F d35_6 rfl rfl ?_
  refine Run.getfield F (host := "") (Or.inl (w56 hw)) Via.refl Fv d35_7 ?_
  refine Run.iloadN F d35_10 rfl ?_
  refine Run.aloadN F d35_11 rfl rfl ?_
  refine Run.getfield F (host := "") (Or.inl (w58 hw)) Via.refl Fc d35_12 ?_
  refine Run.callVirtual F (w189 hw) (w190 hw) (fun U hU => notFace_of_selects (args := #[]) (mvT hU (w192 hw))) (w192 hw) (w191 hw) (w7 hw) (w193 hw) T.1 (c_getBytes l Z n0 a0 hw y b v u cs ds.length (byts u ds) tl SC hcz SF hsf UA UH UL h Ls hO T A gv hbv (byts_len u ds) (by omega) hcs) rfl pd22 rfl rfl rfl rfl (by decide) (by decide) rfl d35_15 ?_
  rintro _ h1 _ ⟨rfl, K1, A1, rfl⟩ _ _
  exact Run.return_ F (by decide) (by decide) d35_18 ⟨K1, ⟨tl.drop (wd u * cs.length), by rw [List.length_drop]; omega, by rw [byts_app]; exact A1⟩, rfl⟩
set_option maxRecDepth 65536 in
set_option maxHeartbeats 4000000 in
theorem c_asbAppS (l : Launch) (Z : State) (n0 : Nat) (a0 : Array Value) (hw : ∀ d ∈ tables_1, d.before a0 Z = true) (x v y b : Nat) (u : Bool) (cap : Nat) (ds cs : List Int32) {cz : Int32} (SC : Sta Z Z.heap "java/lang/String" "COMPACT_STRINGS" "Z" (.int cz)) (hcz : cz.toInt ≠ 0) {sf : Value} (SF : Sta Z Z.heap "jdk/internal/util/Preconditions" "SIOOBE_FORMATTER" "Ljava/util/function/BiFunction;" sf) (hsf : sf.isRef = true) (UA : Sta Z Z.heap "java/lang/StringUTF16" "$assertionsDisabled" "Z" (.int 1)) (UH : Sta Z Z.heap "java/lang/StringUTF16" "HI_BYTE_SHIFT" "I" (.int 0)) (UL : Sta Z Z.heap "java/lang/StringUTF16" "LO_BYTE_SHIFT" "I" (.int 8)) (h : Heap) (Ls : Lits) (hO : Old Z n0 h) (S : Sb Z h x v u cap ds) (T : Str Z h y b 0 (cs.map lb)) (g : n0 ≤ x) (gv : n0 ≤ v) (hbv : b ≠ v) (hcs : ∀ c ∈ cs, 0 ≤ c.toInt ∧ c.toInt < 256) (hby : y ≠ v ∧ y ≠ x ∧ b ≠ x) (hcap : cap ≤ wd u * 18) (hds : ds.length + cs.length ≤ 8) :
    Con l Z n0 (⟨"java/lang/AbstractStringBuilder", "append", "(Ljava/lang/String;)Ljava/lang/AbstractStringBuilder;"⟩ : MethodName) jdk_68_method_22_code 3 (some (.object "java/lang/AbstractStringBuilder")) ({ frames := 7, cells := 1, slots := 36, locals := 105 } : Room) [.ref x, .ref y] h Ls [] (RV fun w h' Ls' => w = .ref x ∧ ∃ v' cap' : Nat, Sb Z h' x v' u cap' (ds ++ cs) ∧ cap' ≤ wd u * 18 ∧ Keep h h' [x, v] ∧ (v' = v ∨ h.size ≤ v') ∧ Ls = Ls') := by
  refine Con.of_run (plainFor_of_name pn4) hO ?_
  intro p e s m below meth c F hs
  refine ⟨[.val (.ref x), .val (.ref y), .unset], by first | rfl | (simp [entryFrame, mkF, argsToLocals, Value.category]; done) | (rcases ref_cases hv with rfl | ⟨va, rfl⟩ <;> rfl), ?_⟩
  have nq1 : Jvm.RoadKit.slotOf Z ASB "value" "[B" ≠ Jvm.RoadKit.slotOf Z ASB "count" "I" := slot_ne (a0 := a0) (C := "java/lang/StringBuilder") (Or.inl (w57 hw)) (Or.inl (w87 hw)) (by decide) (t := (.array .byte)) (t' := .int) (by decide) (by decide)
  have nq2 : Jvm.RoadKit.slotOf Z ASB "coder" "B" ≠ Jvm.RoadKit.slotOf Z ASB "count" "I" := slot_ne (a0 := a0) (C := "java/lang/StringBuilder") (Or.inl (w59 hw)) (Or.inl (w87 hw)) (by decide) (t := .byte) (t' := .int) (by decide) (by decide)
  have nq3 : Jvm.RoadKit.slotOf Z ASB "maybeLatin1" "Z" ≠ Jvm.RoadKit.slotOf Z ASB "count" "I" := slot_ne (a0 := a0) (C := "java/lang/StringBuilder") (Or.inl (w282 hw)) (Or.inl (w87 hw)) (by decide) (t := .boolean) (t' := .int) (by decide) (by decide)
  have hlT := T.2.2.2.len
  rw [List.length_map] at hlT
  have hwl : Int32.ofNat (cs.map lb).length >>> ((0 : Int32) &&& 31) = Int32.ofNat cs.length := by
    have e := shr_b2i false (a := cs.length) hlT
    rw [List.length_map]
    have e2 : cs.length / wd false = cs.length := by simp [wd]
    rw [e2] at e; exact e
  refine Run.aloadN F d34_0 rfl rfl ?_
  refine Run.ifnonnullYes F d34_1 (t := 9) rfl ?_
  refine Run.aloadN F d34_9 rfl rfl ?_
  refine Run.callVirtual F (w177 hw) (w35 hw) (fun U hU => notFace_of_selects (args := #[]) (mvT hU (w37 hw))) (w37 hw) (w36 hw) (w7 hw) (w38 hw) T.1 (c_length l Z n0 a0 hw y b 0 (Int32.ofNat cs.length) (cs.map lb) SC hcz h Ls hO T rfl hwl) rfl pd8 rfl rfl rfl rfl (by decide) (by decide) rfl d34_10 ?_
  rintro _ _ _ ⟨_, rfl, rfl, rfl, rfl⟩ _ _
  refine Run.istoreN F d34_13 rfl ?_
  dsimp only [List.set]
  refine Run.aloadN F d34_14 rfl rfl ?_
  refine Run.aloadN F d34_15 rfl rfl ?_
  refine Run.getfield F (host := "") (Or.inl (w86 hw)) Via.refl S.2.2.2.1 d34_16 ?_
  refine Run.iloadN F d34_19 rfl ?_
  refine Run.iadd F d34_20 ?_
  rw [i32_add (by omega)]
  refine Run.callVirtual F (w158 hw) (decl_of (w159 hw) (w162 hw)) (fun U hU => notFace_of_selects (args := #[]) (mvT hU (w161 hw))) (w161 hw) (w159 hw) (w52 hw) (w162 hw) S.1 (c_ensure l Z n0 a0 hw x v u cap (ds.length + cs.length) ds h Ls hO S g hds hcap) rfl pd17 rfl rfl rfl rfl (by decide) (by decide) rfl d34_21 ?_
  rintro _ h1 _ ⟨rfl, v1, cap1, S1, hc1, hc1', K1, hv1, rfl⟩ hO1 hz1
  show Run _ _ _ _ _ _ _ _ _ _ _ _ _ _ _ _ _ _ _ _ []
  have gv1 : n0 ≤ v1 := by
    have := hO.2.1
    rcases hv1 with rfl | q
    · exact gv
    · rw [hO.1] at this; omega
  have la := T.la
  have lbb := T.lb
  have T1 : Str Z h1 y b 0 (cs.map lb) := T.keep K1 (ninS hby.2.1 nin0) (ninS hby.2.2 nin0)
  have hb1 : b ≠ v1 := by
    rcases hv1 with rfl | q
    · exact hbv
    · omega
  refine Run.aloadN F d34_24 rfl rfl ?_
  refine Run.aloadN F d34_25 rfl rfl ?_
  refine Run.getfield F (host := "") (Or.inl (w86 hw)) Via.refl S1.2.2.2.1 d34_26 ?_
  refine Run.aloadN F d34_29 rfl rfl ?_
  refine Run.callVirtual F (w178 hw) (decl_of (w179 hw) (w182 hw)) (fun U hU => notFace_of_selects (args := #[]) (mvT hU (w181 hw))) (w181 hw) (w179 hw) (w52 hw) (w182 hw) S1.1 (c_putAt l Z n0 a0 hw x v1 y b u cap1 ds cs SC hcz SF hsf UA UH UL h1 Ls hO1 S1 T1 g gv1 hb1 hcs hc1) rfl pd23 rfl rfl rfl rfl (by decide) (by decide) rfl d34_30 ?_
  rintro _ h2 _ ⟨rfl, K2, ⟨tl2, ht2, A2⟩, rfl⟩ hO2 _
  show Run _ _ _ _ _ _ _ _ _ _ _ _ _ _ _ _ _ _ _ _ []
  have nxv := S1.ne
  have hx2 : x ∉ [v1] := ninS nxv nin0
  obtain ⟨E, Fv, Fc, Fn, Fm, Ev, -⟩ := S1
  refine Run.aloadN F d34_33 rfl rfl ?_
  refine Run.dup F d34_34 rfl ?_
  refine Run.getfield F (host := "") (Or.inl (w86 hw)) Via.refl (Fn.keep K2 hx2) d34_35 ?_
  refine Run.iloadN F d34_38 rfl ?_
  refine Run.iadd F d34_39 ?_
  rw [i32_add (by omega)]
  refine Run.putfield F (w86 hw) Via.refl (Fn.keep K2 hx2) (E.keep K2) g (Or.inl (w87 hw)) (w32 hw) (ty := .int) (by decide) (v' := .int (Int32.ofNat (ds.length + cs.length))) rfl rfl d34_40 ?_
  intro h3 W3 K3 hs3 F3
  have hln : Int32.ofNat (ds ++ cs).length = Int32.ofNat (ds.length + cs.length) := by simp
  have hv3 : v1 ∉ [x] := ninS (Ne.symm nxv) nin0
  have S3 : Sb Z h3 x v1 u cap1 (ds ++ cs) := ⟨(E.keep K2).keep K3, (Fv.keep K2 hx2).other W3 (Or.inr nq1), (Fc.keep K2 hx2).other W3 (Or.inr nq2), by rw [hln]; exact F3, (Fm.keep K2 hx2).other W3 (Or.inr nq3), (Ev.keep K2).keep K3, tl2, by rw [List.length_append]; exact ht2, A2.keep K3 hv3⟩
  have K03 : Keep h h3 [x, v] := ((K1.mono (ws' := [x, v]) (by simp)).trans K2 (allS (hv1.elim (fun q => Or.inl (q ▸ mem3)) Or.inr) all0)).trans K3 (allS (Or.inl mem2) all0)
  refine Run.aloadN F d34_43 rfl rfl ?_
  exact Run.areturn F rfl rfl (by decide) (by decide) d34_44 ⟨rfl, v1, cap1, S3, hc1', K03, hv1, rfl⟩
set_option maxRecDepth 65536 in
set_option maxHeartbeats 4000000 in
theorem c_sbAppS (l : Launch) (Z : State) (n0 : Nat) (a0 : Array Value) (hw : ∀ d ∈ tables_1, d.before a0 Z = true) (x v y b : Nat) (u : Bool) (cap : Nat) (ds cs : List Int32) {cz : Int32} (SC : Sta Z Z.heap "java/lang/String" "COMPACT_STRINGS" "Z" (.int cz)) (hcz : cz.toInt ≠ 0) {sf : Value} (SF : Sta Z Z.heap "jdk/internal/util/Preconditions" "SIOOBE_FORMATTER" "Ljava/util/function/BiFunction;" sf) (hsf : sf.isRef = true) (UA : Sta Z Z.heap "java/lang/StringUTF16" "$assertionsDisabled" "Z" (.int 1)) (UH : Sta Z Z.heap "java/lang/StringUTF16" "HI_BYTE_SHIFT" "I" (.int 0)) (UL : Sta Z Z.heap "java/lang/StringUTF16" "LO_BYTE_SHIFT" "I" (.int 8)) (h : Heap) (Ls : Lits) (hO : Old Z n0 h) (S : Sb Z h x v u cap ds) (T : Str Z h y b 0 (cs.map lb)) (g : n0 ≤ x) (gv : n0 ≤ v) (hbv : b ≠ v) (hcs : ∀ c ∈ cs, 0 ≤ c.toInt ∧ c.toInt < 256) (hby : y ≠ v ∧ y ≠ x ∧ b ≠ x) (hcap : cap ≤ wd u * 18) (hds : ds.length + cs.length ≤ 8) :
    Con l Z n0 (⟨"java/lang/StringBuilder", "append", "(Ljava/lang/String;)Ljava/lang/StringBuilder;"⟩ : MethodName) jdk_67_method_7_code 2 (some (.object "java/lang/StringBuilder")) ({ frames := 8, cells := 1, slots := 36, locals := 119 } : Room) [.ref x, .ref y] h Ls [] (RV fun w h' Ls' => w = .ref x ∧ ∃ v' cap' : Nat, Sb Z h' x v' u cap' (ds ++ cs) ∧ cap' ≤ wd u * 18 ∧ Keep h h' [x, v] ∧ (v' = v ∨ h.size ≤ v') ∧ Ls = Ls') := by
  refine Con.of_run (plainFor_of_name pn5) hO ?_
  intro p e s m below meth c F hs
  refine ⟨[.val (.ref x), .val (.ref y)], by first | rfl | (simp [entryFrame, mkF, argsToLocals, Value.category]; done) | (rcases ref_cases hv with rfl | ⟨va, rfl⟩ <;> rfl), ?_⟩
  refine Run.aloadN F d33_0 rfl rfl ?_
  refine Run.aloadN F d33_1 rfl rfl ?_
  refine Run.callSuper F (w173 hw) (same_own (w175 hw) (((fun U hU => nf_cls (a := #[]) (mvT hU (w75 hw)) (mvT hU (w73 hw)) rfl) : ∀ U : State, Z.Warmed39 U.vm → NotFace U ⟨"java/lang/AbstractStringBuilder", "append", "(Ljava/lang/String;)Ljava/lang/AbstractStringBuilder;"⟩) Z (State.Warmed39.refl Z)) rfl) (w174 hw) (w84 hw) (w52 hw) (w176 hw) (Ins.of_exa S.1 (w51 hw)) (c_asbAppS l Z n0 a0 hw x v y b u cap ds cs SC hcz SF hsf UA UH UL h Ls hO S T g gv hbv hcs hby hcap hds) (by decide) pd24 rfl rfl rfl rfl (by decide) (by decide) rfl d33_2 ?_
  rintro _ h1 _ ⟨_, rfl, rfl, hq⟩ _ _
  refine Run.pop F d33_5 rfl ?_
  refine Run.aloadN F d33_6 rfl rfl ?_
  exact Run.areturn F rfl rfl (by decide) (by decide) d33_7 ⟨rfl, hq⟩
set_option maxRecDepth 65536 in
set_option maxHeartbeats 4000000 in
theorem c_checkLen (l : Launch) (Z : State) (n0 : Nat) (a0 : Array Value) (hw : ∀ d ∈ tables_1, d.before a0 Z = true) (k : Nat) (h : Heap) (Ls : Lits) (hO : Old Z n0 h) (hk : k < 2 ^ 31) :
    Con l Z n0 (⟨"java/util/Arrays", "checkLength", "(II)V"⟩ : MethodName) jdk_65_method_131_code 2 none ({ frames := 0, cells := 0, slots := 0, locals := 0 } : Room) [.int 0, .int (Int32.ofNat k)] h Ls [] (RN fun h' Ls' => h = h' ∧ Ls = Ls') := by
  refine Con.of_run (plainFor_of_name pn7) hO ?_
  intro p e s m below meth c F hs
  refine ⟨[.val (.int 0), .val (.int (Int32.ofNat k))], by first | rfl | (simp [entryFrame, mkF, argsToLocals, Value.category]; done) | (rcases ref_cases hv with rfl | ⟨va, rfl⟩ <;> rfl), ?_⟩
  refine Run.iloadN F d44_0 rfl ?_
  refine Run.iloadN F d44_1 rfl ?_
  refine Run.icmp_ge F d44_2 (t := 37) rfl (i32_ti hk) (yi := 0) rfl (fun _ => ?_) (fun q => by omega)
  exact Run.return_ F (by decide) (by decide) d44_37 ⟨rfl, rfl⟩
set_option maxRecDepth 65536 in
set_option maxHeartbeats 4000000 in
theorem c_corB (l : Launch) (Z : State) (n0 : Nat) (a0 : Array Value) (hw : ∀ d ∈ tables_1, d.before a0 Z = true) (v : Nat) (k : Nat) (vs : List Value) (h : Heap) (Ls : Lits) (hO : Old Z n0 h) (A : Av Z h v .byte vs) (hk : k ≤ vs.length) (hK : vs.length ≤ 36) :
    Con l Z n0 (⟨"java/util/Arrays", "copyOfRangeByte", "([BII)[B"⟩ : MethodName) jdk_65_method_133_code 5 (some (.array .byte)) ({ frames := 1, cells := 1, slots := 36, locals := 18 } : Room) [.ref v, .int 0, .int (Int32.ofNat k)] h Ls [] (RV fun w h' Ls' => ∃ b : Nat, w = .ref b ∧ Keep h h' [] ∧ h.size ≤ b ∧ Av Z h' b .byte (vs.take k) ∧ Ls = Ls') := by
  refine Con.of_run (plainFor_of_name pn7) hO ?_
  intro p e s m below meth c F hs
  refine ⟨[.val (.ref v), .val (.int 0), .val (.int (Int32.ofNat k)), .unset, .unset], by first | rfl | (simp [entryFrame, mkF, argsToLocals, Value.category]; done) | (rcases ref_cases hv with rfl | ⟨va, rfl⟩ <;> rfl), ?_⟩
  have e1 := i32_ti (i := k) (by omega)
  have e2 := i32_ti (i := vs.length) (by omega)
  have s0 : ∀ z : Int32, z - 0 = z := fun z => by simp
  refine Run.iloadN F d43_0 rfl ?_
  refine Run.iloadN F d43_1 rfl ?_
  refine Run.callStatic F (w223 hw) (w224 hw) (w95 hw) (w225 hw) (c_checkLen l Z n0 a0 hw k h Ls hO (by omega)) rfl pd2 rfl rfl rfl rfl (by decide) (by decide) rfl d43_2 ?_
  rintro _ _ _ ⟨rfl, rfl, rfl⟩ _ _
  show Run _ _ _ _ _ _ _ _ _ _ _ _ _ _ _ _ _ _ _ _ []
  refine Run.iloadN F d43_5 rfl ?_
  refine Run.iloadN F d43_6 rfl ?_
  refine Run.isub F d43_7 ?_
  rw [s0]
  refine Run.istoreN F d43_8 rfl ?_
  dsimp only [List.set]
  refine Run.iloadN F d43_9 rfl ?_
  refine Run.newarray (aty := .byte) F (w20 hw) (i32_nn (by omega)) (i32_tn (by omega)) 36 (by omega) rfl (by decide) (by decide) d43_10 ?_
  intro h1 b hb K1 lt1 A1
  have hO1 : Old Z n0 h1 := hO.keep K1 all0
  have gb : n0 ≤ b := by rw [hb, ← hO.1]; exact hO.2.1
  refine Run.astore F d43_12 rfl rfl ?_
  dsimp only [List.set]
  refine Run.aloadN F d43_14 rfl rfl ?_
  refine Run.iloadN F d43_15 rfl ?_
  refine Run.aload F d43_16 rfl rfl ?_
  refine Run.iconst F d43_18 (z := 0) rfl ?_
  refine Run.aloadN F d43_19 rfl rfl ?_
  refine Run.arrlen F (A.keep K1 nin0) d43_20 ?_
  refine Run.iloadN F d43_21 rfl ?_
  refine Run.isub F d43_22 ?_
  rw [s0]
  refine Run.iloadN F d43_23 rfl ?_
  refine Run.callStatic F (w216 hw) (w217 hw) (w209 hw) (w218 hw) (c_mathMin l Z n0 a0 hw (Int32.ofNat vs.length) (Int32.ofNat k) h1 Ls hO1) rfl pd9 rfl rfl rfl rfl (by decide) (by decide) rfl d43_24 ?_
  rintro _ _ _ ⟨_, rfl, z, rfl, hz, rfl, rfl⟩ _ _
  refine Run.arraycopy F (w219 hw) (w197 hw) (w195 hw) (w196 hw) (A.keep K1 nin0) A1 rfl gb (sp := 0) rfl (dp := 0) rfl (nn := k) (by omega) (by omega) (by simp) (us := vs.take k) (by simp) rfl rfl rfl d43_27 ?_
  intro h2 K2 A2
  have A3 : Av Z h2 b .byte (vs.take k) := by
    rw [List.take_zero, List.nil_append, Nat.zero_add, List.drop_replicate, Nat.sub_self] at A2; simpa using A2
  refine Run.aload F d43_30 rfl rfl ?_
  exact Run.areturn F rfl rfl (by decide) (by decide) d43_32 ⟨b, rfl, K1.trans K2 (allS (Or.inr (by omega)) all0), by omega, A3, rfl⟩
set_option maxRecDepth 65536 in
set_option maxHeartbeats 4000000 in
theorem c_cor (l : Launch) (Z : State) (n0 : Nat) (a0 : Array Value) (hw : ∀ d ∈ tables_1, d.before a0 Z = true) (v : Nat) (k : Nat) (vs : List Value) (h : Heap) (Ls : Lits) (hO : Old Z n0 h) (A : Av Z h v .byte vs) (hk : k ≤ vs.length) (hK : vs.length ≤ 36) (E : Exa Z h v "[B") :
    Con l Z n0 (⟨"java/util/Arrays", "copyOfRange", "([BII)[B"⟩ : MethodName) jdk_65_method_132_code 3 (some (.array .byte)) ({ frames := 2, cells := 1, slots := 36, locals := 34 } : Room) [.ref v, .int 0, .int (Int32.ofNat k)] h Ls [] (RV fun w h' Ls' => ∃ b : Nat, w = .ref b ∧ Keep h h' [] ∧ h.size ≤ b ∧ Av Z h' b .byte (vs.take k) ∧ Ls = Ls') := by
  refine Con.of_run (plainFor_of_name pn7) hO ?_
  intro p e s m below meth c F hs
  refine ⟨[.val (.ref v), .val (.int 0), .val (.int (Int32.ofNat k))], by first | rfl | (simp [entryFrame, mkF, argsToLocals, Value.category]; done) | (rcases ref_cases hv with rfl | ⟨va, rfl⟩ <;> rfl), ?_⟩
  have e1 := i32_ti (i := k) (by omega)
  have e2 := i32_ti (i := vs.length) (by omega)
  refine Run.iloadN F d17_0 rfl ?_
  refine Run.ifNo F d17_1 rfl ?_
  refine Run.iloadN F d17_4 rfl ?_
  refine Run.aloadN F d17_5 rfl rfl ?_
  refine Run.arrlen F A d17_6 ?_
  refine Run.icmp_eq F d17_7 (t := 17) rfl e1 e2 (fun q => ?_) (fun q => ?_)
  · have hkl : k = vs.length := by omega
    refine Run.aloadN F d17_17 rfl rfl ?_
    refine Run.clone F (w97 hw) (w98 hw) (w102 hw) (w100 hw) (w101 hw) (w103 hw) A E rfl rfl rfl 36 hK (by decide) (by decide) d17_18 ?_
    intro h1 b hb K1 A1 E1
    refine Run.checkcast F (w104 hw) (Ins.of_exa E1 (w105 hw)) d17_21 ?_
    exact Run.areturn F rfl rfl (by decide) (by decide) d17_24 ⟨b, rfl, K1, by omega, by rw [hkl, List.take_length]; exact A1, rfl⟩
  · refine Run.aloadN F d17_10 rfl rfl ?_
    refine Run.iloadN F d17_11 rfl ?_
    refine Run.iloadN F d17_12 rfl ?_
    refine Run.callStatic F (w220 hw) (w221 hw) (w95 hw) (w222 hw) (c_corB l Z n0 a0 hw v k vs h Ls hO A hk hK) rfl pd25 rfl rfl rfl rfl (by decide) (by decide) rfl d17_13 ?_
    rintro _ h1 _ ⟨_, rfl, b, rfl, hq⟩ _ _
    exact Run.areturn F rfl rfl (by decide) (by decide) d17_16 ⟨b, rfl, hq⟩
set_option maxRecDepth 65536 in
set_option maxHeartbeats 4000000 in
theorem c_initSB2 (l : Launch) (Z : State) (n0 : Nat) (a0 : Array Value) (hw : ∀ d ∈ tables_1, d.before a0 Z = true) (r x v : Nat) (u : Bool) (cap : Nat) (ds : List Int32) {cz : Int32} (SC : Sta Z Z.heap "java/lang/String" "COMPACT_STRINGS" "Z" (.int cz)) (hcz : cz.toInt ≠ 0) (h : Heap) (Ls : Lits) (hO : Old Z n0 h) (E : Exa Z h r "java/lang/String") (Fv : Fld Z h r "java/lang/String" "value" "[B" .null) (Fc : Fld Z h r "java/lang/String" "coder" "B" (.int 0)) (g : n0 ≤ r) (S : Sb Z h x v u cap ds) (hcap : cap ≤ 36) :
    Con l Z n0 (⟨"java/lang/String", "<init>", "(Ljava/lang/AbstractStringBuilder;Ljava/lang/Void;)V"⟩ : MethodName) jdk_42_method_150_code 5 none ({ frames := 3, cells := 1, slots := 36, locals := 49 } : Room) [.ref r, .ref x, .null] h Ls [] (RN fun h' Ls' => ∃ b : Nat, Keep h h' [r] ∧ h.size ≤ b ∧ Str Z h' r b (b2i u) (byts u ds) ∧ Ls = Ls') := by
  refine Con.of_run (plainFor_of_name pn0) hO ?_
  intro p e s m below meth c F hs
  refine ⟨[.val (.ref r), .val (.ref x), .val .null, .unset, .unset], by first | rfl | (simp [entryFrame, mkF, argsToLocals, Value.category]; done) | (rcases ref_cases hv with rfl | ⟨va, rfl⟩ <;> rfl), ?_⟩
  obtain ⟨Es, Gv, Gc, Gn, Gm, Ev, tl, ht, A⟩ := S
  have hne : Jvm.RoadKit.slotOf Z "java/lang/String" "coder" "B" ≠ Jvm.RoadKit.slotOf Z "java/lang/String" "value" "[B" := slot_ne (a0 := a0) (C := "java/lang/String") (Or.inr (w22 hw)) (Or.inr (w21 hw)) (by decide) (t := .byte) (t' := .array .byte) (by decide) (by decide)
  have hwd : wd u ≤ 2 := by cases u <;> decide
  have hwp := wd_pos u
  have hln : (byts u ds ++ tl).length = cap := by rw [List.length_append, byts_len]; omega
  have hdl : ds.length ≤ cap := Nat.le_trans (Nat.le_mul_of_pos_left _ hwp) (by omega)
  refine Run.aloadN F d12_0 rfl rfl ?_
  refine Run.objInit F (w16 hw) (w17 hw) (w18 hw) rfl rfl rfl d12_1 ?_
  refine Run.aloadN F d12_4 rfl rfl ?_
  refine Run.callVirtual F (w72 hw) (w73 hw) (fun U hU => notFace_of_selects (args := #[]) (mvT hU (w75 hw))) (w75 hw) (w74 hw) (w52 hw) (w76 hw) Es (c_asbValue l Z n0 a0 hw x v h Ls hO Gv) rfl pd26 rfl rfl rfl rfl (by decide) (by decide) rfl d12_5 ?_
  rintro _ _ _ ⟨_, rfl, rfl, rfl, rfl⟩ _ _
  refine Run.astoreN F d12_8 rfl rfl ?_
  dsimp only [List.set]
  refine Run.aloadN F d12_9 rfl rfl ?_
  refine Run.callVirtual F (w77 hw) (w78 hw) (fun U hU => nf_cls (a := #[]) (mvT hU (w75 hw)) (mvT hU (w73 hw)) rfl) (w80 hw) (w81 hw) (w33 hw) (w82 hw) Es (c_sbLength l Z n0 a0 hw x (Int32.ofNat ds.length) h Ls hO Es Gn) rfl pd8 rfl rfl rfl rfl (by decide) (by decide) rfl d12_10 ?_
  rintro _ _ _ ⟨_, rfl, rfl, rfl, rfl⟩ _ _
  refine Run.istore F d12_13 rfl ?_
  dsimp only [List.set]
  refine Run.aloadN F d12_15 rfl rfl ?_
  refine Run.callVirtual F (w88 hw) (w89 hw) (fun U hU => notFace_of_selects (args := #[]) (mvT hU (w91 hw))) (w91 hw) (w90 hw) (w52 hw) (w92 hw) Es (c_asbLatin1 l Z n0 a0 hw x u SC hcz h Ls hO Gc) rfl pd7 rfl rfl rfl rfl (by decide) (by decide) rfl d12_16 ?_
  rintro _ _ _ ⟨_, rfl, rfl, rfl, rfl⟩ _ _
  cases u
  · refine Run.ifB_eq F d12_19 (t := 41) rfl (fun q => absurd q (by decide)) (fun _ => ?_)
    have e0 : (byts false ds ++ tl).take ds.length = byts false ds := by rw [List.take_append_of_le_length (by rw [byts_len]; simp [wd]), List.take_of_length_le (by rw [byts_len]; simp [wd])]
    refine Run.aloadN F d12_22 rfl rfl ?_
    refine Run.iconst F d12_23 (z := 0) rfl ?_
    refine Run.putfield F (w26 hw) Via.refl Fc E g (Or.inr ⟨(w22 hw), rfl, rfl⟩) (w6 hw) (ty := .byte) (by decide) (v' := .int (b2i false)) rfl rfl d12_24 ?_
    intro h1 W1 K1 hs1 F1
    have hO1 : Old Z n0 h1 := hO.wr W1 g
    have hvr : v ≠ r := Exa.ne Ev E (by decide)
    refine Run.aloadN F d12_27 rfl rfl ?_
    refine Run.aloadN F d12_28 rfl rfl ?_
    refine Run.iconst F d12_29 (z := 0) rfl ?_
    refine Run.iload F d12_30 rfl ?_
    refine Run.callStatic F (w93 hw) (w94 hw) (w95 hw) (w96 hw) (c_cor l Z n0 a0 hw v ds.length (byts false ds ++ tl) h1 Ls hO1 (A.keep K1 (ninS hvr nin0)) (by omega) (by omega) (Ev.keep K1)) rfl pd25 rfl rfl rfl rfl (by decide) (by decide) rfl d12_32 ?_
    rintro _ h2 _ ⟨_, rfl, b, rfl, K2, hb, A2, rfl⟩ hO2 _
    rw [e0] at A2
    have lr := (ltE E)
    have hbr : b ≠ r := by omega
    have E2 : Exa Z h2 r "java/lang/String" := (E.keep K1).keep K2
    refine Run.putfield F (w25 hw) Via.refl ((Fv.other W1 (Or.inr (Ne.symm hne))).keep K2 nin0) E2 g (Or.inr ⟨(w21 hw), rfl, rfl⟩) (w6 hw) (ty := (.array .byte)) (by decide) (v' := .ref b) rfl rfl d12_35 ?_
    intro h3 W3 K3 hs3 F3
    refine Run.goto F d12_38 (t := 97) rfl ?_
    exact Run.return_ F (by decide) (by decide) d12_97 ⟨b, ((K1.trans K2 all0).trans K3 (allS (Or.inl mem1) all0)), by omega, ⟨E2.keep K3, (F1.keep K2 nin0).other W3 (Or.inr hne), F3, A2.keep K3 (ninS hbr nin0)⟩, rfl⟩
  · refine Run.ifB_eq F d12_19 (t := 41) rfl (fun _ => ?_) (fun q => absurd q (by decide))
    have w2 : wd true * ds.length = 2 * ds.length := rfl
    have e0 : (byts true ds ++ tl).take (2 * ds.length) = byts true ds := by rw [List.take_append_of_le_length (by rw [byts_len]; exact Nat.le_of_eq w2.symm), List.take_of_length_le (by rw [byts_len]; exact Nat.le_of_eq w2)]
    refine Run.getstatic F (w44 hw) Via.refl SC d12_41 ?_
    refine Run.if_eq F d12_44 (t := 79) rfl rfl (fun q => absurd q hcz) (fun _ => ?_)
    refine Run.aloadN F d12_47 rfl rfl ?_
    refine Run.getfield F (host := "") (Or.inl (w281 hw)) Via.refl Gm d12_48 ?_
    refine Run.ifYes F d12_51 (t := 79) rfl rfl ?_
    refine Run.aloadN F d12_79 rfl rfl ?_
    refine Run.iconst F d12_80 (z := 1) rfl ?_
    refine Run.putfield F (w26 hw) Via.refl Fc E g (Or.inr ⟨(w22 hw), rfl, rfl⟩) (w6 hw) (ty := .byte) (by decide) (v' := .int (b2i true)) rfl rfl d12_81 ?_
    intro h1 W1 K1 hs1 F1
    have hO1 : Old Z n0 h1 := hO.wr W1 g
    have hvr : v ≠ r := Exa.ne Ev E (by decide)
    refine Run.aloadN F d12_84 rfl rfl ?_
    refine Run.aloadN F d12_85 rfl rfl ?_
    refine Run.iconst F d12_86 (z := 0) rfl ?_
    refine Run.iload F d12_87 rfl ?_
    refine Run.iconst F d12_89 (z := 1) rfl ?_
    refine Run.ishl F d12_90 ?_
    rw [i32_dbl (by omega)]
    refine Run.callStatic F (w93 hw) (w94 hw) (w95 hw) (w96 hw) (c_cor l Z n0 a0 hw v (2 * ds.length) (byts true ds ++ tl) h1 Ls hO1 (A.keep K1 (ninS hvr nin0)) (by omega) (by omega) (Ev.keep K1)) rfl pd25 rfl rfl rfl rfl (by decide) (by decide) rfl d12_91 ?_
    rintro _ h2 _ ⟨_, rfl, b, rfl, K2, hb, A2, rfl⟩ hO2 _
    rw [e0] at A2
    have lr := (ltE E)
    have hbr : b ≠ r := by omega
    have E2 : Exa Z h2 r "java/lang/String" := (E.keep K1).keep K2
    refine Run.putfield F (w25 hw) Via.refl ((Fv.other W1 (Or.inr (Ne.symm hne))).keep K2 nin0) E2 g (Or.inr ⟨(w21 hw), rfl, rfl⟩) (w6 hw) (ty := (.array .byte)) (by decide) (v' := .ref b) rfl rfl d12_94 ?_
    intro h3 W3 K3 hs3 F3
    exact Run.return_ F (by decide) (by decide) d12_97 ⟨b, ((K1.trans K2 all0).trans K3 (allS (Or.inl mem1) all0)), by omega, ⟨E2.keep K3, (F1.keep K2 nin0).other W3 (Or.inr hne), F3, A2.keep K3 (ninS hbr nin0)⟩, rfl⟩
set_option maxRecDepth 65536 in
set_option maxHeartbeats 4000000 in
theorem c_initSB1 (l : Launch) (Z : State) (n0 : Nat) (a0 : Array Value) (hw : ∀ d ∈ tables_1, d.before a0 Z = true) (r x v : Nat) (u : Bool) (cap : Nat) (ds : List Int32) {cz : Int32} (SC : Sta Z Z.heap "java/lang/String" "COMPACT_STRINGS" "Z" (.int cz)) (hcz : cz.toInt ≠ 0) (h : Heap) (Ls : Lits) (hO : Old Z n0 h) (E : Exa Z h r "java/lang/String") (Fv : Fld Z h r "java/lang/String" "value" "[B" .null) (Fc : Fld Z h r "java/lang/String" "coder" "B" (.int 0)) (g : n0 ≤ r) (S : Sb Z h x v u cap ds) (hcap : cap ≤ 36) :
    Con l Z n0 (⟨"java/lang/String", "<init>", "(Ljava/lang/StringBuilder;)V"⟩ : MethodName) jdk_42_method_53_code 2 none ({ frames := 4, cells := 1, slots := 36, locals := 65 } : Room) [.ref r, .ref x] h Ls [] (RN fun h' Ls' => ∃ b : Nat, Keep h h' [r] ∧ h.size ≤ b ∧ Str Z h' r b (b2i u) (byts u ds) ∧ Ls = Ls') := by
  refine Con.of_run (plainFor_of_name pn0) hO ?_
  intro p e s m below meth c F hs
  refine ⟨[.val (.ref r), .val (.ref x)], by first | rfl | (simp [entryFrame, mkF, argsToLocals, Value.category]; done) | (rcases ref_cases hv with rfl | ⟨va, rfl⟩ <;> rfl), ?_⟩
  refine Run.aloadN F d11_0 rfl rfl ?_
  refine Run.aloadN F d11_1 rfl rfl ?_
  refine Run.aconstNull F d11_2 ?_
  refine Run.callInit F (w69 hw) (w70 hw) (w7 hw) (w71 hw) (c_initSB2 l Z n0 a0 hw r x v u cap ds SC hcz h Ls hO E Fv Fc g S hcap) rfl rfl pd27 rfl rfl rfl rfl (by decide) (by decide) rfl d11_3 ?_
  rintro _ h1 _ ⟨rfl, hq⟩ _ _
  exact Run.return_ F (by decide) (by decide) d11_6 hq
set_option maxRecDepth 65536 in
set_option maxHeartbeats 4000000 in
theorem c_toStr (l : Launch) (Z : State) (n0 : Nat) (a0 : Array Value) (hw : ∀ d ∈ tables_1, d.before a0 Z = true) (x v : Nat) (u : Bool) (cap : Nat) (ds : List Int32) {cz : Int32} (SC : Sta Z Z.heap "java/lang/String" "COMPACT_STRINGS" "Z" (.int cz)) (hcz : cz.toInt ≠ 0) (h : Heap) (Ls : Lits) (hO : Old Z n0 h) (S : Sb Z h x v u cap ds) (hcap : cap ≤ 36) :
    Con l Z n0 (⟨"java/lang/StringBuilder", "toString", "()Ljava/lang/String;"⟩ : MethodName) jdk_67_method_42_code 1 (some (.object "java/lang/String")) ({ frames := 5, cells := 2, slots := 40, locals := 79 } : Room) [.ref x] h Ls [] (RV fun w h' Ls' => ∃ r b : Nat, w = .ref r ∧ Keep h h' [] ∧ h.size ≤ r ∧ h.size ≤ b ∧ Str Z h' r b (b2i u) (byts u ds) ∧ Ls = Ls') := by
  refine Con.of_run (plainFor_of_name pn5) hO ?_
  intro p e s m below meth c F hs
  refine ⟨[.val (.ref x)], by first | rfl | (simp [entryFrame, mkF, argsToLocals, Value.category]; done) | (rcases ref_cases hv with rfl | ⟨va, rfl⟩ <;> rfl), ?_⟩
  refine Run.new F (w65 hw) (w6 hw) (w7 hw) (by decide) (by decide) d10_0 ?_
  intro h1 r hr K1 lt1 E1 D1 U1
  have hO1 : Old Z n0 h1 := hO.keep K1 all0
  have g : n0 ≤ r := by rw [hr, ← hO.1]; exact hO.2.1
  have Fv := D1 (O := "java/lang/String") (f := "value") (ds := "[B") (ty := .array .byte) (Or.inr (w21 hw)) (by decide)
  have Fc := D1 (O := "java/lang/String") (f := "coder") (ds := "B") (ty := .byte) (Or.inr (w22 hw)) (by decide)
  have sl := S.lt
  refine Run.dup F d10_3 rfl ?_
  refine Run.aloadN F d10_4 rfl rfl ?_
  refine Run.callInit F (w66 hw) (w67 hw) (w7 hw) (w68 hw) (c_initSB1 l Z n0 a0 hw r x v u cap ds SC hcz h1 Ls hO1 E1 Fv Fc g (S.keep K1 nin0 nin0) hcap) rfl rfl pd28 rfl rfl rfl rfl (by decide) (by decide) rfl d10_5 ?_
  rintro _ h2 _ ⟨rfl, b, K2, hb, S2, rfl⟩ hO2 _
  show Run _ _ _ _ _ _ _ _ _ _ _ _ _ _ _ _ _ _ _ _ [Value.ref r]
  have z1 := K1.1
  exact Run.areturn F rfl rfl (by decide) (by decide) d10_8 ⟨r, b, rfl, K1.trans K2 (allS (Or.inr (by omega)) all0), by omega, by omega, S2, rfl⟩
set_option maxRecDepth 65536 in
set_option maxHeartbeats 4000000 in
theorem c_cmpG (l : Launch) (Z : State) (n0 : Nat) (a0 : Array Value) (hw : ∀ d ∈ tables_1, d.before a0 Z = true) (t b : Nat) (cs : List Int32) (h : Heap) (Ls : Lits) (hO : Old Z n0 h) (At : Av Z h t .char (cs.map Value.int)) (Ab : Av Z h b .byte (List.replicate cs.length (.int 0))) (g : n0 ≤ b) (htb : t ≠ b) (hcs : ∀ c ∈ cs, 0 ≤ c.toInt ∧ c.toInt < 65536) :
    Con l Z n0 (⟨"java/lang/StringUTF16", "compress", "([CI[BII)I"⟩ : MethodName) jdk_52_method_21_code 7 (some .int) ({ frames := 0, cells := 0, slots := 0, locals := 0 } : Room) [.ref t, .int 0, .ref b, .int 0, .int (Int32.ofNat cs.length)] h Ls [] (RV fun v h' Ls' => ∃ i, v = .int (Int32.ofNat i) ∧ i ≤ cs.length ∧ Keep h h' [b] ∧ h'.size = h.size ∧ (i = cs.length → lat cs = true ∧ Av Z h' b .byte (cs.map lb)) ∧ (i < cs.length → ∃ ch, cs[i]? = some ch ∧ 256 ≤ ch.toInt) ∧ Ls = Ls') := by
  refine Con.of_run (plainFor_of_name pn3) hO ?_
  intro p e s m below meth c F hs
  refine ⟨[.val (.ref t), .val (.int 0), .val (.ref b), .val (.int 0), .val (.int (Int32.ofNat cs.length)), .unset, .unset], by first | rfl | (simp [entryFrame, mkF, argsToLocals, Value.category]; done) | (rcases ref_cases hv with rfl | ⟨va, rfl⟩ <;> rfl), ?_⟩
  have hlen : cs.length < 2 ^ 31 := by simpa using At.len
  refine Run.iconst F d20_0 (z := 0) rfl ?_
  refine Run.istore F d20_1 rfl ?_
  dsimp only [List.set]
  refine Run.rec (fun r h' k n Ls' L st => ∃ i x6, i + r = cs.length ∧ okSlot x6 = true ∧ k = 0 ∧ n = 0 ∧ Ls = Ls' ∧ lat (cs.take i) = true ∧ Keep h h' [b] ∧ h'.size = h.size ∧ Av Z h' b .byte ((cs.take i).map lb ++ List.replicate r (.int 0)) ∧ L = [.val (.ref t), .val (.int (Int32.ofNat i)), .val (.ref b), .val (.int (Int32.ofNat i)), .val (.int (Int32.ofNat cs.length)), .val (.int (Int32.ofNat i)), x6] ∧ st = []) ?_ cs.length _ _ _ _ _ _ ⟨0, .unset, by omega, rfl, rfl, rfl, rfl, rfl, Keep.refl _ _, rfl, by simpa using Ab, rfl, rfl⟩
  rintro r h' k n Ls' L st ⟨i, x6, hi, hx, rfl, rfl, rfl, hla, K, hsz, A, rfl, rfl⟩ ih
  refine Run.iload F d20_3 rfl ?_
  refine Run.iload F d20_5 rfl ?_
  refine Run.icmp_ge F d20_7 (t := 44) rfl (i32_ti (by omega)) (i32_ti hlen) (fun q => ?_) (fun q => ?_)
  · refine Run.iload F d20_44 rfl ?_
    have hr : r = 0 := by omega
    have hi' : i = cs.length := by omega
    subst hr hi'
    exact Run.ireturn F (by simp) rfl (by decide) (by decide) d20_46 ⟨cs.length, rfl, Nat.le_refl _, K, hsz, fun _ => ⟨by simpa using hla, by simpa using A⟩, fun q => absurd q (Nat.lt_irrefl _), rfl⟩
  · obtain ⟨r, rfl⟩ : ∃ r', r = r' + 1 := ⟨r - 1, by omega⟩
    have hlt : i < cs.length := by omega
    obtain ⟨c1, hc1⟩ : ∃ c1, cs[i]? = some c1 := ⟨_, List.getElem?_eq_getElem hlt⟩
    have hc2 := hcs c1 (List.mem_of_getElem? hc1)
    refine Run.aloadN F d20_10 rfl rfl ?_
    refine Run.iloadN F d20_11 rfl ?_
    refine Run.caload F (At.keep K (ninS htb nin0)) (i32_nn (by omega)) (i32_tn (by omega)) (mapInt_get hc1) d20_12 ?_
    refine Run.istore F d20_13 (by simp [hx]) ?_
    dsimp only [List.set]
    refine Run.iload F d20_15 rfl ?_
    refine Run.sipush F d20_17 (z := 255) rfl ?_
    refine Run.icmp_le F d20_20 (t := 26) rfl rfl (yi := 255) rfl (fun q1 => ?_) (fun q1 => ?_)
    · refine Run.aloadN F d20_26 rfl rfl ?_
      refine Run.iloadN F d20_27 rfl ?_
      refine Run.iload F d20_28 rfl ?_
      refine Run.i2b F d20_30 ?_
      refine Run.bastore F A g (i32_nn (by omega)) (i32_tn (by omega)) (by simp; omega) (narB c1) d20_31 ?_
      intro h2 W2 K2 hs2 A2
      refine Run.iinc F d20_32 (z := 1) rfl rfl ?_
      dsimp only [List.set]
      refine Run.iinc F d20_35 (z := 1) rfl rfl ?_
      dsimp only [List.set]
      refine Run.iinc F d20_38 (z := 1) rfl rfl ?_
      dsimp only [List.set]
      refine Run.goto F d20_41 (t := 3) rfl ?_
      refine ih r _ _ _ _ _ _ (by omega) ⟨i + 1, .val (.int c1), by omega, rfl, rfl, rfl, rfl, ?_, K.trans K2 (allS (Or.inl (List.mem_singleton.mpr rfl)) all0), hs2.trans hsz, ?_, by simp only [Jvm.Free.XT.succ32], rfl⟩
      · rw [List.take_succ, hc1]; simp only [lat, List.all_append, Bool.and_eq_true] at hla ⊢; exact ⟨hla, by simp; omega⟩
      · rw [← take_set hi hc1]; exact A2
    · refine Run.iload F d20_23 rfl ?_
      exact Run.ireturn F (by simp) rfl (by decide) (by decide) d20_25 ⟨i, rfl, by omega, K, hsz, fun q => by omega, fun _ => ⟨c1, hc1, by omega⟩, rfl⟩
set_option maxRecDepth 65536 in
set_option maxHeartbeats 4000000 in
theorem c_toBytes16 (l : Launch) (Z : State) (n0 : Nat) (a0 : Array Value) (hw : ∀ d ∈ tables_1, d.before a0 Z = true) (t : Nat) (cs : List Int32) (UA : Sta Z Z.heap "java/lang/StringUTF16" "$assertionsDisabled" "Z" (.int 1)) (UH : Sta Z Z.heap "java/lang/StringUTF16" "HI_BYTE_SHIFT" "I" (.int 0)) (UL : Sta Z Z.heap "java/lang/StringUTF16" "LO_BYTE_SHIFT" "I" (.int 8)) (h : Heap) (Ls : Lits) (hO : Old Z n0 h) (At : Av Z h t .char (cs.map Value.int)) (hcap : cs.length ≤ 18) :
    Con l Z n0 (⟨"java/lang/StringUTF16", "toBytes", "([CII)[B"⟩ : MethodName) jdk_52_method_14_code 5 (some (.array .byte)) ({ frames := 2, cells := 1, slots := 36, locals := 24 } : Room) [.ref t, .int 0, .int (Int32.ofNat cs.length)] h Ls [] (RV fun v h' Ls' => ∃ b : Nat, v = .ref b ∧ Keep h h' [] ∧ h.size ≤ b ∧ Av Z h' b .byte (u16 cs) ∧ Ls = Ls') := by
  refine Con.of_run (plainFor_of_name pn3) hO ?_
  intro p e s m below meth c F hs
  refine ⟨[.val (.ref t), .val (.int 0), .val (.int (Int32.ofNat cs.length)), .unset, .unset], by first | rfl | (simp [entryFrame, mkF, argsToLocals, Value.category]; done) | (rcases ref_cases hv with rfl | ⟨va, rfl⟩ <;> rfl), ?_⟩
  refine Run.iloadN F d45_0 rfl ?_
  refine Run.callStatic F (w230 hw) (w231 hw) (w113 hw) (w232 hw) (c_nbFor l Z n0 a0 hw cs.length h Ls hO hcap) rfl pd16 rfl rfl rfl rfl (by decide) (by decide) rfl d45_1 ?_
  rintro _ h1 _ ⟨_, rfl, b, rfl, K1, hb, -, A1, rfl⟩ hO1 _
  have hn : n0 ≤ b := by rw [hb, ← hO.1]; exact hO.2.1
  have htb : t ≠ b := by have := At.lt; omega
  refine Run.astoreN F d45_4 rfl rfl ?_
  dsimp only [List.set]
  refine Run.iconst F d45_5 (z := 0) rfl ?_
  refine Run.istore F d45_6 rfl ?_
  dsimp only [List.set]
  refine Run.rec (fun r h' k n Ls' L st => ∃ i, i + r = cs.length ∧ k = 1 ∧ n = 36 ∧ Ls = Ls' ∧ Keep h1 h' [b] ∧ Old Z n0 h' ∧ Av Z h' b .byte (u16 (cs.take i) ++ List.replicate (2 * r) (.int 0)) ∧ L = [.val (.ref t), .val (.int (Int32.ofNat i)), .val (.int (Int32.ofNat cs.length)), .val (.ref b), .val (.int (Int32.ofNat i))] ∧ st = []) ?_ cs.length _ _ _ _ _ _ ⟨0, by omega, rfl, rfl, rfl, Keep.refl _ _, hO1, by simpa [u16] using A1, rfl, rfl⟩
  rintro r h' k n Ls' L st ⟨i, hi, rfl, rfl, rfl, K, OO, A, rfl, rfl⟩ ih
  refine Run.iload F d45_8 rfl ?_
  refine Run.iloadN F d45_10 rfl ?_
  refine Run.icmp_ge F d45_11 (t := 32) rfl (i32_ti (by omega)) (i32_ti (by omega)) (fun q => ?_) (fun q => ?_)
  · have hr : r = 0 := by omega
    have hi' : i = cs.length := by omega
    subst hr hi'
    refine Run.aloadN F d45_32 rfl rfl ?_
    exact Run.areturn F rfl rfl (by decide) (by decide) d45_33 ⟨b, rfl, K1.trans K (allS (Or.inr (by omega)) all0), by omega, by simpa using A, rfl⟩
  · obtain ⟨r, rfl⟩ : ∃ r', r = r' + 1 := ⟨r - 1, by omega⟩
    obtain ⟨c1, hc1⟩ : ∃ c1, cs[i]? = some c1 := ⟨_, List.getElem?_eq_getElem (by omega)⟩
    refine Run.aloadN F d45_14 rfl rfl ?_
    refine Run.iload F d45_15 rfl ?_
    refine Run.aloadN F d45_17 rfl rfl ?_
    refine Run.iloadN F d45_18 rfl ?_
    refine Run.caload F ((At.keep K1 nin0).keep K (ninS htb nin0)) (i32_nn (by omega)) (i32_tn (by omega)) (mapInt_get hc1) d45_19 ?_
    refine Run.callStatic F (w237 hw) (w238 hw) (w113 hw) (w239 hw) (c_putChar l Z n0 a0 hw b i c1 _ UA UH UL h' Ls OO A hn (by rw [List.length_append, u16_len, List.length_replicate, List.length_take]; omega)) rfl pd12 rfl rfl rfl rfl (by decide) (by decide) rfl d45_20 ?_
    rintro _ h2 _ ⟨rfl, K2, s2, A2, rfl⟩ O2 _
    show Run _ _ _ _ _ _ _ _ _ _ _ _ _ _ _ _ _ _ _ _ []
    refine Run.iinc F d45_23 (z := 1) rfl rfl ?_
    dsimp only [List.set]
    refine Run.iinc F d45_26 (z := 1) rfl rfl ?_
    dsimp only [List.set]
    refine Run.goto F d45_29 (t := 8) rfl ?_
    refine ih r _ _ _ _ _ _ (by omega) ⟨i + 1, by omega, rfl, rfl, rfl, K.trans K2 (allS (Or.inl (List.mem_singleton.mpr rfl)) all0), O2, ?_, ?_, rfl⟩
    · rw [u16_set hi hc1] at A2; exact A2
    · simp only [Jvm.Free.XT.succ32]
set_option maxRecDepth 65536 in
set_option maxHeartbeats 4000000 in
theorem c_cmpArrG (l : Launch) (Z : State) (n0 : Nat) (a0 : Array Value) (hw : ∀ d ∈ tables_1, d.before a0 Z = true) (t : Nat) (cs : List Int32) (UA : Sta Z Z.heap "java/lang/StringUTF16" "$assertionsDisabled" "Z" (.int 1)) (UH : Sta Z Z.heap "java/lang/StringUTF16" "HI_BYTE_SHIFT" "I" (.int 0)) (UL : Sta Z Z.heap "java/lang/StringUTF16" "LO_BYTE_SHIFT" "I" (.int 8)) (h : Heap) (Ls : Lits) (hO : Old Z n0 h) (At : Av Z h t .char (cs.map Value.int)) (hcap : cs.length ≤ 18) (hcs : ∀ c ∈ cs, 0 ≤ c.toInt ∧ c.toInt < 65536) :
    Con l Z n0 (⟨"java/lang/StringUTF16", "compress", "([CII)[B"⟩ : MethodName) jdk_52_method_16_code 6 (some (.array .byte)) ({ frames := 3, cells := 2, slots := 54, locals := 40 } : Room) [.ref t, .int 0, .int (Int32.ofNat cs.length)] h Ls [] (RV fun v h' Ls' => ∃ b : Nat, v = .ref b ∧ Keep h h' [] ∧ h.size ≤ b ∧ Av Z h' b .byte (byOf cs) ∧ Ls = Ls') := by
  refine Con.of_run (plainFor_of_name pn3) hO ?_
  intro p e s m below meth c F hs
  refine ⟨[.val (.ref t), .val (.int 0), .val (.int (Int32.ofNat cs.length)), .unset, .unset, .unset], by first | rfl | (simp [entryFrame, mkF, argsToLocals, Value.category]; done) | (rcases ref_cases hv with rfl | ⟨va, rfl⟩ <;> rfl), ?_⟩
  have hlen : cs.length < 2 ^ 31 := by simpa using At.len
  refine Run.iloadN F d19_0 rfl ?_
  refine Run.newarray (aty := .byte) F (w20 hw) (i32_nn hlen) (i32_tn hlen) 18 hcap rfl (by decide) (by decide) d19_1 ?_
  intro h1 b hb K1 lt1 A1
  have hn : n0 ≤ b := by rw [hb, ← hO.1]; exact hO.2.1
  have htb : t ≠ b := by have := At.lt; omega
  have hO1 : Old Z n0 h1 := hO.keep K1 all0
  refine Run.astoreN F d19_3 rfl rfl ?_
  dsimp only [List.set]
  refine Run.aloadN F d19_4 rfl rfl ?_
  refine Run.iloadN F d19_5 rfl ?_
  refine Run.aloadN F d19_6 rfl rfl ?_
  refine Run.iconst F d19_7 (z := 0) rfl ?_
  refine Run.iloadN F d19_8 rfl ?_
  refine Run.callStatic F (w115 hw) (w116 hw) (w113 hw) (w117 hw) (c_cmpG l Z n0 a0 hw t b cs h1 Ls hO1 (At.keep K1 nin0) A1 hn htb hcs) rfl pd29 rfl rfl rfl rfl (by decide) (by decide) rfl d19_9 ?_
  rintro _ h2 _ ⟨_, rfl, i, rfl, hi, K2, hs2, q1, q2, rfl⟩ hO2 _
  refine Run.istore F d19_12 rfl ?_
  dsimp only [List.set]
  refine Run.iload F d19_14 rfl ?_
  refine Run.iloadN F d19_16 rfl ?_
  refine Run.icmp_eq F d19_17 (t := 57) rfl (i32_ti (by omega)) (i32_ti hlen) (fun q => ?_) (fun q => ?_)
  · obtain ⟨hla, A2⟩ := q1 (by omega)
    refine Run.aloadN F d19_57 rfl rfl ?_
    exact Run.areturn F rfl rfl (by decide) (by decide) d19_58 ⟨b, rfl, K1.trans K2 (allS (Or.inr (by omega)) all0), by omega, by rw [byOf, hla]; exact A2, rfl⟩
  · obtain ⟨ch, hch, hbig⟩ := q2 (by omega)
    have hc2 := hcs ch (List.mem_of_getElem? hch)
    refine Run.aloadN F d19_20 rfl rfl ?_
    refine Run.iloadN F d19_21 rfl ?_
    refine Run.iloadN F d19_22 rfl ?_
    refine Run.callStatic F (w227 hw) (w228 hw) (w113 hw) (w229 hw) (c_toBytes16 l Z n0 a0 hw t cs UA UH UL h2 Ls hO2 ((At.keep K1 nin0).keep K2 (ninS htb nin0)) hcap) rfl pd30 rfl rfl rfl rfl (by decide) (by decide) rfl d19_23 ?_
    rintro _ h3 _ ⟨_, rfl, u, rfl, K3, hu, A3, rfl⟩ hO3 _
    refine Run.astore F d19_26 rfl rfl ?_
    dsimp only [List.set]
    refine Run.aload F d19_28 rfl rfl ?_
    refine Run.iload F d19_30 rfl ?_
    refine Run.callStatic F (w243 hw) (w244 hw) (w113 hw) (w245 hw) (c_getChar l Z n0 a0 hw u i ch (u16 cs) UA UH UL h3 Ls hO3 A3 (u16_get hch).1 (u16_get hch).2 hc2.1 hc2.2) rfl pd6 rfl rfl rfl rfl (by decide) (by decide) rfl d19_32 ?_
    rintro _ _ _ ⟨_, rfl, rfl, rfl, rfl⟩ _ _
    refine Run.sipush F d19_35 (z := 255) rfl ?_
    refine Run.icmp_gt F d19_38 (t := 54) rfl rfl (yi := 255) rfl (fun _ => ?_) (fun q => by omega)
    have hla : lat cs = false := by
      rw [lat, List.all_eq_false]; exact ⟨ch, List.mem_of_getElem? hch, by simp; omega⟩
    refine Run.aload F d19_54 rfl rfl ?_
    exact Run.areturn F rfl rfl (by decide) (by decide) d19_56 ⟨u, rfl, (K1.trans K2 (allS (Or.inr (by omega)) all0)).trans K3 all0, by omega, by rw [byOf, hla]; exact A3, rfl⟩
set_option maxRecDepth 65536 in
set_option maxHeartbeats 4000000 in
theorem c_coderLen (l : Launch) (Z : State) (n0 : Nat) (a0 : Array Value) (hw : ∀ d ∈ tables_1, d.before a0 Z = true) (b : Nat) (z r : Int32) (vs : List Value) (h : Heap) (Ls : Lits) (hO : Old Z n0 h) (A : Av Z h b .byte vs) (hr : (XT.ushr (z - Int32.ofNat vs.length) 31).toInt8.toInt32 = r) (hn : narrow .byte (.int r) = .int r) :
    Con l Z n0 (⟨"java/lang/StringUTF16", "coderFromArrayLen", "([BI)B"⟩ : MethodName) jdk_52_method_15_code 2 (some .byte) ({ frames := 0, cells := 0, slots := 0, locals := 0 } : Room) [.ref b, .int z] h Ls [] (RV fun v h' Ls' => v = .int r ∧ h = h' ∧ Ls = Ls') := by
  refine Con.of_run (plainFor_of_name pn3) hO ?_
  intro p e s m below meth c F hs
  refine ⟨[.val (.ref b), .val (.int z)], by first | rfl | (simp [entryFrame, mkF, argsToLocals, Value.category]; done) | (rcases ref_cases hv with rfl | ⟨va, rfl⟩ <;> rfl), ?_⟩
  subst hr
  refine Run.iloadN F d21_0 rfl ?_
  refine Run.aloadN F d21_1 rfl rfl ?_
  refine Run.arrlen F A d21_2 ?_
  refine Run.isub F d21_3 ?_
  refine Run.bipush F d21_4 (z := 31) rfl ?_
  refine Run.iushr F d21_6 ?_
  refine Run.i2b F d21_7 ?_
  exact Run.ireturn F (by simp) hn (by decide) (by decide) d21_8 ⟨rfl, rfl, rfl⟩
set_option maxRecDepth 65536 in
set_option maxHeartbeats 4000000 in
theorem c_initG (l : Launch) (Z : State) (n0 : Nat) (a0 : Array Value) (hw : ∀ d ∈ tables_1, d.before a0 Z = true) (x t : Nat) (cs : List Int32) {cz : Int32} (SC : Sta Z Z.heap "java/lang/String" "COMPACT_STRINGS" "Z" (.int cz)) (hcz : cz.toInt ≠ 0) (UA : Sta Z Z.heap "java/lang/StringUTF16" "$assertionsDisabled" "Z" (.int 1)) (UH : Sta Z Z.heap "java/lang/StringUTF16" "HI_BYTE_SHIFT" "I" (.int 0)) (UL : Sta Z Z.heap "java/lang/StringUTF16" "LO_BYTE_SHIFT" "I" (.int 8)) (h : Heap) (Ls : Lits) (hO : Old Z n0 h) (E : Exa Z h x "java/lang/String") (Fv : Fld Z h x "java/lang/String" "value" "[B" .null) (Fc : Fld Z h x "java/lang/String" "coder" "B" (.int 0)) (g : n0 ≤ x) (At : Av Z h t .char (cs.map Value.int)) (hpos : 0 < cs.length) (hcap : cs.length ≤ 18) (hcs : ∀ c ∈ cs, 0 ≤ c.toInt ∧ c.toInt < 65536) :
    Con l Z n0 (⟨"java/lang/String", "<init>", "([CIILjava/lang/Void;)V"⟩ : MethodName) jdk_42_method_149_code 6 none ({ frames := 4, cells := 2, slots := 54, locals := 57 } : Room) [.ref x, .ref t, .int 0, .int (Int32.ofNat cs.length), .null] h Ls [] (RN fun h' Ls' => ∃ b : Nat, Keep h h' [x] ∧ h.size ≤ b ∧ Str Z h' x b (coOf cs) (byOf cs) ∧ Ls = Ls') := by
  refine Con.of_run (plainFor_of_name pn0) hO ?_
  intro p e s m below meth c F hs
  refine ⟨[.val (.ref x), .val (.ref t), .val (.int 0), .val (.int (Int32.ofNat cs.length)), .val .null, .unset], by first | rfl | (simp [entryFrame, mkF, argsToLocals, Value.category]; done) | (rcases ref_cases hv with rfl | ⟨va, rfl⟩ <;> rfl), ?_⟩
  have hlen : cs.length < 2 ^ 31 := by simpa using At.len
  have hco : (XT.ushr (Int32.ofNat cs.length - Int32.ofNat (byOf cs).length) 31).toInt8.toInt32 = coOf cs := by
    cases hl : lat cs
    · rw [byOf, coOf, hl, if_neg (by simp), if_neg (by simp), u16_len]; exact coder1 hpos (by omega)
    · rw [byOf, coOf, hl, if_pos rfl, if_pos rfl, List.length_map]; exact coder0 _
  have hn8 : narrow .byte (.int (coOf cs)) = .int (coOf cs) := by rw [coOf]; split <;> rfl
  have hf8 : fits .byte (.int (coOf cs)) = true := by rw [coOf]; split <;> rfl
  have hne : Jvm.RoadKit.slotOf Z "java/lang/String" "coder" "B" ≠ Jvm.RoadKit.slotOf Z "java/lang/String" "value" "[B" := slot_ne (a0 := a0) (C := "java/lang/String") (Or.inr (w22 hw)) (Or.inr (w21 hw)) (by decide) (t := .byte) (t' := .array .byte) (by decide) (by decide)
  refine Run.aloadN F d3_0 rfl rfl ?_
  refine Run.objInit F (w16 hw) (w17 hw) (w18 hw) rfl rfl rfl d3_1 ?_
  refine Run.iloadN F d3_4 rfl ?_
  refine Run.if_ne F d3_5 (t := 27) rfl (i32_ti hlen) (fun _ => ?_) (fun q => by omega)
  refine Run.getstatic F (w44 hw) Via.refl SC d3_27 ?_
  refine Run.if_eq F d3_30 (t := 58) rfl rfl (fun q => absurd q hcz) (fun _ => ?_)
  refine Run.aloadN F d3_33 rfl rfl ?_
  refine Run.iloadN F d3_34 rfl ?_
  refine Run.iloadN F d3_35 rfl ?_
  refine Run.callStatic F (w111 hw) (w112 hw) (w113 hw) (w114 hw) (c_cmpArrG l Z n0 a0 hw t cs UA UH UL h Ls hO At hcap hcs) rfl pd30 rfl rfl rfl rfl (by decide) (by decide) rfl d3_36 ?_
  rintro _ h1 _ ⟨_, rfl, b, rfl, K1, hb, A1, rfl⟩ hO1 _
  refine Run.astore F d3_39 rfl rfl ?_
  dsimp only [List.set]
  refine Run.aloadN F d3_41 rfl rfl ?_
  refine Run.aload F d3_42 rfl rfl ?_
  refine Run.iloadN F d3_44 rfl ?_
  refine Run.callStatic F (w118 hw) (w119 hw) (w113 hw) (w120 hw) (c_coderLen l Z n0 a0 hw b (Int32.ofNat cs.length) (coOf cs) (byOf cs) h1 Ls hO1 A1 hco hn8) rfl pd31 rfl rfl rfl rfl (by decide) (by decide) rfl d3_45 ?_
  rintro _ _ _ ⟨_, rfl, rfl, rfl, rfl⟩ _ _
  refine Run.putfield F (w26 hw) Via.refl (Fc.keep K1 nin0) (E.keep K1) g (Or.inr ⟨(w22 hw), rfl, rfl⟩) (w6 hw) (ty := .byte) (by decide) (v' := .int (coOf cs)) hn8 hf8 d3_48 ?_
  intro h2 W2 K2 hs2 F2
  refine Run.aloadN F d3_51 rfl rfl ?_
  refine Run.aload F d3_52 rfl rfl ?_
  have hxb : b ≠ x := by have := (ltE E); omega
  have Fv2 : Fld Z h2 x "java/lang/String" "value" "[B" .null := (Fv.keep K1 nin0).other W2 (Or.inr (Ne.symm hne))
  have E2 : Exa Z h2 x "java/lang/String" := (E.keep K1).keep K2
  refine Run.putfield F (w25 hw) Via.refl Fv2 E2 g (Or.inr ⟨(w21 hw), rfl, rfl⟩) (w6 hw) (ty := (.array .byte)) (by decide) (v' := .ref b) rfl rfl d3_54 ?_
  intro h3 W3 K3 hs3 F3
  have K13 : Keep h h3 [x] := ((K1.mono (ws' := [x]) (by simp)).trans K2 (allS (Or.inl (List.mem_singleton.mpr rfl)) all0)).trans K3 (allS (Or.inl (List.mem_singleton.mpr rfl)) all0)
  exact Run.return_ F (by decide) (by decide) d3_57 ⟨b, K13, hb, ⟨E2.keep K3, F2.other W3 (Or.inr hne), F3, (A1.keep K2 (ninS hxb nin0)).keep K3 (ninS hxb nin0)⟩, rfl⟩
set_option maxRecDepth 65536 in
set_option maxHeartbeats 4000000 in
theorem c_newG (l : Launch) (Z : State) (n0 : Nat) (a0 : Array Value) (hw : ∀ d ∈ tables_1, d.before a0 Z = true) (x t : Nat) (cs : List Int32) {cz : Int32} (SC : Sta Z Z.heap "java/lang/String" "COMPACT_STRINGS" "Z" (.int cz)) (hcz : cz.toInt ≠ 0) (UA : Sta Z Z.heap "java/lang/StringUTF16" "$assertionsDisabled" "Z" (.int 1)) (UH : Sta Z Z.heap "java/lang/StringUTF16" "HI_BYTE_SHIFT" "I" (.int 0)) (UL : Sta Z Z.heap "java/lang/StringUTF16" "LO_BYTE_SHIFT" "I" (.int 8)) (h : Heap) (Ls : Lits) (hO : Old Z n0 h) (E : Exa Z h x "java/lang/String") (Fv : Fld Z h x "java/lang/String" "value" "[B" .null) (Fc : Fld Z h x "java/lang/String" "coder" "B" (.int 0)) (g : n0 ≤ x) (At : Av Z h t .char (cs.map Value.int)) (hpos : 0 < cs.length) (hcap : cs.length ≤ 18) (hcs : ∀ c ∈ cs, 0 ≤ c.toInt ∧ c.toInt < 65536) :
    Con l Z n0 (⟨"java/lang/String", "<init>", "([C)V"⟩ : MethodName) jdk_42_method_3_code 2 none ({ frames := 5, cells := 2, slots := 54, locals := 74 } : Room) [.ref x, .ref t] h Ls [] (RN fun h' Ls' => ∃ b : Nat, Keep h h' [x] ∧ h.size ≤ b ∧ Str Z h' x b (coOf cs) (byOf cs) ∧ Ls = Ls') := by
  refine Con.of_run (plainFor_of_name pn0) hO ?_
  intro p e s m below meth c F hs
  refine ⟨[.val (.ref x), .val (.ref t)], by first | rfl | (simp [entryFrame, mkF, argsToLocals, Value.category]; done) | (rcases ref_cases hv with rfl | ⟨va, rfl⟩ <;> rfl), ?_⟩
  refine Run.aloadN F d2_0 rfl rfl ?_
  refine Run.aloadN F d2_1 rfl rfl ?_
  refine Run.iconst F d2_2 (z := 0) rfl ?_
  refine Run.aloadN F d2_3 rfl rfl ?_
  refine Run.arrlen F At d2_4 ?_
  rw [List.length_map]
  refine Run.aconstNull F d2_5 ?_
  refine Run.callInit F (w12 hw) (w13 hw) (w7 hw) (w15 hw) (c_initG l Z n0 a0 hw x t cs SC hcz UA UH UL h Ls hO E Fv Fc g At hpos hcap hcs) rfl rfl pd32 rfl rfl rfl rfl (by decide) (by decide) rfl d2_6 ?_
  rintro _ h1 _ ⟨rfl, b, K1, hb, S1, rfl⟩ _ _
  exact Run.return_ F (by decide) (by decide) d2_9 ⟨b, K1, hb, S1, rfl⟩
set_option maxRecDepth 65536 in
set_option maxHeartbeats 4000000 in
theorem c_initE (l : Launch) (Z : State) (n0 : Nat) (a0 : Array Value) (hw : ∀ d ∈ tables_1, d.before a0 Z = true) (x t : Nat) (lt : List (String × Addr)) (wS : ∀ a ∈ Bundle.stringAtoms, a.before a0 Z = true) (hh : Jvm.Lit.constHeld Z "java/lang/String" 7) (hcw : Jvm.Lit.compactW.before a0 Z = true) (h : Heap) (Ls : Lits) (hO : Old Z n0 h) (E : Exa Z h x "java/lang/String") (Fv : Fld Z h x "java/lang/String" "value" "[B" .null) (Fc : Fld Z h x "java/lang/String" "coder" "B" (.int 0)) (g : n0 ≤ x) (hLs : Ls = some lt) (hlt : ∀ t ∈ lt, t.1 = "" → ∃ b : Nat, Str Z h t.2 b 0 [] ∧ t.2 ≠ x ∧ b ≠ x) :
    Con l Z n0 (⟨"java/lang/String", "<init>", "([CIILjava/lang/Void;)V"⟩ : MethodName) jdk_42_method_149_code 6 none ({ frames := 1, cells := 4, slots := 8, locals := 12 } : Room) [.ref x, .ref t, .int 0, .int 0, .null] h Ls [] (RN fun h' Ls' => ∃ b a1 b1 a2 b2 : Nat, Keep h h' [x] ∧ Str Z h' x b 0 [] ∧ Ls' = some (("", a2) :: ("", a1) :: lt) ∧ Str Z h' a1 b1 0 [] ∧ Str Z h' a2 b2 0 [] ∧ (b ≠ x ∧ a1 ≠ x ∧ b1 ≠ x ∧ a2 ≠ x ∧ b2 ≠ x)) := by
  refine Con.of_run (plainFor_of_name pn0) hO ?_
  intro p e s m below meth c F hs
  refine ⟨[.val (.ref x), .val (.ref t), .val (.int 0), .val (.int 0), .val .null, .unset], by first | rfl | (simp [entryFrame, mkF, argsToLocals, Value.category]; done) | (rcases ref_cases hv with rfl | ⟨va, rfl⟩ <;> rfl), ?_⟩
  subst hLs
  have e0 : litB "" = [] := by simp [litB]
  have hne : Jvm.RoadKit.slotOf Z "java/lang/String" "coder" "B" ≠ Jvm.RoadKit.slotOf Z "java/lang/String" "value" "[B" := slot_ne (a0 := a0) (C := "java/lang/String") (Or.inr (w22 hw)) (Or.inr (w21 hw)) (by decide) (t := .byte) (t' := .array .byte) (by decide) (by decide)
  refine Run.aloadN F d3_0 rfl rfl ?_
  refine Run.objInit F (w16 hw) (w17 hw) (w18 hw) rfl rfl rfl d3_1 ?_
  refine Run.iloadN F d3_4 rfl ?_
  refine Run.if_ne F d3_5 (t := 27) rfl rfl (fun q => absurd rfl q) (fun _ => ?_)
  refine Run.aloadN F d3_8 rfl rfl ?_
  refine Run.ldcS (P := fun a b => a ≠ x ∧ b ≠ x) F (w19 hw) wS hh hcw (by simp) (by rw [e0]; exact hlt) 0 (by simp) rfl (by decide) (by decide) d3_9 ?_
  intro h1 a1 b1 K1 S1 p1
  rw [e0] at S1
  have lx := (ltE E)
  have p1' : a1 ≠ x ∧ b1 ≠ x := by rcases p1 with ⟨u, v⟩ | ⟨u, v⟩ | ⟨u, v⟩ <;> first | exact ⟨u, v⟩ | (constructor <;> omega)
  refine Run.getfield F (host := "") (Or.inl (w25 hw)) Via.refl S1.2.2.1 d3_11 ?_
  refine Run.putfield F (w25 hw) Via.refl (Fv.keep K1 nin0) (E.keep K1) g (Or.inr ⟨(w21 hw), rfl, rfl⟩) (w6 hw) (ty := (.array .byte)) (by decide) (v' := .ref b1) rfl rfl d3_14 ?_
  intro h2 W2 K2 hs2 F2
  have S1' : Str Z h2 a1 b1 0 [] := S1.keep K2 (ninS p1'.1 nin0) (ninS p1'.2 nin0)
  have E2 : Exa Z h2 x "java/lang/String" := (E.keep K1).keep K2
  refine Run.aloadN F d3_17 rfl rfl ?_
  refine Run.ldcS (P := fun a b => a ≠ x ∧ b ≠ x) F (w19 hw) wS hh hcw (by simp) (by
    rw [e0]; intro t ht he
    rcases List.mem_cons.mp ht with rfl | ht
    · exact ⟨b1, S1', p1'⟩
    · obtain ⟨b, q1, q2, q3⟩ := hlt t ht he
      exact ⟨b, (q1.keep K1 nin0 nin0).keep K2 (ninS q2 nin0) (ninS q3 nin0), q2, q3⟩) 0 (by simp) (by decide) (by decide) (by decide) d3_18 ?_
  intro h3 a2 b2 K3 S2 p2
  rw [e0] at S2
  have l2 := (ltE E2)
  have p2' : a2 ≠ x ∧ b2 ≠ x := by rcases p2 with ⟨u, v⟩ | ⟨u, v⟩ | ⟨u, v⟩ <;> first | exact ⟨u, v⟩ | (constructor <;> omega)
  refine Run.getfield F (host := "") (Or.inl (w26 hw)) Via.refl S2.2.1 d3_20 ?_
  refine Run.putfield F (w26 hw) Via.refl (((Fc.keep K1 nin0).other W2 (Or.inr hne)).keep K3 nin0) (E2.keep K3) g (Or.inr ⟨(w22 hw), rfl, rfl⟩) (w6 hw) (ty := .byte) (by decide) (v' := .int 0) rfl rfl d3_23 ?_
  intro h4 W4 K4 hs4 F4
  have K04 : Keep h h4 [x] := ((((K1.mono (ws' := [x]) (by simp)).trans K2 (allS (Or.inl (List.mem_singleton.mpr rfl)) all0)).trans K3 all0).trans K4 (allS (Or.inl (List.mem_singleton.mpr rfl)) all0))
  have Fx4 : Fld Z h4 x "java/lang/String" "value" "[B" (.ref b1) := (F2.keep K3 nin0).other W4 (Or.inr (Ne.symm hne))
  exact Run.return_ F (by decide) (by decide) d3_26 ⟨b1, a1, b1, a2, b2, K04, ⟨(E2.keep K3).keep K4, F4, Fx4, (S1'.2.2.2.keep K3 nin0).keep K4 (ninS p1'.2 nin0)⟩, rfl, (S1'.keep K3 nin0 nin0).keep K4 (ninS p1'.1 nin0) (ninS p1'.2 nin0), S2.keep K4 (ninS p2'.1 nin0) (ninS p2'.2 nin0), p1'.2, p1'.1, p1'.2, p2'.1, p2'.2⟩
set_option maxRecDepth 65536 in
set_option maxHeartbeats 4000000 in
theorem c_newE (l : Launch) (Z : State) (n0 : Nat) (a0 : Array Value) (hw : ∀ d ∈ tables_1, d.before a0 Z = true) (x t : Nat) (lt : List (String × Addr)) (wS : ∀ a ∈ Bundle.stringAtoms, a.before a0 Z = true) (hh : Jvm.Lit.constHeld Z "java/lang/String" 7) (hcw : Jvm.Lit.compactW.before a0 Z = true) (h : Heap) (Ls : Lits) (hO : Old Z n0 h) (E : Exa Z h x "java/lang/String") (Fv : Fld Z h x "java/lang/String" "value" "[B" .null) (Fc : Fld Z h x "java/lang/String" "coder" "B" (.int 0)) (g : n0 ≤ x) (At : Av Z h t .char []) (hLs : Ls = some lt) (hlt : ∀ t ∈ lt, t.1 = "" → ∃ b : Nat, Str Z h t.2 b 0 [] ∧ t.2 ≠ x ∧ b ≠ x) :
    Con l Z n0 (⟨"java/lang/String", "<init>", "([C)V"⟩ : MethodName) jdk_42_method_3_code 2 none ({ frames := 2, cells := 4, slots := 8, locals := 29 } : Room) [.ref x, .ref t] h Ls [] (RN fun h' Ls' => ∃ b a1 b1 a2 b2 : Nat, Keep h h' [x] ∧ Str Z h' x b 0 [] ∧ Ls' = some (("", a2) :: ("", a1) :: lt) ∧ Str Z h' a1 b1 0 [] ∧ Str Z h' a2 b2 0 [] ∧ (b ≠ x ∧ a1 ≠ x ∧ b1 ≠ x ∧ a2 ≠ x ∧ b2 ≠ x)) := by
  refine Con.of_run (plainFor_of_name pn0) hO ?_
  intro p e s m below meth c F hs
  refine ⟨[.val (.ref x), .val (.ref t)], by first | rfl | (simp [entryFrame, mkF, argsToLocals, Value.category]; done) | (rcases ref_cases hv with rfl | ⟨va, rfl⟩ <;> rfl), ?_⟩
  refine Run.aloadN F d2_0 rfl rfl ?_
  refine Run.aloadN F d2_1 rfl rfl ?_
  refine Run.iconst F d2_2 (z := 0) rfl ?_
  refine Run.aloadN F d2_3 rfl rfl ?_
  refine Run.arrlen F At d2_4 ?_
  refine Run.aconstNull F d2_5 ?_
  refine Run.callInit F (w12 hw) (w13 hw) (w7 hw) (w15 hw) (c_initE l Z n0 a0 hw x t lt wS hh hcw h Ls hO E Fv Fc g hLs hlt) rfl rfl pd32 rfl rfl rfl rfl (by decide) (by decide) rfl d2_6 ?_
  rintro _ h1 _ ⟨rfl, hq⟩ _ _
  exact Run.return_ F (by decide) (by decide) d2_9 hq

def e1 (c : Int32) : List Int32 := if c.toInt = 92 then [92, 92] else if c.toInt = 9 then [92, 116] else if c.toInt = 10 then [92, 110] else if c.toInt = 13 then [92, 114] else [c]
def esc (cs : List Int32) : List Int32 := cs.flatMap e1
theorem e1_len (c : Int32) : 1 ≤ (e1 c).length ∧ (e1 c).length ≤ 2 := by
  unfold e1
  repeat' split
  all_goals simp
theorem e1_rng {c : Int32} (h : 0 ≤ c.toInt ∧ c.toInt < 65536) : ∀ x ∈ e1 c, 0 ≤ x.toInt ∧ x.toInt < 65536 := by
  intro x hx
  unfold e1 at hx
  repeat' split at hx
  all_goals simp only [List.mem_cons, List.not_mem_nil, or_false] at hx
  all_goals first | (rcases hx with rfl | rfl <;> decide) | (subst hx; exact h)
theorem esc_len (cs : List Int32) : (esc cs).length ≤ 2 * cs.length := by
  induction cs with
  | nil => simp [esc]
  | cons c cs ih =>
    have := (e1_len c).2
    simp only [esc, List.flatMap_cons, List.length_append, List.length_cons] at ih ⊢
    omega
theorem esc_rng {cs : List Int32} (h : ∀ c ∈ cs, 0 ≤ c.toInt ∧ c.toInt < 65536) : ∀ x ∈ esc cs, 0 ≤ x.toInt ∧ x.toInt < 65536 := by
  intro x hx
  obtain ⟨c, hc, hx⟩ := List.mem_flatMap.mp hx
  exact e1_rng (h c hc) x hx
theorem esc_next {cs : List Int32} {i : Nat} {c : Int32} (hc : cs[i]? = some c) : esc (cs.take (i + 1)) = esc (cs.take i) ++ e1 c := by
  rw [List.take_succ, hc]; simp [esc]
theorem lat_lit (ds : List Int32) {es : List Int32} (h : lat es = true) : (!lat (ds ++ es)) = !lat ds := by rw [lat_app, h, Bool.and_true]
theorem lat_chr (ds : List Int32) (c : Int32) : (!lat (ds ++ [c])) = (!lat ds || !decide (c.toInt < 256)) := by
  rw [lat_app, Bool.not_and]; congr 1; simp [lat]
theorem chr_rng (x : Int32) : 0 ≤ (chr x).toInt ∧ (chr x).toInt < 65536 := by rw [chr_toInt]; omega
/-- the interned texts, apart from the builder -/
def LI (Z : State) (h : Heap) (x v : Nat) (lt : List (String × Addr)) : Prop := ∀ t ∈ lt, t.1 = "" ∨ ∃ b : Nat, Str Z h t.2 b 0 (litB t.1) ∧ t.2 ≠ x ∧ t.2 ≠ v ∧ b ≠ x ∧ b ≠ v
theorem LI.ext {Z : State} {h h' : Heap} {x v : Nat} {lt : List (String × Addr)} (L : LI Z h x v lt) (K : Keep h h' []) : LI Z h' x v lt := fun t ht => by
  rcases L t ht with q | ⟨b, q, r⟩
  · exact Or.inl q
  · exact Or.inr ⟨b, q.keep K nin0 nin0, r⟩
theorem LI.keep {Z : State} {h h' : Heap} {x v v' : Nat} {lt : List (String × Addr)} (L : LI Z h x v lt) (K : Keep h h' [x, v]) (hv : v' = v ∨ h.size ≤ v') : LI Z h' x v' lt := fun t ht => by
  rcases L t ht with q | ⟨b, q, r1, r2, r3, r4⟩
  · exact Or.inl q
  · have l1 := q.la
    have l2 := q.lb
    refine Or.inr ⟨b, q.keep K (ninS r1 (ninS r2 nin0)) (ninS r3 (ninS r4 nin0)), r1, ?_, r3, ?_⟩
    · rcases hv with rfl | y
      · exact r2
      · exact Nat.ne_of_lt (Nat.lt_of_lt_of_le l1 y)
    · rcases hv with rfl | y
      · exact r4
      · omega
theorem LI.cons {Z : State} {h : Heap} {x v a b : Nat} {t : String} {lt : List (String × Addr)} (L : LI Z h x v lt) (S : Str Z h a b 0 (litB t)) (p : a ≠ x ∧ a ≠ v ∧ b ≠ x ∧ b ≠ v) : LI Z h x v ((t, a) :: lt) := fun y hy => by
  rcases List.mem_cons.mp hy with rfl | hy
  · exact Or.inr ⟨b, S, p⟩
  · exact L y hy
theorem co8 (cs : List Int32) : narrow .byte (.int (coOf cs)) = .int (coOf cs) := by rw [coOf]; split <;> rfl
theorem lenOf2 {cs : List Int32} (h : 2 * cs.length < 2 ^ 31) : Int32.ofNat (byOf cs).length >>> (coOf cs &&& 31) = Int32.ofNat cs.length := by
  have hp := wd_pos (!lat cs)
  have hw : wd (!lat cs) ≤ 2 := by cases lat cs <;> decide
  have hm : wd (!lat cs) * cs.length ≤ 2 * cs.length := Nat.mul_le_mul_right _ hw
  rw [coOf_b, byOf_b, byts_len, shr_b2i _ (by omega), Nat.mul_div_cancel_left _ hp]

theorem tx0_lat : ∀ c ∈ ("\\\\" : String).toList, c.toNat < 256 := by decide +kernel
theorem tx0_len : 4 * ("\\\\" : String).toList.length ≤ 8 := by decide +kernel
theorem tx0_b : litB "\\\\" = ([92, 92] : List Int32).map lb := by decide +kernel
theorem tx0_r : ∀ c ∈ ([92, 92] : List Int32), 0 ≤ c.toInt ∧ c.toInt < 256 := by decide
theorem tx1_lat : ∀ c ∈ ("\\t" : String).toList, c.toNat < 256 := by decide +kernel
theorem tx1_len : 4 * ("\\t" : String).toList.length ≤ 8 := by decide +kernel
theorem tx1_b : litB "\\t" = ([92, 116] : List Int32).map lb := by decide +kernel
theorem tx1_r : ∀ c ∈ ([92, 116] : List Int32), 0 ≤ c.toInt ∧ c.toInt < 256 := by decide
theorem tx2_lat : ∀ c ∈ ("\\n" : String).toList, c.toNat < 256 := by decide +kernel
theorem tx2_len : 4 * ("\\n" : String).toList.length ≤ 8 := by decide +kernel
theorem tx2_b : litB "\\n" = ([92, 110] : List Int32).map lb := by decide +kernel
theorem tx2_r : ∀ c ∈ ([92, 110] : List Int32), 0 ≤ c.toInt ∧ c.toInt < 256 := by decide
theorem tx3_lat : ∀ c ∈ ("\\r" : String).toList, c.toNat < 256 := by decide +kernel
theorem tx3_len : 4 * ("\\r" : String).toList.length ≤ 8 := by decide +kernel
theorem tx3_b : litB "\\r" = ([92, 114] : List Int32).map lb := by decide +kernel
theorem tx3_r : ∀ c ∈ ([92, 114] : List Int32), 0 ≤ c.toInt ∧ c.toInt < 256 := by decide
set_option maxRecDepth 65536 in
set_option maxHeartbeats 4000000 in
theorem c_field (l : Launch) (Z : State) (n0 : Nat) (a0 : Array Value) (hw : ∀ d ∈ tables_1, d.before a0 Z = true) (s0 bs : Nat) (cs : List Int32) (lt : List (String × Addr)) {cz : Int32} (SC : Sta Z Z.heap "java/lang/String" "COMPACT_STRINGS" "Z" (.int cz)) (hcz : cz.toInt ≠ 0) {sf : Value} (SF : Sta Z Z.heap "jdk/internal/util/Preconditions" "SIOOBE_FORMATTER" "Ljava/util/function/BiFunction;" sf) (hsf : sf.isRef = true) (UA : Sta Z Z.heap "java/lang/StringUTF16" "$assertionsDisabled" "Z" (.int 1)) (UH : Sta Z Z.heap "java/lang/StringUTF16" "HI_BYTE_SHIFT" "I" (.int 0)) (UL : Sta Z Z.heap "java/lang/StringUTF16" "LO_BYTE_SHIFT" "I" (.int 8)) (wS : ∀ a ∈ Bundle.stringAtoms, a.before a0 Z = true) (hcw : Jvm.Lit.compactW.before a0 Z = true) (hh35 : Jvm.Lit.constHeld Z "com/example/twice_to_once/twicetoonce/cli/RecordLines" 35) (hh41 : Jvm.Lit.constHeld Z "com/example/twice_to_once/twicetoonce/cli/RecordLines" 41) (hh43 : Jvm.Lit.constHeld Z "com/example/twice_to_once/twicetoonce/cli/RecordLines" 43) (hh45 : Jvm.Lit.constHeld Z "com/example/twice_to_once/twicetoonce/cli/RecordLines" 45) (h : Heap) (Ls : Lits) (hO : Old Z n0 h) (S : Str Z h s0 bs (coOf cs) (byOf cs)) (hcs : ∀ c ∈ cs, 0 ≤ c.toInt ∧ c.toInt < 65536) (hlen : cs.length ≤ 4) (hLs : Ls = some lt) (hlt : ∀ t ∈ lt, t.1 = "") :
    Con l Z n0 (⟨"com/example/twice_to_once/twicetoonce/cli/RecordLines", "field", "(Ljava/lang/String;)Ljava/lang/String;"⟩ : MethodName) prog_1_method_4_code 4 (some (.object "java/lang/String")) ({ frames := 9, cells := 16, slots := 350, locals := 132 } : Room) [.ref s0] h Ls [] (RV fun w h' Ls' => ∃ r b : Nat, w = .ref r ∧ Keep h h' [] ∧ Str Z h' r b (coOf (esc cs)) (byOf (esc cs))) := by
  refine Con.of_run (plainFor_of_name pn8) hO ?_
  intro p e s m below meth c F hs
  refine ⟨[.val (.ref s0), .unset, .unset, .unset], by first | rfl | (simp [entryFrame, mkF, argsToLocals, Value.category]; done) | (rcases ref_cases hv with rfl | ⟨va, rfl⟩ <;> rfl), ?_⟩
  subst hLs
  refine Run.new F (w31 hw) (w32 hw) (w33 hw) (by decide) (by decide) d5_0 ?_
  intro h1 x hx K1 lt1 E1 D1 U1
  have hO1 : Old Z n0 h1 := hO.keep K1 all0
  have g : n0 ≤ x := by rw [hx, ← hO.1]; exact hO.2.1
  have Gv := D1 (O := ASB) (f := "value") (ds := "[B") (ty := .array .byte) (Or.inl (w57 hw)) (by decide)
  have Gc := D1 (O := ASB) (f := "coder") (ds := "B") (ty := .byte) (Or.inl (w59 hw)) (by decide)
  have Gn := D1 (O := ASB) (f := "count") (ds := "I") (ty := .int) (Or.inl (w87 hw)) (by decide)
  have Gm := D1 (O := ASB) (f := "maybeLatin1") (ds := "Z") (ty := .boolean) (Or.inl (w282 hw)) (by decide)
  have S1 := S.keep K1 nin0 nin0
  have z1 := K1.1
  refine Run.dup F d5_3 rfl ?_
  refine Run.aloadN F d5_4 rfl rfl ?_
  refine Run.callVirtual F (w34 hw) (w35 hw) (fun U hU => notFace_of_selects (args := #[]) (mvT hU (w37 hw))) (w37 hw) (w36 hw) (w7 hw) (w38 hw) S1.1 (c_length l Z n0 a0 hw s0 bs (coOf cs) (Int32.ofNat cs.length) (byOf cs) SC hcz h1 _ hO1 S1 (co8 cs) (lenOf2 (by omega))) rfl pd8 rfl rfl rfl rfl (by decide) (by decide) rfl d5_5 ?_
  rintro _ _ _ ⟨_, rfl, rfl, rfl, rfl⟩ _ _
  refine Run.callInit F (w45 hw) (w46 hw) (w33 hw) (w47 hw) (c_sbInit l Z n0 a0 hw x cs.length SC hcz h1 _ hO1 E1 Gv Gc Gn Gm g (by omega)) rfl rfl pd17 rfl rfl rfl rfl (by decide) (by decide) rfl d5_8 ?_
  rintro _ h2 _ ⟨rfl, v0, B0, K2, hv0, rfl⟩ hO2 _
  show Run _ _ _ _ _ _ _ _ _ _ _ _ _ _ _ _ _ _ _ _ [Value.ref x]
  have hxh : h.size ≤ x := Nat.le_of_eq hx.symm
  refine Run.astoreN F d5_11 rfl rfl ?_
  dsimp only [List.set]
  refine Run.iconst F d5_12 (z := 0) rfl ?_
  refine Run.istoreN F d5_13 rfl ?_
  dsimp only [List.set]
  refine Run.rec (fun r h' k n Ls' L st => ∃ i v cap lt' x3, i + r = cs.length ∧ okSlot x3 = true ∧ Sb Z h' x v (!lat (esc (cs.take i))) cap (esc (cs.take i)) ∧ n0 ≤ v ∧ h.size ≤ v ∧ cap ≤ wd (!lat (esc (cs.take i))) * 18 ∧ Keep h h' [] ∧ Old Z n0 h' ∧ k ≤ 2 + 3 * i ∧ n ≤ 22 + 72 * i ∧ Ls' = some lt' ∧ LI Z h' x v lt' ∧ L = [.val (.ref s0), .val (.ref x), .val (.int (Int32.ofNat i)), x3] ∧ st = []) ?_ cs.length _ _ _ _ _ _ ⟨0, v0, cs.length, lt, .unset, by omega, rfl, B0, by omega, by omega, by show cs.length ≤ 1 * 18; omega, K1.trans K2 (allS (Or.inr hxh) all0), hO2, by decide, by decide, rfl, fun t ht => Or.inl (hlt t ht), rfl, rfl⟩
  rintro r h' k n Ls' L st ⟨i, v, cap, lt', x3, hi, hx3, B, gv, hvh, hcap, KK0, OO, hk, hn, rfl, LL, rfl, rfl⟩ ih
  have S' := S.keep KK0 nin0 nin0
  have hel := esc_len (cs.take i)
  rw [List.length_take] at hel
  have hwd : wd (!lat (esc (cs.take i))) ≤ 2 := by cases lat (esc (cs.take i)) <;> decide
  refine Run.iloadN F d5_14 rfl ?_
  refine Run.aloadN F d5_15 rfl rfl ?_
  refine Run.callVirtual F (w34 hw) (w35 hw) (fun U hU => notFace_of_selects (args := #[]) (mvT hU (w37 hw))) (w37 hw) (w36 hw) (w7 hw) (w38 hw) S'.1 (c_length l Z n0 a0 hw s0 bs (coOf cs) (Int32.ofNat cs.length) (byOf cs) SC hcz h' _ OO S' (co8 cs) (lenOf2 (by omega))) rfl pd8 rfl rfl rfl rfl (by show k + 0 ≤ 16; omega) (by show n + 0 ≤ 350; omega) rfl d5_16 ?_
  rintro _ _ _ ⟨_, rfl, rfl, rfl, rfl⟩ _ _
  refine Run.icmp_ge F d5_19 (t := 124) rfl (i32_ti (by omega)) (i32_ti (by omega)) (fun q => ?_) (fun q => ?_)
  · have hr0 : r = 0 := by omega
    have hi' : i = cs.length := by omega
    subst hr0 hi'
    rw [List.take_length] at B hcap hwd
    have hc36 : cap ≤ 36 := Nat.le_trans hcap (Nat.mul_le_mul_right 18 hwd)
    refine Run.aloadN F d5_124 rfl rfl ?_
    refine Run.callVirtual F (w60 hw) (w61 hw) (fun U hU => notFace_of_selects (args := #[]) (mvT hU (w63 hw))) (w63 hw) (w62 hw) (w33 hw) (w64 hw) B.1 (c_toStr l Z n0 a0 hw x v _ cap _ SC hcz h' _ OO B hc36) rfl pd35 rfl rfl rfl rfl (by show k + 0 + 2 ≤ 16; omega) (by show n + 0 + 40 ≤ 350; omega) rfl d5_125 ?_
    rintro _ h3 _ ⟨_, rfl, r1, b1, rfl, K3, hr1, hb1, T3, rfl⟩ O3 _
    rw [← coOf_b, ← byOf_b] at T3
    exact Run.areturn F rfl rfl (by show k + 0 + 2 ≤ 16; omega) (by show n + 0 + 40 ≤ 350; omega) d5_128 ⟨r1, b1, rfl, KK0.trans K3 all0, T3⟩
  · obtain ⟨r, rfl⟩ : ∃ r', r = r' + 1 := ⟨r - 1, by omega⟩
    obtain ⟨c1, hc1⟩ : ∃ c1, cs[i]? = some c1 := ⟨_, List.getElem?_eq_getElem (by omega)⟩
    have hc2 := hcs c1 (List.mem_of_getElem? hc1)
    have hr1 : ∀ c ∈ esc (cs.take i), 0 ≤ c.toInt ∧ c.toInt < 65536 := esc_rng fun c hc => hcs c (List.mem_of_mem_take hc)
    refine Run.aloadN F d5_22 rfl rfl ?_
    refine Run.iloadN F d5_23 rfl ?_
    refine Run.callVirtual F (w127 hw) (w128 hw) (fun U hU => notFace_of_selects (args := #[]) (mvT hU (w130 hw))) (w130 hw) (w129 hw) (w7 hw) (w131 hw) S'.1 (c_charAt l Z n0 a0 hw s0 bs cs i c1 SC hcz SF hsf UA UH UL h' _ OO S' hc1 hcs (by omega)) rfl pd36 rfl rfl rfl rfl (by show k + 0 + 0 ≤ 16; omega) (by show n + 0 + 0 ≤ 350; omega) rfl d5_24 ?_
    rintro _ _ _ ⟨_, rfl, rfl, rfl, rfl⟩ _ _
    refine Run.istoreN F d5_27 (congrArg some hx3) ?_
    dsimp only [List.set]
    refine Run.iloadN F d5_28 rfl ?_
    by_cases q0 : c1.toInt = 92
    · have ec : c1 = 92 := Int32.toInt_inj.mp q0
      subst ec
      refine Run.lookHit F d5_29 (by decide) (ky := 92) (off := 43) (by decide) (t := 72) (by decide) ?_
      refine Run.aloadN F d5_72 rfl rfl ?_
      refine Run.ldcS (text := "\\\\") (P := fun a b => a ≠ x ∧ a ≠ v ∧ b ≠ x ∧ b ≠ v) F (w284 hw) wS hh35 hcw tx0_lat (fun t ht he => (LL t ht).elim (fun y => absurd (y.symm.trans he) (by decide)) (fun ⟨b, y, r⟩ => ⟨b, he ▸ y, r⟩)) 8 tx0_len rfl (by show k + 0 + 0 + 2 ≤ 16; omega) (by show n + 0 + 0 + 12 ≤ 350; omega) d5_73 ?_
      intro h3 a b K3 T3 p3
      have sl := B.lt
      have p3' : a ≠ x ∧ a ≠ v ∧ b ≠ x ∧ b ≠ v := by
        rcases p3 with ⟨u, w⟩ | ⟨u, w⟩ | u
        · refine ⟨?_, ?_, ?_, ?_⟩ <;> omega
        · refine ⟨?_, ?_, ?_, ?_⟩ <;> omega
        · exact u
      have L3 := (LL.ext K3).cons T3 p3'
      rw [tx0_b] at T3
      have O3 := OO.keep K3 all0
      refine Run.callVirtual F (w168 hw) (w169 hw) (fun U hU => notFace_of_selects (args := #[]) (mvT hU (w171 hw))) (w171 hw) (w170 hw) (w33 hw) (w172 hw) (B.1.keep K3) (c_sbAppS l Z n0 a0 hw x v a b _ cap _ [92, 92] SC hcz SF hsf UA UH UL h3 _ O3 (B.keep K3 nin0 nin0) T3 g gv p3'.2.2.2 tx0_r ⟨p3'.2.1, p3'.1, p3'.2.2.1⟩ hcap (by simp only [List.length_cons, List.length_nil]; omega)) rfl pd34 rfl rfl rfl rfl (by show k + 0 + 0 + 2 + 1 ≤ 16; omega) (by show n + 0 + 0 + 12 + 36 ≤ 350; omega) rfl d5_75 ?_
      rintro _ h4 _ ⟨_, rfl, rfl, v4, cap4, B4, hc4, K4, hv4, rfl⟩ O4 _
      refine Run.pop F d5_78 rfl ?_
      have z3 := K3.1
      refine Run.goto F d5_79 (t := 118) rfl ?_
      refine Run.iinc F d5_118 (z := 1) rfl rfl ?_
      dsimp only [List.set]
      refine Run.goto F d5_121 (t := 14) rfl ?_
      have ee : e1 92 = [92, 92] := by decide
      have es : esc (cs.take (i + 1)) = esc (cs.take i) ++ [92, 92] := by rw [esc_next hc1, ee]
      refine ih r _ _ _ _ _ _ (by omega) ⟨i + 1, v4, cap4, _, .val (.int 92), by omega, rfl, by rw [es, lat_lit _ rfl]; exact B4, by rcases hv4 with rfl | y <;> omega, by rcases hv4 with rfl | y <;> omega, by rw [es, lat_lit _ rfl]; exact hc4, (KK0.trans K3 all0).trans K4 (allS (Or.inr hxh) (allS (Or.inr hvh) all0)), O4, by show k + 0 + 0 + 2 + 1 ≤ _; omega, by show n + 0 + 0 + 12 + 36 ≤ _; omega, rfl, L3.keep K4 hv4, by simp only [Jvm.Free.XT.succ32], rfl⟩
    by_cases q1 : c1.toInt = 9
    · have ec : c1 = 9 := Int32.toInt_inj.mp q1
      subst ec
      refine Run.lookHit F d5_29 (by decide) (ky := 9) (off := 53) (by decide) (t := 82) (by decide) ?_
      refine Run.aloadN F d5_82 rfl rfl ?_
      refine Run.ldcS (text := "\\t") (P := fun a b => a ≠ x ∧ a ≠ v ∧ b ≠ x ∧ b ≠ v) F (w256 hw) wS hh41 hcw tx1_lat (fun t ht he => (LL t ht).elim (fun y => absurd (y.symm.trans he) (by decide)) (fun ⟨b, y, r⟩ => ⟨b, he ▸ y, r⟩)) 8 tx1_len rfl (by show k + 0 + 0 + 2 ≤ 16; omega) (by show n + 0 + 0 + 12 ≤ 350; omega) d5_83 ?_
      intro h3 a b K3 T3 p3
      have sl := B.lt
      have p3' : a ≠ x ∧ a ≠ v ∧ b ≠ x ∧ b ≠ v := by
        rcases p3 with ⟨u, w⟩ | ⟨u, w⟩ | u
        · refine ⟨?_, ?_, ?_, ?_⟩ <;> omega
        · refine ⟨?_, ?_, ?_, ?_⟩ <;> omega
        · exact u
      have L3 := (LL.ext K3).cons T3 p3'
      rw [tx1_b] at T3
      have O3 := OO.keep K3 all0
      refine Run.callVirtual F (w168 hw) (w169 hw) (fun U hU => notFace_of_selects (args := #[]) (mvT hU (w171 hw))) (w171 hw) (w170 hw) (w33 hw) (w172 hw) (B.1.keep K3) (c_sbAppS l Z n0 a0 hw x v a b _ cap _ [92, 116] SC hcz SF hsf UA UH UL h3 _ O3 (B.keep K3 nin0 nin0) T3 g gv p3'.2.2.2 tx1_r ⟨p3'.2.1, p3'.1, p3'.2.2.1⟩ hcap (by simp only [List.length_cons, List.length_nil]; omega)) rfl pd34 rfl rfl rfl rfl (by show k + 0 + 0 + 2 + 1 ≤ 16; omega) (by show n + 0 + 0 + 12 + 36 ≤ 350; omega) rfl d5_85 ?_
      rintro _ h4 _ ⟨_, rfl, rfl, v4, cap4, B4, hc4, K4, hv4, rfl⟩ O4 _
      refine Run.pop F d5_88 rfl ?_
      have z3 := K3.1
      refine Run.goto F d5_89 (t := 118) rfl ?_
      refine Run.iinc F d5_118 (z := 1) rfl rfl ?_
      dsimp only [List.set]
      refine Run.goto F d5_121 (t := 14) rfl ?_
      have ee : e1 9 = [92, 116] := by decide
      have es : esc (cs.take (i + 1)) = esc (cs.take i) ++ [92, 116] := by rw [esc_next hc1, ee]
      refine ih r _ _ _ _ _ _ (by omega) ⟨i + 1, v4, cap4, _, .val (.int 9), by omega, rfl, by rw [es, lat_lit _ rfl]; exact B4, by rcases hv4 with rfl | y <;> omega, by rcases hv4 with rfl | y <;> omega, by rw [es, lat_lit _ rfl]; exact hc4, (KK0.trans K3 all0).trans K4 (allS (Or.inr hxh) (allS (Or.inr hvh) all0)), O4, by show k + 0 + 0 + 2 + 1 ≤ _; omega, by show n + 0 + 0 + 12 + 36 ≤ _; omega, rfl, L3.keep K4 hv4, by simp only [Jvm.Free.XT.succ32], rfl⟩
    by_cases q2 : c1.toInt = 10
    · have ec : c1 = 10 := Int32.toInt_inj.mp q2
      subst ec
      refine Run.lookHit F d5_29 (by decide) (ky := 10) (off := 63) (by decide) (t := 92) (by decide) ?_
      refine Run.aloadN F d5_92 rfl rfl ?_
      refine Run.ldcS (text := "\\n") (P := fun a b => a ≠ x ∧ a ≠ v ∧ b ≠ x ∧ b ≠ v) F (w167 hw) wS hh43 hcw tx2_lat (fun t ht he => (LL t ht).elim (fun y => absurd (y.symm.trans he) (by decide)) (fun ⟨b, y, r⟩ => ⟨b, he ▸ y, r⟩)) 8 tx2_len rfl (by show k + 0 + 0 + 2 ≤ 16; omega) (by show n + 0 + 0 + 12 ≤ 350; omega) d5_93 ?_
      intro h3 a b K3 T3 p3
      have sl := B.lt
      have p3' : a ≠ x ∧ a ≠ v ∧ b ≠ x ∧ b ≠ v := by
        rcases p3 with ⟨u, w⟩ | ⟨u, w⟩ | u
        · refine ⟨?_, ?_, ?_, ?_⟩ <;> omega
        · refine ⟨?_, ?_, ?_, ?_⟩ <;> omega
        · exact u
      have L3 := (LL.ext K3).cons T3 p3'
      rw [tx2_b] at T3
      have O3 := OO.keep K3 all0
      refine Run.callVirtual F (w168 hw) (w169 hw) (fun U hU => notFace_of_selects (args := #[]) (mvT hU (w171 hw))) (w171 hw) (w170 hw) (w33 hw) (w172 hw) (B.1.keep K3) (c_sbAppS l Z n0 a0 hw x v a b _ cap _ [92, 110] SC hcz SF hsf UA UH UL h3 _ O3 (B.keep K3 nin0 nin0) T3 g gv p3'.2.2.2 tx2_r ⟨p3'.2.1, p3'.1, p3'.2.2.1⟩ hcap (by simp only [List.length_cons, List.length_nil]; omega)) rfl pd34 rfl rfl rfl rfl (by show k + 0 + 0 + 2 + 1 ≤ 16; omega) (by show n + 0 + 0 + 12 + 36 ≤ 350; omega) rfl d5_95 ?_
      rintro _ h4 _ ⟨_, rfl, rfl, v4, cap4, B4, hc4, K4, hv4, rfl⟩ O4 _
      refine Run.pop F d5_98 rfl ?_
      have z3 := K3.1
      refine Run.goto F d5_99 (t := 118) rfl ?_
      refine Run.iinc F d5_118 (z := 1) rfl rfl ?_
      dsimp only [List.set]
      refine Run.goto F d5_121 (t := 14) rfl ?_
      have ee : e1 10 = [92, 110] := by decide
      have es : esc (cs.take (i + 1)) = esc (cs.take i) ++ [92, 110] := by rw [esc_next hc1, ee]
      refine ih r _ _ _ _ _ _ (by omega) ⟨i + 1, v4, cap4, _, .val (.int 10), by omega, rfl, by rw [es, lat_lit _ rfl]; exact B4, by rcases hv4 with rfl | y <;> omega, by rcases hv4 with rfl | y <;> omega, by rw [es, lat_lit _ rfl]; exact hc4, (KK0.trans K3 all0).trans K4 (allS (Or.inr hxh) (allS (Or.inr hvh) all0)), O4, by show k + 0 + 0 + 2 + 1 ≤ _; omega, by show n + 0 + 0 + 12 + 36 ≤ _; omega, rfl, L3.keep K4 hv4, by simp only [Jvm.Free.XT.succ32], rfl⟩
    by_cases q3 : c1.toInt = 13
    · have ec : c1 = 13 := Int32.toInt_inj.mp q3
      subst ec
      refine Run.lookHit F d5_29 (by decide) (ky := 13) (off := 73) (by decide) (t := 102) (by decide) ?_
      refine Run.aloadN F d5_102 rfl rfl ?_
      refine Run.ldcS (text := "\\r") (P := fun a b => a ≠ x ∧ a ≠ v ∧ b ≠ x ∧ b ≠ v) F (w285 hw) wS hh45 hcw tx3_lat (fun t ht he => (LL t ht).elim (fun y => absurd (y.symm.trans he) (by decide)) (fun ⟨b, y, r⟩ => ⟨b, he ▸ y, r⟩)) 8 tx3_len rfl (by show k + 0 + 0 + 2 ≤ 16; omega) (by show n + 0 + 0 + 12 ≤ 350; omega) d5_103 ?_
      intro h3 a b K3 T3 p3
      have sl := B.lt
      have p3' : a ≠ x ∧ a ≠ v ∧ b ≠ x ∧ b ≠ v := by
        rcases p3 with ⟨u, w⟩ | ⟨u, w⟩ | u
        · refine ⟨?_, ?_, ?_, ?_⟩ <;> omega
        · refine ⟨?_, ?_, ?_, ?_⟩ <;> omega
        · exact u
      have L3 := (LL.ext K3).cons T3 p3'
      rw [tx3_b] at T3
      have O3 := OO.keep K3 all0
      refine Run.callVirtual F (w168 hw) (w169 hw) (fun U hU => notFace_of_selects (args := #[]) (mvT hU (w171 hw))) (w171 hw) (w170 hw) (w33 hw) (w172 hw) (B.1.keep K3) (c_sbAppS l Z n0 a0 hw x v a b _ cap _ [92, 114] SC hcz SF hsf UA UH UL h3 _ O3 (B.keep K3 nin0 nin0) T3 g gv p3'.2.2.2 tx3_r ⟨p3'.2.1, p3'.1, p3'.2.2.1⟩ hcap (by simp only [List.length_cons, List.length_nil]; omega)) rfl pd34 rfl rfl rfl rfl (by show k + 0 + 0 + 2 + 1 ≤ 16; omega) (by show n + 0 + 0 + 12 + 36 ≤ 350; omega) rfl d5_105 ?_
      rintro _ h4 _ ⟨_, rfl, rfl, v4, cap4, B4, hc4, K4, hv4, rfl⟩ O4 _
      refine Run.pop F d5_108 rfl ?_
      have z3 := K3.1
      refine Run.goto F d5_109 (t := 118) rfl ?_
      refine Run.iinc F d5_118 (z := 1) rfl rfl ?_
      dsimp only [List.set]
      refine Run.goto F d5_121 (t := 14) rfl ?_
      have ee : e1 13 = [92, 114] := by decide
      have es : esc (cs.take (i + 1)) = esc (cs.take i) ++ [92, 114] := by rw [esc_next hc1, ee]
      refine ih r _ _ _ _ _ _ (by omega) ⟨i + 1, v4, cap4, _, .val (.int 13), by omega, rfl, by rw [es, lat_lit _ rfl]; exact B4, by rcases hv4 with rfl | y <;> omega, by rcases hv4 with rfl | y <;> omega, by rw [es, lat_lit _ rfl]; exact hc4, (KK0.trans K3 all0).trans K4 (allS (Or.inr hxh) (allS (Or.inr hvh) all0)), O4, by show k + 0 + 0 + 2 + 1 ≤ _; omega, by show n + 0 + 0 + 12 + 36 ≤ _; omega, rfl, L3.keep K4 hv4, by simp only [Jvm.Free.XT.succ32], rfl⟩
    have hmiss : (#[(9, 53), (10, 63), (13, 73), (92, 43)] : Array (Int × Int)).find? (·.1 == c1.toInt) = none := by
      rw [Array.find?_eq_none]
      intro y hy
      simp only [List.mem_toArray, List.mem_cons, List.not_mem_nil, or_false] at hy
      rcases hy with rfl | rfl | rfl | rfl <;> simp <;> omega
    refine Run.lookMiss F d5_29 (by decide) hmiss (t := 112) (by decide) ?_
    refine Run.aloadN F d5_112 rfl rfl ?_
    refine Run.iloadN F d5_113 rfl ?_
    have hla : (!lat (esc (cs.take i))) = false → ∀ c ∈ esc (cs.take i), 0 ≤ c.toInt ∧ c.toInt < 256 := fun q c hc => ⟨(hr1 c hc).1, by
      have q2 : lat (esc (cs.take i)) = true := by simpa using q
      have := List.all_eq_true.mp q2 c hc
      simpa using this⟩
    have sl := B.lt
    refine Run.callVirtual F (w149 hw) (w150 hw) (fun U hU => notFace_of_selects (args := #[]) (mvT hU (w152 hw))) (w152 hw) (w151 hw) (w33 hw) (w153 hw) B.1 (c_sbAppC l Z n0 a0 hw x v _ cap _ c1 SC hcz SF hsf UA UH UL h' _ OO B g gv hcap (by omega) hla hc2) rfl pd33 rfl rfl rfl rfl (by show k + 0 + 0 + 2 ≤ 16; omega) (by show n + 0 + 0 + 72 ≤ 350; omega) rfl d5_114 ?_
    rintro _ h4 _ ⟨_, rfl, rfl, v4, cap4, B4, hc4, K4, hv4, rfl⟩ O4 _
    refine Run.pop F d5_117 rfl ?_
    refine Run.iinc F d5_118 (z := 1) rfl rfl ?_
    dsimp only [List.set]
    refine Run.goto F d5_121 (t := 14) rfl ?_
    have ee : e1 c1 = [c1] := by simp [e1, q0, q1, q2, q3]
    have es : esc (cs.take (i + 1)) = esc (cs.take i) ++ [c1] := by rw [esc_next hc1, ee]
    refine ih r _ _ _ _ _ _ (by omega) ⟨i + 1, v4, cap4, _, .val (.int c1), by omega, rfl, by rw [es, lat_chr]; exact B4, by rcases hv4 with rfl | y <;> omega, by rcases hv4 with rfl | y <;> omega, by rw [es, lat_chr]; exact hc4, KK0.trans K4 (allS (Or.inr hxh) (allS (Or.inr hvh) all0)), O4, by show k + 0 + 0 + 2 ≤ _; omega, by show n + 0 + 0 + 72 ≤ _; omega, rfl, LL.keep K4 hv4, by simp only [Jvm.Free.XT.succ32], rfl⟩
set_option maxRecDepth 65536 in
set_option maxHeartbeats 4000000 in
theorem c_draw (l : Launch) (Z : State) (n0 : Nat) (a0 : Array Value) (hw : ∀ d ∈ tables_1, d.before a0 Z = true) (z : Int32) (h : Heap) (Ls : Lits) (hO : Old Z n0 h)  :
    Con l Z n0 (⟨"com/example/twice_to_once/twicetoonce/cli/RecordLinesFieldPinLaw", "draw", "(I)C"⟩ : MethodName) method_2_code 2 (some .char) ({ frames := 0, cells := 0, slots := 0, locals := 0 } : Room) [.int z] h Ls [] (RV fun v h' Ls' => ∃ ch : Int32, v = .int ch ∧ (0 ≤ ch.toInt ∧ ch.toInt < 65536) ∧ h = h' ∧ Ls = Ls') := by
  refine Con.of_run (plainFor_of_name pn9) hO ?_
  intro p e s m below meth c F hs
  refine ⟨[.val (.int z), .unset], by first | rfl | (simp [entryFrame, mkF, argsToLocals, Value.category]; done) | (rcases ref_cases hv with rfl | ⟨va, rfl⟩ <;> rfl), ?_⟩
  refine Run.iloadN F d1_0 rfl ?_
  refine Run.bipush F d1_1 (z := 7) rfl ?_
  refine Run.iand F d1_3 ?_
  refine Run.istoreN F d1_4 rfl ?_
  dsimp only [List.set]
  refine Run.iloadN F d1_5 rfl ?_
  refine Run.if_ne F d1_6 (t := 12) rfl rfl (fun q0 => ?_) (fun q0 => ?_)
  · refine Run.iloadN F d1_12 rfl ?_
    refine Run.iconst F d1_13 (z := 1) rfl ?_
    refine Run.icmp_ne F d1_14 (t := 20) rfl rfl (yi := 1) rfl (fun q1 => ?_) (fun q1 => ?_)
    · refine Run.iloadN F d1_20 rfl ?_
      refine Run.iconst F d1_21 (z := 2) rfl ?_
      refine Run.icmp_ne F d1_22 (t := 28) rfl rfl (yi := 2) rfl (fun q2 => ?_) (fun q2 => ?_)
      · refine Run.iloadN F d1_28 rfl ?_
        refine Run.iconst F d1_29 (z := 3) rfl ?_
        refine Run.icmp_ne F d1_30 (t := 36) rfl rfl (yi := 3) rfl (fun q3 => ?_) (fun q3 => ?_)
        · refine Run.iloadN F d1_36 rfl ?_
          refine Run.iconst F d1_37 (z := 3) rfl ?_
          refine Run.iushr F d1_38 ?_
          refine Run.ldcInt F (w110 hw) d1_39 ?_
          refine Run.iand F d1_41 ?_
          refine Run.i2c F d1_42 ?_
          exact Run.ireturn F (by simp) (narrow_chr _) (by decide) (by decide) d1_43 ⟨_, rfl, chr_rng _, rfl, rfl⟩
        · refine Run.bipush F d1_33 (z := 13) rfl ?_
          exact Run.ireturn F (by simp) rfl (by decide) (by decide) d1_35 ⟨_, rfl, by decide, rfl, rfl⟩
      · refine Run.bipush F d1_25 (z := 10) rfl ?_
        exact Run.ireturn F (by simp) rfl (by decide) (by decide) d1_27 ⟨_, rfl, by decide, rfl, rfl⟩
    · refine Run.bipush F d1_17 (z := 9) rfl ?_
      exact Run.ireturn F (by simp) rfl (by decide) (by decide) d1_19 ⟨_, rfl, by decide, rfl, rfl⟩
  · refine Run.bipush F d1_9 (z := 92) rfl ?_
    exact Run.ireturn F (by simp) rfl (by decide) (by decide) d1_11 ⟨_, rfl, by decide, rfl, rfl⟩
set_option maxRecDepth 65536 in
set_option maxHeartbeats 4000000 in
theorem c_escOf (l : Launch) (Z : State) (n0 : Nat) (a0 : Array Value) (hw : ∀ d ∈ tables_1, d.before a0 Z = true) (ch : Int32) (h : Heap) (Ls : Lits) (hO : Old Z n0 h)  :
    Con l Z n0 (⟨"com/example/twice_to_once/twicetoonce/cli/RecordLinesFieldPinLaw", "escOf", "(C)C"⟩ : MethodName) method_3_code 1 (some .char) ({ frames := 0, cells := 0, slots := 0, locals := 0 } : Room) [.int ch] h Ls [] (RV fun v h' Ls' => ∃ e : Int32, v = .int e ∧ (0 ≤ e.toInt ∧ e.toInt < 256) ∧ ((e.toInt = 0 ∧ e1 ch = [ch]) ∨ (e.toInt ≠ 0 ∧ e1 ch = [92, e])) ∧ h = h' ∧ Ls = Ls') := by
  refine Con.of_run (plainFor_of_name pn9) hO ?_
  intro p e s m below meth c F hs
  refine ⟨[.val (.int ch)], by first | rfl | (simp [entryFrame, mkF, argsToLocals, Value.category]; done) | (rcases ref_cases hv with rfl | ⟨va, rfl⟩ <;> rfl), ?_⟩
  refine Run.iloadN F d23_0 rfl ?_
  refine Run.bipush F d23_1 (z := 92) rfl ?_
  refine Run.icmp_ne F d23_3 (t := 9) rfl rfl (yi := 92) rfl (fun q0 => ?_) (fun q0 => ?_)
  rotate_left
  · refine Run.bipush F d23_6 (z := 92) rfl ?_
    exact Run.ireturn F (by simp) rfl (by decide) (by decide) d23_8 ⟨92, rfl, by decide, Or.inr ⟨by decide, by simp [e1, q0]⟩, rfl, rfl⟩
  refine Run.iloadN F d23_9 rfl ?_
  refine Run.bipush F d23_10 (z := 9) rfl ?_
  refine Run.icmp_ne F d23_12 (t := 18) rfl rfl (yi := 9) rfl (fun q1 => ?_) (fun q1 => ?_)
  rotate_left
  · refine Run.bipush F d23_15 (z := 116) rfl ?_
    exact Run.ireturn F (by simp) rfl (by decide) (by decide) d23_17 ⟨116, rfl, by decide, Or.inr ⟨by decide, by simp [e1, q0, q1]⟩, rfl, rfl⟩
  refine Run.iloadN F d23_18 rfl ?_
  refine Run.bipush F d23_19 (z := 10) rfl ?_
  refine Run.icmp_ne F d23_21 (t := 27) rfl rfl (yi := 10) rfl (fun q2 => ?_) (fun q2 => ?_)
  rotate_left
  · refine Run.bipush F d23_24 (z := 110) rfl ?_
    exact Run.ireturn F (by simp) rfl (by decide) (by decide) d23_26 ⟨110, rfl, by decide, Or.inr ⟨by decide, by simp [e1, q0, q1, q2]⟩, rfl, rfl⟩
  refine Run.iloadN F d23_27 rfl ?_
  refine Run.bipush F d23_28 (z := 13) rfl ?_
  refine Run.icmp_ne F d23_30 (t := 36) rfl rfl (yi := 13) rfl (fun q3 => ?_) (fun q3 => ?_)
  rotate_left
  · refine Run.bipush F d23_33 (z := 114) rfl ?_
    exact Run.ireturn F (by simp) rfl (by decide) (by decide) d23_35 ⟨114, rfl, by decide, Or.inr ⟨by decide, by simp [e1, q0, q1, q2, q3]⟩, rfl, rfl⟩
  refine Run.iconst F d23_36 (z := 0) rfl ?_
  exact Run.ireturn F (by simp) rfl (by decide) (by decide) d23_37 ⟨0, rfl, by decide, Or.inl ⟨rfl, by simp [e1, q0, q1, q2, q3]⟩, rfl, rfl⟩
set_option maxRecDepth 65536 in
set_option maxHeartbeats 4000000 in
theorem c_put (l : Launch) (Z : State) (n0 : Nat) (a0 : Array Value) (hw : ∀ d ∈ tables_1, d.before a0 Z = true) (t : Nat) (ds : List Int32) (ch : Int32) (r : Nat) (h : Heap) (Ls : Lits) (hO : Old Z n0 h) (A : Av Z h t .char (ds.map Value.int ++ List.replicate r (.int 0))) (g : n0 ≤ t) (hr : (e1 ch).length ≤ r) (hch : 0 ≤ ch.toInt ∧ ch.toInt < 65536) :
    Con l Z n0 (⟨"com/example/twice_to_once/twicetoonce/cli/RecordLinesFieldPinLaw", "put", "([CIC)I"⟩ : MethodName) method_4_code 4 (some .int) ({ frames := 1, cells := 0, slots := 0, locals := 12 } : Room) [.ref t, .int (Int32.ofNat ds.length), .int ch] h Ls [] (RV fun v h' Ls' => v = .int (Int32.ofNat (ds ++ e1 ch).length) ∧ Keep h h' [t] ∧ h'.size = h.size ∧ Av Z h' t .char ((ds ++ e1 ch).map Value.int ++ List.replicate (r - (e1 ch).length) (.int 0)) ∧ Ls = Ls') := by
  refine Con.of_run (plainFor_of_name pn9) hO ?_
  intro p e s m below meth c F hs
  refine ⟨[.val (.ref t), .val (.int (Int32.ofNat ds.length)), .val (.int ch), .unset], by first | rfl | (simp [entryFrame, mkF, argsToLocals, Value.category]; done) | (rcases ref_cases hv with rfl | ⟨va, rfl⟩ <;> rfl), ?_⟩
  have hlen := A.len
  rw [List.length_append, List.length_map, List.length_replicate] at hlen
  refine Run.iloadN F d22_0 rfl ?_
  refine Run.callStatic F (w124 hw) (w125 hw) (w3 hw) (w126 hw) (c_escOf l Z n0 a0 hw ch h Ls hO) rfl pd37 rfl rfl rfl rfl (by decide) (by decide) rfl d22_1 ?_
  rintro _ _ _ ⟨_, rfl, e, rfl, he, hc, rfl, rfl⟩ _ _
  refine Run.istoreN F d22_4 rfl ?_
  dsimp only [List.set]
  refine Run.iloadN F d22_5 rfl ?_
  refine Run.if_eq F d22_6 (t := 24) rfl rfl (fun q => ?_) (fun q => ?_)
  · obtain ⟨-, ee⟩ := hc.resolve_right (fun y => y.1 q)
    rw [ee] at hr ⊢
    obtain ⟨r, rfl⟩ : ∃ r', r = r' + 1 := ⟨r - 1, by simp at hr; omega⟩
    rw [List.replicate_succ] at A
    refine Run.aloadN F d22_24 rfl rfl ?_
    refine Run.iloadN F d22_25 rfl ?_
    refine Run.iloadN F d22_26 rfl ?_
    refine Run.castore F A g (i32_nn (by omega)) (i32_tn (by omega)) (by simp) (y := ch) (chr_id hch.1 hch.2) d22_27 ?_
    intro h1 W1 K1 s1 A1
    rw [set1 (by simp)] at A1
    refine Run.iloadN F d22_28 rfl ?_
    refine Run.iconst F d22_29 (z := 1) rfl ?_
    refine Run.iadd F d22_30 ?_
    simp only [Jvm.Free.XT.succ32]
    exact Run.ireturn F (by simp) rfl (by decide) (by decide) d22_31 ⟨by simp, K1, s1, by simpa using A1, rfl⟩
  · obtain ⟨-, ee⟩ := hc.resolve_left (fun y => q y.1)
    rw [ee] at hr ⊢
    obtain ⟨r, rfl⟩ : ∃ r', r = r' + 2 := ⟨r - 2, by simp at hr; omega⟩
    rw [show r + 2 = (r + 1) + 1 from rfl, List.replicate_succ, List.replicate_succ] at A
    refine Run.aloadN F d22_9 rfl rfl ?_
    refine Run.iloadN F d22_10 rfl ?_
    refine Run.bipush F d22_11 (z := 92) rfl ?_
    refine Run.castore F A g (i32_nn (by omega)) (i32_tn (by omega)) (by simp) (y := 92) rfl d22_13 ?_
    intro h1 W1 K1 s1 A1
    rw [set1 (by simp)] at A1
    have e0 : ds.map Value.int ++ Value.int 92 :: Value.int 0 :: List.replicate r (Value.int 0) = (ds.map Value.int ++ [Value.int 92]) ++ Value.int 0 :: List.replicate r (Value.int 0) := by simp
    rw [e0] at A1
    refine Run.aloadN F d22_14 rfl rfl ?_
    refine Run.iloadN F d22_15 rfl ?_
    refine Run.iconst F d22_16 (z := 1) rfl ?_
    refine Run.iadd F d22_17 ?_
    refine Run.iloadN F d22_18 rfl ?_
    simp only [Jvm.Free.XT.succ32]
    refine Run.castore F A1 g (i32_nn (by omega)) (i32_tn (by omega)) (by simp) (y := e) (chr_id he.1 (by omega)) d22_19 ?_
    intro h2 W2 K2 s2 A2
    rw [set1 (by simp)] at A2
    refine Run.iloadN F d22_20 rfl ?_
    refine Run.iconst F d22_21 (z := 2) rfl ?_
    refine Run.iadd F d22_22 ?_
    rw [show (2 : Int32) = Int32.ofNat 2 from rfl, i32_add (by omega)]
    exact Run.ireturn F (by simp) rfl (by decide) (by decide) d22_23 ⟨by simp, K1.trans K2 (allS (Or.inl mem1) all0), s2.trans s1, by simpa using A2, rfl⟩
set_option maxRecDepth 65536 in
set_option maxHeartbeats 4000000 in
theorem c_at (l : Launch) (Z : State) (n0 : Nat) (a0 : Array Value) (hw : ∀ d ∈ tables_1, d.before a0 Z = true) (r b t : Nat) (os : List Int32) (zs : List Value) (i : Nat) {cz : Int32} (SC : Sta Z Z.heap "java/lang/String" "COMPACT_STRINGS" "Z" (.int cz)) (hcz : cz.toInt ≠ 0) {sf : Value} (SF : Sta Z Z.heap "jdk/internal/util/Preconditions" "SIOOBE_FORMATTER" "Ljava/util/function/BiFunction;" sf) (hsf : sf.isRef = true) (UA : Sta Z Z.heap "java/lang/StringUTF16" "$assertionsDisabled" "Z" (.int 1)) (UH : Sta Z Z.heap "java/lang/StringUTF16" "HI_BYTE_SHIFT" "I" (.int 0)) (UL : Sta Z Z.heap "java/lang/StringUTF16" "LO_BYTE_SHIFT" "I" (.int 8)) (h : Heap) (Ls : Lits) (hO : Old Z n0 h) (S : Str Z h r b (coOf os) (byOf os)) (A : Av Z h t .char (os.map Value.int ++ zs)) (hos : ∀ c ∈ os, 0 ≤ c.toInt ∧ c.toInt < 65536) (hol : os.length ≤ 8) (hi : i ≤ 8) :
    Con l Z n0 (⟨"com/example/twice_to_once/twicetoonce/cli/RecordLinesFieldPinLaw", "at", "(Ljava/lang/String;[CII)Z"⟩ : MethodName) method_5_code 4 (some .boolean) ({ frames := 5, cells := 0, slots := 0, locals := 66 } : Room) [.ref r, .ref t, .int (Int32.ofNat i), .int (Int32.ofNat os.length)] h Ls [] (RV fun v h' Ls' => v = .int 1 ∧ h = h' ∧ Ls = Ls') := by
  refine Con.of_run (plainFor_of_name pn9) hO ?_
  intro p e s m below meth c F hs
  refine ⟨[.val (.ref r), .val (.ref t), .val (.int (Int32.ofNat i)), .val (.int (Int32.ofNat os.length))], by first | rfl | (simp [entryFrame, mkF, argsToLocals, Value.category]; done) | (rcases ref_cases hv with rfl | ⟨va, rfl⟩ <;> rfl), ?_⟩
  refine Run.iloadN F d18_0 rfl ?_
  refine Run.iloadN F d18_1 rfl ?_
  refine Run.icmp_ge F d18_2 (t := 16) rfl (i32_ti (by omega)) (i32_ti (by omega)) (fun q => ?_) (fun q => ?_)
  · refine Run.iconst F d18_16 (z := 1) rfl ?_
    refine Run.goto F d18_17 (t := 21) rfl ?_
    exact Run.ireturn F (by simp) rfl (by decide) (by decide) d18_21 ⟨rfl, rfl, rfl⟩
  · obtain ⟨c1, hc1⟩ : ∃ c1, os[i]? = some c1 := ⟨_, List.getElem?_eq_getElem (by omega)⟩
    refine Run.aloadN F d18_5 rfl rfl ?_
    refine Run.iloadN F d18_6 rfl ?_
    refine Run.callVirtual F (w226 hw) (w128 hw) (fun U hU => notFace_of_selects (args := #[]) (mvT hU (w130 hw))) (w130 hw) (w129 hw) (w7 hw) (w131 hw) S.1 (c_charAt l Z n0 a0 hw r b os i c1 SC hcz SF hsf UA UH UL h Ls hO S hc1 hos (by omega)) rfl pd36 rfl rfl rfl rfl (by decide) (by decide) rfl d18_7 ?_
    rintro _ _ _ ⟨_, rfl, rfl, rfl, rfl⟩ _ _
    refine Run.aloadN F d18_10 rfl rfl ?_
    refine Run.iloadN F d18_11 rfl ?_
    refine Run.caload F A (i32_nn (by omega)) (i32_tn (by omega)) (by rw [List.getElem?_append_left (by simp; omega)]; exact mapInt_get hc1) d18_12 ?_
    refine Run.icmp_ne F d18_13 (t := 20) rfl rfl rfl (fun q => absurd rfl q) (fun _ => ?_)
    refine Run.iconst F d18_16 (z := 1) rfl ?_
    refine Run.goto F d18_17 (t := 21) rfl ?_
    exact Run.ireturn F (by simp) rfl (by decide) (by decide) d18_21 ⟨rfl, rfl, rfl⟩
set_option maxRecDepth 65536 in
set_option maxHeartbeats 40000000 in
theorem c_law (l : Launch) (Z : State) (n0 : Nat) (a0 : Array Value) (hw : ∀ d ∈ tables_1, d.before a0 Z = true) (i0 i1 i2 i3 i4 : Int32) {cz : Int32} (SC : Sta Z Z.heap "java/lang/String" "COMPACT_STRINGS" "Z" (.int cz)) (hcz : cz.toInt ≠ 0) {sf : Value} (SF : Sta Z Z.heap "jdk/internal/util/Preconditions" "SIOOBE_FORMATTER" "Ljava/util/function/BiFunction;" sf) (hsf : sf.isRef = true) (UA : Sta Z Z.heap "java/lang/StringUTF16" "$assertionsDisabled" "Z" (.int 1)) (UH : Sta Z Z.heap "java/lang/StringUTF16" "HI_BYTE_SHIFT" "I" (.int 0)) (UL : Sta Z Z.heap "java/lang/StringUTF16" "LO_BYTE_SHIFT" "I" (.int 8)) (wS : ∀ a ∈ Bundle.stringAtoms, a.before a0 Z = true) (hcw : Jvm.Lit.compactW.before a0 Z = true) (hh35 : Jvm.Lit.constHeld Z "com/example/twice_to_once/twicetoonce/cli/RecordLines" 35) (hh41 : Jvm.Lit.constHeld Z "com/example/twice_to_once/twicetoonce/cli/RecordLines" 41) (hh43 : Jvm.Lit.constHeld Z "com/example/twice_to_once/twicetoonce/cli/RecordLines" 43) (hh45 : Jvm.Lit.constHeld Z "com/example/twice_to_once/twicetoonce/cli/RecordLines" 45) (hhE : Jvm.Lit.constHeld Z "java/lang/String" 7) (h : Heap) (Ls : Lits) (hO : Old Z n0 h) (hLs : Ls = some []) :
    Con l Z n0 x code maxLocals ret room_1 [.int i0, .int i1, .int i2, .int i3, .int i4] h Ls tables_1 (RV fun v h' Ls' => v = .int 1) := by
  refine Con.of_run (plainFor_of_name pn9) hO ?_
  intro p e s m below meth c F hs
  refine ⟨[.val (.int i0), .val (.int i1), .val (.int i2), .val (.int i3), .val (.int i4), .unset, .unset, .unset, .unset, .unset, .unset, .unset, .unset, .unset], by first | rfl | (simp [entryFrame, mkF, argsToLocals, Value.category, maxLocals]; done), ?_⟩
  subst hLs
  refine Run.iloadN F d0_0 rfl ?_
  refine Run.ldcInt F (w0 hw) d0_1 ?_
  refine Run.iand F d0_3 ?_
  refine Run.iconst F d0_4 (z := 5) rfl ?_
  refine Run.irem F d0_5 (by decide) ?_
  refine Run.istore F d0_6 rfl ?_
  dsimp only [List.set]
  refine Run.iloadN F d0_8 rfl ?_
  have hm : ∃ ii : Nat, ii < 5 ∧ (i0 &&& 2147483647) % 5 = Int32.ofNat ii := by
    have e := mask31 i0
    have h5 : (5 : Int32).toInt = 5 := rfl
    have e5 := i32_mod (x := i0 &&& 2147483647) (y := 5) (by omega) (by omega)
    rw [h5] at e5
    exact ⟨((i0 &&& 2147483647) % 5).toInt.toNat, by omega, i32_eq (by omega)⟩
  generalize (i0 &&& 2147483647) % 5 = mm at hm ⊢
  obtain ⟨ii, hii, rfl⟩ := hm
  refine Run.callStatic F (w1 hw) (w2 hw) (w3 hw) (w4 hw) (c_draw l Z n0 a0 hw i1 h _ hO) rfl pd36 rfl rfl rfl rfl (by decide) (by decide) rfl d0_9 ?_
  rintro _ _ _ ⟨_, rfl, c0, rfl, r0, rfl, rfl⟩ _ _
  refine Run.istore F d0_12 rfl ?_
  dsimp only [List.set]
  refine Run.iloadN F d0_14 rfl ?_
  refine Run.callStatic F (w1 hw) (w2 hw) (w3 hw) (w4 hw) (c_draw l Z n0 a0 hw i2 h _ hO) rfl pd36 rfl rfl rfl rfl (by decide) (by decide) rfl d0_15 ?_
  rintro _ _ _ ⟨_, rfl, c1, rfl, r1, rfl, rfl⟩ _ _
  refine Run.istore F d0_18 rfl ?_
  dsimp only [List.set]
  refine Run.iloadN F d0_20 rfl ?_
  refine Run.callStatic F (w1 hw) (w2 hw) (w3 hw) (w4 hw) (c_draw l Z n0 a0 hw i3 h _ hO) rfl pd36 rfl rfl rfl rfl (by decide) (by decide) rfl d0_21 ?_
  rintro _ _ _ ⟨_, rfl, c2, rfl, r2, rfl, rfl⟩ _ _
  refine Run.istore F d0_24 rfl ?_
  dsimp only [List.set]
  refine Run.iload F d0_26 rfl ?_
  refine Run.callStatic F (w1 hw) (w2 hw) (w3 hw) (w4 hw) (c_draw l Z n0 a0 hw i4 h _ hO) rfl pd36 rfl rfl rfl rfl (by decide) (by decide) rfl d0_28 ?_
  rintro _ _ _ ⟨_, rfl, c3, rfl, r3, rfl, rfl⟩ _ _
  refine Run.istore F d0_31 rfl ?_
  dsimp only [List.set]
  refine Run.via (pcJ := 255) (fun h' k n Ls' L st => ∃ cs s0 bs t zs lt, cs.length ≤ 4 ∧ (∀ c ∈ cs, 0 ≤ c.toInt ∧ c.toInt < 65536) ∧ Str Z h' s0 bs (coOf cs) (byOf cs) ∧ Av Z h' t .char ((esc cs).map Value.int ++ zs) ∧ Old Z n0 h' ∧ Ls' = some lt ∧ (∀ t ∈ lt, t.1 = "") ∧ k ≤ 7 ∧ n ≤ 200 ∧ L = [.val (.int i0), .val (.int i1), .val (.int i2), .val (.int i3), .val (.int i4), .val (.int (Int32.ofNat ii)), .val (.int c0), .val (.int c1), .val (.int c2), .val (.int c3), .val (.ref s0), .val (.ref t), .val (.int (Int32.ofNat (esc cs).length)), .unset] ∧ st = []) ?_ ?_
  · rintro h1 k n _ _ _ ⟨cs, s0, bs, t, zs, lt, hcl, hcr, S1, A1, O1, rfl, hlt, hk, hn, rfl, rfl⟩
    have hel := esc_len cs
    have hos := esc_rng hcr
    refine Run.aload F d0_255 rfl rfl ?_
    refine Run.callStatic F (w27 hw) (w28 hw) (w29 hw) (w30 hw) (c_field l Z n0 a0 hw s0 bs cs lt SC hcz SF hsf UA UH UL wS hcw hh35 hh41 hh43 hh45 h1 _ O1 S1 hcr hcl rfl hlt) rfl pd38 rfl rfl rfl rfl (by show k + 16 ≤ 40; omega) (by show n + 350 ≤ 5376; omega) rfl d0_257 ?_
    rintro _ h2 Ls2 ⟨_, rfl, r, b, rfl, K2, S2⟩ O2 _
    have A2 := A1.keep K2 nin0
    refine Run.astore F d0_260 rfl rfl ?_
    dsimp only [List.set]
    refine Run.aload F d0_262 rfl rfl ?_
    refine Run.callVirtual F (w106 hw) (w35 hw) (fun U hU => notFace_of_selects (args := #[]) (mvT hU (w37 hw))) (w37 hw) (w36 hw) (w7 hw) (w38 hw) S2.1 (c_length l Z n0 a0 hw r b (coOf (esc cs)) (Int32.ofNat (esc cs).length) (byOf (esc cs)) SC hcz h2 _ O2 S2 (co8 _) (lenOf2 (by omega))) rfl pd8 rfl rfl rfl rfl (by show k + 16 + 0 ≤ 40; omega) (by show n + 350 + 0 ≤ 5376; omega) rfl d0_264 ?_
    rintro _ _ _ ⟨_, rfl, rfl, rfl, rfl⟩ _ _
    refine Run.iload F d0_267 rfl ?_
    refine Run.icmp_eq F d0_269 (t := 274) rfl rfl rfl (fun _ => ?_) (fun q => absurd rfl q)
    refine Run.aload F d0_274 rfl rfl ?_
    refine Run.aload F d0_276 rfl rfl ?_
    refine Run.iconst F d0_278 (z := 0) rfl ?_
    refine Run.iload F d0_279 rfl ?_
    refine Run.callStatic F (w107 hw) (w108 hw) (w3 hw) (w109 hw) (c_at l Z n0 a0 hw r b t (esc cs) zs 0 SC hcz SF hsf UA UH UL h2 _ O2 S2 A2 hos (by omega) (by decide)) rfl pd39 rfl rfl rfl rfl (by show k + 16 + 0 + 0 ≤ 40; omega) (by show n + 350 + 0 + 0 ≤ 5376; omega) rfl d0_281 ?_
    rintro _ _ _ ⟨_, rfl, rfl, rfl, rfl⟩ _ _
    refine Run.ifNo F d0_284 rfl ?_
    refine Run.aload F d0_287 rfl rfl ?_
    refine Run.aload F d0_289 rfl rfl ?_
    refine Run.iconst F d0_291 (z := 1) rfl ?_
    refine Run.iload F d0_292 rfl ?_
    refine Run.callStatic F (w107 hw) (w108 hw) (w3 hw) (w109 hw) (c_at l Z n0 a0 hw r b t (esc cs) zs 1 SC hcz SF hsf UA UH UL h2 _ O2 S2 A2 hos (by omega) (by decide)) rfl pd39 rfl rfl rfl rfl (by show k + 16 + 0 + 0 + 0 ≤ 40; omega) (by show n + 350 + 0 + 0 + 0 ≤ 5376; omega) rfl d0_294 ?_
    rintro _ _ _ ⟨_, rfl, rfl, rfl, rfl⟩ _ _
    refine Run.ifNo F d0_297 rfl ?_
    refine Run.aload F d0_300 rfl rfl ?_
    refine Run.aload F d0_302 rfl rfl ?_
    refine Run.iconst F d0_304 (z := 2) rfl ?_
    refine Run.iload F d0_305 rfl ?_
    refine Run.callStatic F (w107 hw) (w108 hw) (w3 hw) (w109 hw) (c_at l Z n0 a0 hw r b t (esc cs) zs 2 SC hcz SF hsf UA UH UL h2 _ O2 S2 A2 hos (by omega) (by decide)) rfl pd39 rfl rfl rfl rfl (by show k + 16 + 0 + 0 + 0 + 0 ≤ 40; omega) (by show n + 350 + 0 + 0 + 0 + 0 ≤ 5376; omega) rfl d0_307 ?_
    rintro _ _ _ ⟨_, rfl, rfl, rfl, rfl⟩ _ _
    refine Run.ifNo F d0_310 rfl ?_
    refine Run.aload F d0_313 rfl rfl ?_
    refine Run.aload F d0_315 rfl rfl ?_
    refine Run.iconst F d0_317 (z := 3) rfl ?_
    refine Run.iload F d0_318 rfl ?_
    refine Run.callStatic F (w107 hw) (w108 hw) (w3 hw) (w109 hw) (c_at l Z n0 a0 hw r b t (esc cs) zs 3 SC hcz SF hsf UA UH UL h2 _ O2 S2 A2 hos (by omega) (by decide)) rfl pd39 rfl rfl rfl rfl (by show k + 16 + 0 + 0 + 0 + 0 + 0 ≤ 40; omega) (by show n + 350 + 0 + 0 + 0 + 0 + 0 ≤ 5376; omega) rfl d0_320 ?_
    rintro _ _ _ ⟨_, rfl, rfl, rfl, rfl⟩ _ _
    refine Run.ifNo F d0_323 rfl ?_
    refine Run.aload F d0_326 rfl rfl ?_
    refine Run.aload F d0_328 rfl rfl ?_
    refine Run.iconst F d0_330 (z := 4) rfl ?_
    refine Run.iload F d0_331 rfl ?_
    refine Run.callStatic F (w107 hw) (w108 hw) (w3 hw) (w109 hw) (c_at l Z n0 a0 hw r b t (esc cs) zs 4 SC hcz SF hsf UA UH UL h2 _ O2 S2 A2 hos (by omega) (by decide)) rfl pd39 rfl rfl rfl rfl (by show k + 16 + 0 + 0 + 0 + 0 + 0 + 0 ≤ 40; omega) (by show n + 350 + 0 + 0 + 0 + 0 + 0 + 0 ≤ 5376; omega) rfl d0_333 ?_
    rintro _ _ _ ⟨_, rfl, rfl, rfl, rfl⟩ _ _
    refine Run.ifNo F d0_336 rfl ?_
    refine Run.aload F d0_339 rfl rfl ?_
    refine Run.aload F d0_341 rfl rfl ?_
    refine Run.iconst F d0_343 (z := 5) rfl ?_
    refine Run.iload F d0_344 rfl ?_
    refine Run.callStatic F (w107 hw) (w108 hw) (w3 hw) (w109 hw) (c_at l Z n0 a0 hw r b t (esc cs) zs 5 SC hcz SF hsf UA UH UL h2 _ O2 S2 A2 hos (by omega) (by decide)) rfl pd39 rfl rfl rfl rfl (by show k + 16 + 0 + 0 + 0 + 0 + 0 + 0 + 0 ≤ 40; omega) (by show n + 350 + 0 + 0 + 0 + 0 + 0 + 0 + 0 ≤ 5376; omega) rfl d0_346 ?_
    rintro _ _ _ ⟨_, rfl, rfl, rfl, rfl⟩ _ _
    refine Run.ifNo F d0_349 rfl ?_
    refine Run.aload F d0_352 rfl rfl ?_
    refine Run.aload F d0_354 rfl rfl ?_
    refine Run.bipush F d0_356 (z := 6) rfl ?_
    refine Run.iload F d0_358 rfl ?_
    refine Run.callStatic F (w107 hw) (w108 hw) (w3 hw) (w109 hw) (c_at l Z n0 a0 hw r b t (esc cs) zs 6 SC hcz SF hsf UA UH UL h2 _ O2 S2 A2 hos (by omega) (by decide)) rfl pd39 rfl rfl rfl rfl (by show k + 16 + 0 + 0 + 0 + 0 + 0 + 0 + 0 + 0 ≤ 40; omega) (by show n + 350 + 0 + 0 + 0 + 0 + 0 + 0 + 0 + 0 ≤ 5376; omega) rfl d0_360 ?_
    rintro _ _ _ ⟨_, rfl, rfl, rfl, rfl⟩ _ _
    refine Run.ifNo F d0_363 rfl ?_
    refine Run.aload F d0_366 rfl rfl ?_
    refine Run.aload F d0_368 rfl rfl ?_
    refine Run.bipush F d0_370 (z := 7) rfl ?_
    refine Run.iload F d0_372 rfl ?_
    refine Run.callStatic F (w107 hw) (w108 hw) (w3 hw) (w109 hw) (c_at l Z n0 a0 hw r b t (esc cs) zs 7 SC hcz SF hsf UA UH UL h2 _ O2 S2 A2 hos (by omega) (by decide)) rfl pd39 rfl rfl rfl rfl (by show k + 16 + 0 + 0 + 0 + 0 + 0 + 0 + 0 + 0 + 0 ≤ 40; omega) (by show n + 350 + 0 + 0 + 0 + 0 + 0 + 0 + 0 + 0 + 0 ≤ 5376; omega) rfl d0_374 ?_
    rintro _ _ _ ⟨_, rfl, rfl, rfl, rfl⟩ _ _
    refine Run.ifNo F d0_377 rfl ?_
    refine Run.iconst F d0_380 (z := 1) rfl ?_
    refine Run.goto F d0_381 (t := 385) rfl ?_
    exact Run.ireturn F (by simp) rfl (by show k + 16 + 0 + 0 + 0 + 0 + 0 + 0 + 0 + 0 + 0 ≤ 40; omega) (by show n + 350 + 0 + 0 + 0 + 0 + 0 + 0 + 0 + 0 + 0 ≤ 5376; omega) d0_385 rfl
  · intro JJ
    have l0 := e1_len c0
    have l1 := e1_len c1
    have l2 := e1_len c2
    have l3 := e1_len c3
    refine Run.iload F d0_33 rfl ?_
    rcases (show ii = 0 ∨ ii = 1 ∨ ii = 2 ∨ ii = 3 ∨ ii = 4 by omega) with rfl | rfl | rfl | rfl | rfl
    · refine Run.ifNo F d0_35 rfl ?_
      refine Run.new F (w5 hw) (w6 hw) (w7 hw) (by decide) (by decide) d0_38 ?_
      intro hN x hx KN ltN EN DN UN
      have ON : Old Z n0 hN := hO.keep KN all0
      have gx : n0 ≤ x := by rw [hx, ← hO.1]; exact hO.2.1
      have Fv := DN (O := "java/lang/String") (f := "value") (ds := "[B") (ty := .array .byte) (Or.inr (w21 hw)) (by decide)
      have Fc := DN (O := "java/lang/String") (f := "coder") (ds := "B") (ty := .byte) (Or.inr (w22 hw)) (by decide)
      refine Run.dup F d0_41 rfl ?_
      refine Run.iconst F d0_42 (z := 0) rfl ?_
      refine Run.newarray (aty := .char) F (w8 hw) (by decide) (len := 0) rfl 0 (by decide) rfl (by decide) (by decide) d0_43 ?_
      intro hA ta hta KA ltA A0
      have gA : n0 ≤ ta := by rw [hta, ← ON.1]; exact ON.2.1
      have OA : Old Z n0 hA := ON.keep KA all0
      have KKA : Keep hN hA [] := KA
      have AA : Av Z hA ta .char (([] : List Int32).map Value.int) := A0
      refine Run.callInit F (w9 hw) (w10 hw) (w7 hw) (w11 hw) (c_newE l Z n0 a0 hw x ta [] wS hhE hcw hA _ OA (EN.keep KKA) (Fv.keep KKA nin0) (Fc.keep KKA nin0) gx AA rfl (fun t ht => nomatch ht)) rfl rfl pd40 rfl rfl rfl rfl (by decide) (by decide) rfl d0_45 ?_
      rintro _ h4 _ ⟨rfl, bx, a1, b1, a2, b2, K4, S4, rfl, -⟩ O4 _
      have S5 : Str Z h4 x bx (coOf []) (byOf []) := S4
      show Run _ _ _ _ _ _ _ _ _ _ _ _ _ _ _ _ _ _ _ _ [Value.ref x]
      refine Run.astore F d0_48 rfl rfl ?_
      dsimp only [List.set]
      refine Run.goto F d0_50 (t := 178) rfl ?_
      refine Run.bipush F d0_178 (z := 8) rfl ?_
      refine Run.newarray (aty := .char) F (w8 hw) (by decide) (len := 8) rfl 8 (by decide) rfl (by decide) (by decide) d0_180 ?_
      intro h5 tt htt K5 lt5 A5
      have gt : n0 ≤ tt := by rw [htt, ← O4.1]; exact O4.2.1
      have O5 : Old Z n0 h5 := O4.keep K5 all0
      have P0 : Av Z h5 tt .char (([] : List Int32).map Value.int ++ List.replicate 8 (.int 0)) := A5
      have S50 := S5.keep K5 nin0 nin0
      have la := S5.la
      have lbb := S5.lb
      have nx1 : x ∉ [tt] := ninN (by omega) nin0
      have nx2 : bx ∉ [tt] := ninN (by omega) nin0
      refine Run.astore F d0_182 rfl rfl ?_
      dsimp only [List.set]
      refine Run.iconst F d0_184 (z := 0) rfl ?_
      refine Run.istore F d0_185 rfl ?_
      dsimp only [List.set]
      refine Run.iload F d0_187 rfl ?_
      refine Run.iconst F d0_189 (z := 1) rfl ?_
      refine Run.icmpYes F d0_190 (t := 204) rfl rfl ?_
      refine Run.iload F d0_204 rfl ?_
      refine Run.iconst F d0_206 (z := 2) rfl ?_
      refine Run.icmpYes F d0_207 (t := 221) rfl rfl ?_
      refine Run.iload F d0_221 rfl ?_
      refine Run.iconst F d0_223 (z := 3) rfl ?_
      refine Run.icmpYes F d0_224 (t := 238) rfl rfl ?_
      refine Run.iload F d0_238 rfl ?_
      refine Run.iconst F d0_240 (z := 4) rfl ?_
      refine Run.icmpYes F d0_241 (t := 255) rfl rfl ?_
      have ee : esc [] = ([] : List Int32) := by simp [esc]
      exact JJ _ _ _ _ _ _ ⟨[], x, bx, tt, _, [("", a2), ("", a1)], by simp, (fun c hc => nomatch hc), S50, by rw [ee]; exact P0, O5, rfl, by simp, by decide, by decide, by rw [ee]; try rfl, rfl⟩
    · refine Run.ifYes F d0_35 (t := 53) rfl rfl ?_
      refine Run.iload F d0_53 rfl ?_
      refine Run.iconst F d0_55 (z := 1) rfl ?_
      refine Run.icmpNo F d0_56 rfl ?_
      refine Run.new F (w5 hw) (w6 hw) (w7 hw) (by decide) (by decide) d0_59 ?_
      intro hN x hx KN ltN EN DN UN
      have ON : Old Z n0 hN := hO.keep KN all0
      have gx : n0 ≤ x := by rw [hx, ← hO.1]; exact hO.2.1
      have Fv := DN (O := "java/lang/String") (f := "value") (ds := "[B") (ty := .array .byte) (Or.inr (w21 hw)) (by decide)
      have Fc := DN (O := "java/lang/String") (f := "coder") (ds := "B") (ty := .byte) (Or.inr (w22 hw)) (by decide)
      refine Run.dup F d0_62 rfl ?_
      refine Run.iconst F d0_63 (z := 1) rfl ?_
      refine Run.newarray (aty := .char) F (w8 hw) (by decide) (len := 1) rfl 1 (by decide) rfl (by decide) (by decide) d0_64 ?_
      intro hA ta hta KA ltA A0
      have gA : n0 ≤ ta := by rw [hta, ← ON.1]; exact ON.2.1
      have OA : Old Z n0 hA := ON.keep KA all0
      have KKA : Keep hN hA [] := KA
      refine Run.dup F d0_66 rfl ?_
      refine Run.iconst F d0_67 (z := 0) rfl ?_
      refine Run.iload F d0_68 rfl ?_
      refine Run.castore F A0 gA (by decide) (i := 0) rfl (by simp) (y := c0) (chr_id r0.1 r0.2) d0_70 ?_
      intro hA0 WA0 KA0 sA0 A1
      have OA0 : Old Z n0 hA0 := OA.wr WA0 gA
      have KKA0 : Keep hN hA0 [] := KKA.trans KA0 (allS (Or.inr (Nat.le_of_eq hta.symm)) all0)
      have AA : Av Z hA0 ta .char (([c0] : List Int32).map Value.int) := A1
      have rr : ∀ c ∈ ([c0] : List Int32), 0 ≤ c.toInt ∧ c.toInt < 65536 := by
        intro c hc
        simp only [List.mem_cons, List.not_mem_nil, or_false] at hc
        rcases hc with rfl <;> assumption
      refine Run.callInit F (w9 hw) (w10 hw) (w7 hw) (w11 hw) (c_newG l Z n0 a0 hw x ta [c0] SC hcz UA UH UL hA0 _ OA0 (EN.keep KKA0) (Fv.keep KKA0 nin0) (Fc.keep KKA0 nin0) gx AA (by simp) (by simp) rr) rfl rfl pd40 rfl rfl rfl rfl (by decide) (by decide) rfl d0_71 ?_
      rintro _ h4 _ ⟨rfl, bx, K4, hbx, S5, rfl⟩ O4 _
      show Run _ _ _ _ _ _ _ _ _ _ _ _ _ _ _ _ _ _ _ _ [Value.ref x]
      refine Run.astore F d0_74 rfl rfl ?_
      dsimp only [List.set]
      refine Run.goto F d0_76 (t := 178) rfl ?_
      refine Run.bipush F d0_178 (z := 8) rfl ?_
      refine Run.newarray (aty := .char) F (w8 hw) (by decide) (len := 8) rfl 8 (by decide) rfl (by decide) (by decide) d0_180 ?_
      intro h5 tt htt K5 lt5 A5
      have gt : n0 ≤ tt := by rw [htt, ← O4.1]; exact O4.2.1
      have O5 : Old Z n0 h5 := O4.keep K5 all0
      have P0 : Av Z h5 tt .char (([] : List Int32).map Value.int ++ List.replicate 8 (.int 0)) := A5
      have S50 := S5.keep K5 nin0 nin0
      have la := S5.la
      have lbb := S5.lb
      have nx1 : x ∉ [tt] := ninN (by omega) nin0
      have nx2 : bx ∉ [tt] := ninN (by omega) nin0
      refine Run.astore F d0_182 rfl rfl ?_
      dsimp only [List.set]
      refine Run.iconst F d0_184 (z := 0) rfl ?_
      refine Run.istore F d0_185 rfl ?_
      dsimp only [List.set]
      refine Run.iload F d0_187 rfl ?_
      refine Run.iconst F d0_189 (z := 1) rfl ?_
      refine Run.icmpNo F d0_190 rfl ?_
      refine Run.aload F d0_193 rfl rfl ?_
      refine Run.iload F d0_195 rfl ?_
      refine Run.iload F d0_197 rfl ?_
      refine Run.callStatic F (w121 hw) (w122 hw) (w3 hw) (w123 hw) (c_put l Z n0 a0 hw tt (([] : List Int32)) c0 (8) h5 _ O5 P0 gt (by omega) r0) rfl pd41 rfl rfl rfl rfl (by decide) (by decide) rfl d0_199 ?_
      rintro _ h60 _ ⟨_, rfl, rfl, KP0, sz0, P1, rfl⟩ OP0 _
      have SP0 := S50.keep KP0 nx1 nx2
      refine Run.istore F d0_202 rfl ?_
      dsimp only [List.set]
      refine Run.iload F d0_204 rfl ?_
      refine Run.iconst F d0_206 (z := 2) rfl ?_
      refine Run.icmpYes F d0_207 (t := 221) rfl rfl ?_
      refine Run.iload F d0_221 rfl ?_
      refine Run.iconst F d0_223 (z := 3) rfl ?_
      refine Run.icmpYes F d0_224 (t := 238) rfl rfl ?_
      refine Run.iload F d0_238 rfl ?_
      refine Run.iconst F d0_240 (z := 4) rfl ?_
      refine Run.icmpYes F d0_241 (t := 255) rfl rfl ?_
      have ee : esc [c0] = ([] : List Int32) ++ e1 c0 := by simp [esc]
      exact JJ _ _ _ _ _ _ ⟨[c0], x, bx, tt, _, [], by simp, rr, SP0, by rw [ee]; exact P1, OP0, rfl, by simp, by decide, by decide, by rw [ee]; try rfl, rfl⟩
    · refine Run.ifYes F d0_35 (t := 53) rfl rfl ?_
      refine Run.iload F d0_53 rfl ?_
      refine Run.iconst F d0_55 (z := 1) rfl ?_
      refine Run.icmpYes F d0_56 (t := 79) rfl rfl ?_
      refine Run.iload F d0_79 rfl ?_
      refine Run.iconst F d0_81 (z := 2) rfl ?_
      refine Run.icmpNo F d0_82 rfl ?_
      refine Run.new F (w5 hw) (w6 hw) (w7 hw) (by decide) (by decide) d0_85 ?_
      intro hN x hx KN ltN EN DN UN
      have ON : Old Z n0 hN := hO.keep KN all0
      have gx : n0 ≤ x := by rw [hx, ← hO.1]; exact hO.2.1
      have Fv := DN (O := "java/lang/String") (f := "value") (ds := "[B") (ty := .array .byte) (Or.inr (w21 hw)) (by decide)
      have Fc := DN (O := "java/lang/String") (f := "coder") (ds := "B") (ty := .byte) (Or.inr (w22 hw)) (by decide)
      refine Run.dup F d0_88 rfl ?_
      refine Run.iconst F d0_89 (z := 2) rfl ?_
      refine Run.newarray (aty := .char) F (w8 hw) (by decide) (len := 2) rfl 2 (by decide) rfl (by decide) (by decide) d0_90 ?_
      intro hA ta hta KA ltA A0
      have gA : n0 ≤ ta := by rw [hta, ← ON.1]; exact ON.2.1
      have OA : Old Z n0 hA := ON.keep KA all0
      have KKA : Keep hN hA [] := KA
      refine Run.dup F d0_92 rfl ?_
      refine Run.iconst F d0_93 (z := 0) rfl ?_
      refine Run.iload F d0_94 rfl ?_
      refine Run.castore F A0 gA (by decide) (i := 0) rfl (by simp) (y := c0) (chr_id r0.1 r0.2) d0_96 ?_
      intro hA0 WA0 KA0 sA0 A1
      have OA0 : Old Z n0 hA0 := OA.wr WA0 gA
      have KKA0 : Keep hN hA0 [] := KKA.trans KA0 (allS (Or.inr (Nat.le_of_eq hta.symm)) all0)
      refine Run.dup F d0_97 rfl ?_
      refine Run.iconst F d0_98 (z := 1) rfl ?_
      refine Run.iload F d0_99 rfl ?_
      refine Run.castore F A1 gA (by decide) (i := 1) rfl (by simp) (y := c1) (chr_id r1.1 r1.2) d0_101 ?_
      intro hA1 WA1 KA1 sA1 A2
      have OA1 : Old Z n0 hA1 := OA0.wr WA1 gA
      have KKA1 : Keep hN hA1 [] := KKA0.trans KA1 (allS (Or.inr (Nat.le_of_eq hta.symm)) all0)
      have AA : Av Z hA1 ta .char (([c0, c1] : List Int32).map Value.int) := A2
      have rr : ∀ c ∈ ([c0, c1] : List Int32), 0 ≤ c.toInt ∧ c.toInt < 65536 := by
        intro c hc
        simp only [List.mem_cons, List.not_mem_nil, or_false] at hc
        rcases hc with rfl | rfl <;> assumption
      refine Run.callInit F (w9 hw) (w10 hw) (w7 hw) (w11 hw) (c_newG l Z n0 a0 hw x ta [c0, c1] SC hcz UA UH UL hA1 _ OA1 (EN.keep KKA1) (Fv.keep KKA1 nin0) (Fc.keep KKA1 nin0) gx AA (by simp) (by simp) rr) rfl rfl pd40 rfl rfl rfl rfl (by decide) (by decide) rfl d0_102 ?_
      rintro _ h4 _ ⟨rfl, bx, K4, hbx, S5, rfl⟩ O4 _
      show Run _ _ _ _ _ _ _ _ _ _ _ _ _ _ _ _ _ _ _ _ [Value.ref x]
      refine Run.astore F d0_105 rfl rfl ?_
      dsimp only [List.set]
      refine Run.goto F d0_107 (t := 178) rfl ?_
      refine Run.bipush F d0_178 (z := 8) rfl ?_
      refine Run.newarray (aty := .char) F (w8 hw) (by decide) (len := 8) rfl 8 (by decide) rfl (by decide) (by decide) d0_180 ?_
      intro h5 tt htt K5 lt5 A5
      have gt : n0 ≤ tt := by rw [htt, ← O4.1]; exact O4.2.1
      have O5 : Old Z n0 h5 := O4.keep K5 all0
      have P0 : Av Z h5 tt .char (([] : List Int32).map Value.int ++ List.replicate 8 (.int 0)) := A5
      have S50 := S5.keep K5 nin0 nin0
      have la := S5.la
      have lbb := S5.lb
      have nx1 : x ∉ [tt] := ninN (by omega) nin0
      have nx2 : bx ∉ [tt] := ninN (by omega) nin0
      refine Run.astore F d0_182 rfl rfl ?_
      dsimp only [List.set]
      refine Run.iconst F d0_184 (z := 0) rfl ?_
      refine Run.istore F d0_185 rfl ?_
      dsimp only [List.set]
      refine Run.iload F d0_187 rfl ?_
      refine Run.iconst F d0_189 (z := 1) rfl ?_
      refine Run.icmpNo F d0_190 rfl ?_
      refine Run.aload F d0_193 rfl rfl ?_
      refine Run.iload F d0_195 rfl ?_
      refine Run.iload F d0_197 rfl ?_
      refine Run.callStatic F (w121 hw) (w122 hw) (w3 hw) (w123 hw) (c_put l Z n0 a0 hw tt (([] : List Int32)) c0 (8) h5 _ O5 P0 gt (by omega) r0) rfl pd41 rfl rfl rfl rfl (by decide) (by decide) rfl d0_199 ?_
      rintro _ h60 _ ⟨_, rfl, rfl, KP0, sz0, P1, rfl⟩ OP0 _
      have SP0 := S50.keep KP0 nx1 nx2
      refine Run.istore F d0_202 rfl ?_
      dsimp only [List.set]
      refine Run.iload F d0_204 rfl ?_
      refine Run.iconst F d0_206 (z := 2) rfl ?_
      refine Run.icmpNo F d0_207 rfl ?_
      refine Run.aload F d0_210 rfl rfl ?_
      refine Run.iload F d0_212 rfl ?_
      refine Run.iload F d0_214 rfl ?_
      refine Run.callStatic F (w121 hw) (w122 hw) (w3 hw) (w123 hw) (c_put l Z n0 a0 hw tt (([] : List Int32) ++ e1 c0) c1 (8 - (e1 c0).length) h60 _ OP0 P1 gt (by omega) r1) rfl pd41 rfl rfl rfl rfl (by decide) (by decide) rfl d0_216 ?_
      rintro _ h61 _ ⟨_, rfl, rfl, KP1, sz1, P2, rfl⟩ OP1 _
      have SP1 := SP0.keep KP1 nx1 nx2
      refine Run.istore F d0_219 rfl ?_
      dsimp only [List.set]
      refine Run.iload F d0_221 rfl ?_
      refine Run.iconst F d0_223 (z := 3) rfl ?_
      refine Run.icmpYes F d0_224 (t := 238) rfl rfl ?_
      refine Run.iload F d0_238 rfl ?_
      refine Run.iconst F d0_240 (z := 4) rfl ?_
      refine Run.icmpYes F d0_241 (t := 255) rfl rfl ?_
      have ee : esc [c0, c1] = (([] : List Int32) ++ e1 c0) ++ e1 c1 := by simp [esc]
      exact JJ _ _ _ _ _ _ ⟨[c0, c1], x, bx, tt, _, [], by simp, rr, SP1, by rw [ee]; exact P2, OP1, rfl, by simp, by decide, by decide, by rw [ee]; try rfl, rfl⟩
    · refine Run.ifYes F d0_35 (t := 53) rfl rfl ?_
      refine Run.iload F d0_53 rfl ?_
      refine Run.iconst F d0_55 (z := 1) rfl ?_
      refine Run.icmpYes F d0_56 (t := 79) rfl rfl ?_
      refine Run.iload F d0_79 rfl ?_
      refine Run.iconst F d0_81 (z := 2) rfl ?_
      refine Run.icmpYes F d0_82 (t := 110) rfl rfl ?_
      refine Run.iload F d0_110 rfl ?_
      refine Run.iconst F d0_112 (z := 3) rfl ?_
      refine Run.icmpNo F d0_113 rfl ?_
      refine Run.new F (w5 hw) (w6 hw) (w7 hw) (by decide) (by decide) d0_116 ?_
      intro hN x hx KN ltN EN DN UN
      have ON : Old Z n0 hN := hO.keep KN all0
      have gx : n0 ≤ x := by rw [hx, ← hO.1]; exact hO.2.1
      have Fv := DN (O := "java/lang/String") (f := "value") (ds := "[B") (ty := .array .byte) (Or.inr (w21 hw)) (by decide)
      have Fc := DN (O := "java/lang/String") (f := "coder") (ds := "B") (ty := .byte) (Or.inr (w22 hw)) (by decide)
      refine Run.dup F d0_119 rfl ?_
      refine Run.iconst F d0_120 (z := 3) rfl ?_
      refine Run.newarray (aty := .char) F (w8 hw) (by decide) (len := 3) rfl 3 (by decide) rfl (by decide) (by decide) d0_121 ?_
      intro hA ta hta KA ltA A0
      have gA : n0 ≤ ta := by rw [hta, ← ON.1]; exact ON.2.1
      have OA : Old Z n0 hA := ON.keep KA all0
      have KKA : Keep hN hA [] := KA
      refine Run.dup F d0_123 rfl ?_
      refine Run.iconst F d0_124 (z := 0) rfl ?_
      refine Run.iload F d0_125 rfl ?_
      refine Run.castore F A0 gA (by decide) (i := 0) rfl (by simp) (y := c0) (chr_id r0.1 r0.2) d0_127 ?_
      intro hA0 WA0 KA0 sA0 A1
      have OA0 : Old Z n0 hA0 := OA.wr WA0 gA
      have KKA0 : Keep hN hA0 [] := KKA.trans KA0 (allS (Or.inr (Nat.le_of_eq hta.symm)) all0)
      refine Run.dup F d0_128 rfl ?_
      refine Run.iconst F d0_129 (z := 1) rfl ?_
      refine Run.iload F d0_130 rfl ?_
      refine Run.castore F A1 gA (by decide) (i := 1) rfl (by simp) (y := c1) (chr_id r1.1 r1.2) d0_132 ?_
      intro hA1 WA1 KA1 sA1 A2
      have OA1 : Old Z n0 hA1 := OA0.wr WA1 gA
      have KKA1 : Keep hN hA1 [] := KKA0.trans KA1 (allS (Or.inr (Nat.le_of_eq hta.symm)) all0)
      refine Run.dup F d0_133 rfl ?_
      refine Run.iconst F d0_134 (z := 2) rfl ?_
      refine Run.iload F d0_135 rfl ?_
      refine Run.castore F A2 gA (by decide) (i := 2) rfl (by simp) (y := c2) (chr_id r2.1 r2.2) d0_137 ?_
      intro hA2 WA2 KA2 sA2 A3
      have OA2 : Old Z n0 hA2 := OA1.wr WA2 gA
      have KKA2 : Keep hN hA2 [] := KKA1.trans KA2 (allS (Or.inr (Nat.le_of_eq hta.symm)) all0)
      have AA : Av Z hA2 ta .char (([c0, c1, c2] : List Int32).map Value.int) := A3
      have rr : ∀ c ∈ ([c0, c1, c2] : List Int32), 0 ≤ c.toInt ∧ c.toInt < 65536 := by
        intro c hc
        simp only [List.mem_cons, List.not_mem_nil, or_false] at hc
        rcases hc with rfl | rfl | rfl <;> assumption
      refine Run.callInit F (w9 hw) (w10 hw) (w7 hw) (w11 hw) (c_newG l Z n0 a0 hw x ta [c0, c1, c2] SC hcz UA UH UL hA2 _ OA2 (EN.keep KKA2) (Fv.keep KKA2 nin0) (Fc.keep KKA2 nin0) gx AA (by simp) (by simp) rr) rfl rfl pd40 rfl rfl rfl rfl (by decide) (by decide) rfl d0_138 ?_
      rintro _ h4 _ ⟨rfl, bx, K4, hbx, S5, rfl⟩ O4 _
      show Run _ _ _ _ _ _ _ _ _ _ _ _ _ _ _ _ _ _ _ _ [Value.ref x]
      refine Run.astore F d0_141 rfl rfl ?_
      dsimp only [List.set]
      refine Run.goto F d0_143 (t := 178) rfl ?_
      refine Run.bipush F d0_178 (z := 8) rfl ?_
      refine Run.newarray (aty := .char) F (w8 hw) (by decide) (len := 8) rfl 8 (by decide) rfl (by decide) (by decide) d0_180 ?_
      intro h5 tt htt K5 lt5 A5
      have gt : n0 ≤ tt := by rw [htt, ← O4.1]; exact O4.2.1
      have O5 : Old Z n0 h5 := O4.keep K5 all0
      have P0 : Av Z h5 tt .char (([] : List Int32).map Value.int ++ List.replicate 8 (.int 0)) := A5
      have S50 := S5.keep K5 nin0 nin0
      have la := S5.la
      have lbb := S5.lb
      have nx1 : x ∉ [tt] := ninN (by omega) nin0
      have nx2 : bx ∉ [tt] := ninN (by omega) nin0
      refine Run.astore F d0_182 rfl rfl ?_
      dsimp only [List.set]
      refine Run.iconst F d0_184 (z := 0) rfl ?_
      refine Run.istore F d0_185 rfl ?_
      dsimp only [List.set]
      refine Run.iload F d0_187 rfl ?_
      refine Run.iconst F d0_189 (z := 1) rfl ?_
      refine Run.icmpNo F d0_190 rfl ?_
      refine Run.aload F d0_193 rfl rfl ?_
      refine Run.iload F d0_195 rfl ?_
      refine Run.iload F d0_197 rfl ?_
      refine Run.callStatic F (w121 hw) (w122 hw) (w3 hw) (w123 hw) (c_put l Z n0 a0 hw tt (([] : List Int32)) c0 (8) h5 _ O5 P0 gt (by omega) r0) rfl pd41 rfl rfl rfl rfl (by decide) (by decide) rfl d0_199 ?_
      rintro _ h60 _ ⟨_, rfl, rfl, KP0, sz0, P1, rfl⟩ OP0 _
      have SP0 := S50.keep KP0 nx1 nx2
      refine Run.istore F d0_202 rfl ?_
      dsimp only [List.set]
      refine Run.iload F d0_204 rfl ?_
      refine Run.iconst F d0_206 (z := 2) rfl ?_
      refine Run.icmpNo F d0_207 rfl ?_
      refine Run.aload F d0_210 rfl rfl ?_
      refine Run.iload F d0_212 rfl ?_
      refine Run.iload F d0_214 rfl ?_
      refine Run.callStatic F (w121 hw) (w122 hw) (w3 hw) (w123 hw) (c_put l Z n0 a0 hw tt (([] : List Int32) ++ e1 c0) c1 (8 - (e1 c0).length) h60 _ OP0 P1 gt (by omega) r1) rfl pd41 rfl rfl rfl rfl (by decide) (by decide) rfl d0_216 ?_
      rintro _ h61 _ ⟨_, rfl, rfl, KP1, sz1, P2, rfl⟩ OP1 _
      have SP1 := SP0.keep KP1 nx1 nx2
      refine Run.istore F d0_219 rfl ?_
      dsimp only [List.set]
      refine Run.iload F d0_221 rfl ?_
      refine Run.iconst F d0_223 (z := 3) rfl ?_
      refine Run.icmpNo F d0_224 rfl ?_
      refine Run.aload F d0_227 rfl rfl ?_
      refine Run.iload F d0_229 rfl ?_
      refine Run.iload F d0_231 rfl ?_
      refine Run.callStatic F (w121 hw) (w122 hw) (w3 hw) (w123 hw) (c_put l Z n0 a0 hw tt ((([] : List Int32) ++ e1 c0) ++ e1 c1) c2 (8 - (e1 c0).length - (e1 c1).length) h61 _ OP1 P2 gt (by omega) r2) rfl pd41 rfl rfl rfl rfl (by decide) (by decide) rfl d0_233 ?_
      rintro _ h62 _ ⟨_, rfl, rfl, KP2, sz2, P3, rfl⟩ OP2 _
      have SP2 := SP1.keep KP2 nx1 nx2
      refine Run.istore F d0_236 rfl ?_
      dsimp only [List.set]
      refine Run.iload F d0_238 rfl ?_
      refine Run.iconst F d0_240 (z := 4) rfl ?_
      refine Run.icmpYes F d0_241 (t := 255) rfl rfl ?_
      have ee : esc [c0, c1, c2] = ((([] : List Int32) ++ e1 c0) ++ e1 c1) ++ e1 c2 := by simp [esc]
      exact JJ _ _ _ _ _ _ ⟨[c0, c1, c2], x, bx, tt, _, [], by simp, rr, SP2, by rw [ee]; exact P3, OP2, rfl, by simp, by decide, by decide, by rw [ee]; try rfl, rfl⟩
    · refine Run.ifYes F d0_35 (t := 53) rfl rfl ?_
      refine Run.iload F d0_53 rfl ?_
      refine Run.iconst F d0_55 (z := 1) rfl ?_
      refine Run.icmpYes F d0_56 (t := 79) rfl rfl ?_
      refine Run.iload F d0_79 rfl ?_
      refine Run.iconst F d0_81 (z := 2) rfl ?_
      refine Run.icmpYes F d0_82 (t := 110) rfl rfl ?_
      refine Run.iload F d0_110 rfl ?_
      refine Run.iconst F d0_112 (z := 3) rfl ?_
      refine Run.icmpYes F d0_113 (t := 146) rfl rfl ?_
      refine Run.new F (w5 hw) (w6 hw) (w7 hw) (by decide) (by decide) d0_146 ?_
      intro hN x hx KN ltN EN DN UN
      have ON : Old Z n0 hN := hO.keep KN all0
      have gx : n0 ≤ x := by rw [hx, ← hO.1]; exact hO.2.1
      have Fv := DN (O := "java/lang/String") (f := "value") (ds := "[B") (ty := .array .byte) (Or.inr (w21 hw)) (by decide)
      have Fc := DN (O := "java/lang/String") (f := "coder") (ds := "B") (ty := .byte) (Or.inr (w22 hw)) (by decide)
      refine Run.dup F d0_149 rfl ?_
      refine Run.iconst F d0_150 (z := 4) rfl ?_
      refine Run.newarray (aty := .char) F (w8 hw) (by decide) (len := 4) rfl 4 (by decide) rfl (by decide) (by decide) d0_151 ?_
      intro hA ta hta KA ltA A0
      have gA : n0 ≤ ta := by rw [hta, ← ON.1]; exact ON.2.1
      have OA : Old Z n0 hA := ON.keep KA all0
      have KKA : Keep hN hA [] := KA
      refine Run.dup F d0_153 rfl ?_
      refine Run.iconst F d0_154 (z := 0) rfl ?_
      refine Run.iload F d0_155 rfl ?_
      refine Run.castore F A0 gA (by decide) (i := 0) rfl (by simp) (y := c0) (chr_id r0.1 r0.2) d0_157 ?_
      intro hA0 WA0 KA0 sA0 A1
      have OA0 : Old Z n0 hA0 := OA.wr WA0 gA
      have KKA0 : Keep hN hA0 [] := KKA.trans KA0 (allS (Or.inr (Nat.le_of_eq hta.symm)) all0)
      refine Run.dup F d0_158 rfl ?_
      refine Run.iconst F d0_159 (z := 1) rfl ?_
      refine Run.iload F d0_160 rfl ?_
      refine Run.castore F A1 gA (by decide) (i := 1) rfl (by simp) (y := c1) (chr_id r1.1 r1.2) d0_162 ?_
      intro hA1 WA1 KA1 sA1 A2
      have OA1 : Old Z n0 hA1 := OA0.wr WA1 gA
      have KKA1 : Keep hN hA1 [] := KKA0.trans KA1 (allS (Or.inr (Nat.le_of_eq hta.symm)) all0)
      refine Run.dup F d0_163 rfl ?_
      refine Run.iconst F d0_164 (z := 2) rfl ?_
      refine Run.iload F d0_165 rfl ?_
      refine Run.castore F A2 gA (by decide) (i := 2) rfl (by simp) (y := c2) (chr_id r2.1 r2.2) d0_167 ?_
      intro hA2 WA2 KA2 sA2 A3
      have OA2 : Old Z n0 hA2 := OA1.wr WA2 gA
      have KKA2 : Keep hN hA2 [] := KKA1.trans KA2 (allS (Or.inr (Nat.le_of_eq hta.symm)) all0)
      refine Run.dup F d0_168 rfl ?_
      refine Run.iconst F d0_169 (z := 3) rfl ?_
      refine Run.iload F d0_170 rfl ?_
      refine Run.castore F A3 gA (by decide) (i := 3) rfl (by simp) (y := c3) (chr_id r3.1 r3.2) d0_172 ?_
      intro hA3 WA3 KA3 sA3 A4
      have OA3 : Old Z n0 hA3 := OA2.wr WA3 gA
      have KKA3 : Keep hN hA3 [] := KKA2.trans KA3 (allS (Or.inr (Nat.le_of_eq hta.symm)) all0)
      have AA : Av Z hA3 ta .char (([c0, c1, c2, c3] : List Int32).map Value.int) := A4
      have rr : ∀ c ∈ ([c0, c1, c2, c3] : List Int32), 0 ≤ c.toInt ∧ c.toInt < 65536 := by
        intro c hc
        simp only [List.mem_cons, List.not_mem_nil, or_false] at hc
        rcases hc with rfl | rfl | rfl | rfl <;> assumption
      refine Run.callInit F (w9 hw) (w10 hw) (w7 hw) (w11 hw) (c_newG l Z n0 a0 hw x ta [c0, c1, c2, c3] SC hcz UA UH UL hA3 _ OA3 (EN.keep KKA3) (Fv.keep KKA3 nin0) (Fc.keep KKA3 nin0) gx AA (by simp) (by simp) rr) rfl rfl pd40 rfl rfl rfl rfl (by decide) (by decide) rfl d0_173 ?_
      rintro _ h4 _ ⟨rfl, bx, K4, hbx, S5, rfl⟩ O4 _
      show Run _ _ _ _ _ _ _ _ _ _ _ _ _ _ _ _ _ _ _ _ [Value.ref x]
      refine Run.astore F d0_176 rfl rfl ?_
      dsimp only [List.set]
      refine Run.bipush F d0_178 (z := 8) rfl ?_
      refine Run.newarray (aty := .char) F (w8 hw) (by decide) (len := 8) rfl 8 (by decide) rfl (by decide) (by decide) d0_180 ?_
      intro h5 tt htt K5 lt5 A5
      have gt : n0 ≤ tt := by rw [htt, ← O4.1]; exact O4.2.1
      have O5 : Old Z n0 h5 := O4.keep K5 all0
      have P0 : Av Z h5 tt .char (([] : List Int32).map Value.int ++ List.replicate 8 (.int 0)) := A5
      have S50 := S5.keep K5 nin0 nin0
      have la := S5.la
      have lbb := S5.lb
      have nx1 : x ∉ [tt] := ninN (by omega) nin0
      have nx2 : bx ∉ [tt] := ninN (by omega) nin0
      refine Run.astore F d0_182 rfl rfl ?_
      dsimp only [List.set]
      refine Run.iconst F d0_184 (z := 0) rfl ?_
      refine Run.istore F d0_185 rfl ?_
      dsimp only [List.set]
      refine Run.iload F d0_187 rfl ?_
      refine Run.iconst F d0_189 (z := 1) rfl ?_
      refine Run.icmpNo F d0_190 rfl ?_
      refine Run.aload F d0_193 rfl rfl ?_
      refine Run.iload F d0_195 rfl ?_
      refine Run.iload F d0_197 rfl ?_
      refine Run.callStatic F (w121 hw) (w122 hw) (w3 hw) (w123 hw) (c_put l Z n0 a0 hw tt (([] : List Int32)) c0 (8) h5 _ O5 P0 gt (by omega) r0) rfl pd41 rfl rfl rfl rfl (by decide) (by decide) rfl d0_199 ?_
      rintro _ h60 _ ⟨_, rfl, rfl, KP0, sz0, P1, rfl⟩ OP0 _
      have SP0 := S50.keep KP0 nx1 nx2
      refine Run.istore F d0_202 rfl ?_
      dsimp only [List.set]
      refine Run.iload F d0_204 rfl ?_
      refine Run.iconst F d0_206 (z := 2) rfl ?_
      refine Run.icmpNo F d0_207 rfl ?_
      refine Run.aload F d0_210 rfl rfl ?_
      refine Run.iload F d0_212 rfl ?_
      refine Run.iload F d0_214 rfl ?_
      refine Run.callStatic F (w121 hw) (w122 hw) (w3 hw) (w123 hw) (c_put l Z n0 a0 hw tt (([] : List Int32) ++ e1 c0) c1 (8 - (e1 c0).length) h60 _ OP0 P1 gt (by omega) r1) rfl pd41 rfl rfl rfl rfl (by decide) (by decide) rfl d0_216 ?_
      rintro _ h61 _ ⟨_, rfl, rfl, KP1, sz1, P2, rfl⟩ OP1 _
      have SP1 := SP0.keep KP1 nx1 nx2
      refine Run.istore F d0_219 rfl ?_
      dsimp only [List.set]
      refine Run.iload F d0_221 rfl ?_
      refine Run.iconst F d0_223 (z := 3) rfl ?_
      refine Run.icmpNo F d0_224 rfl ?_
      refine Run.aload F d0_227 rfl rfl ?_
      refine Run.iload F d0_229 rfl ?_
      refine Run.iload F d0_231 rfl ?_
      refine Run.callStatic F (w121 hw) (w122 hw) (w3 hw) (w123 hw) (c_put l Z n0 a0 hw tt ((([] : List Int32) ++ e1 c0) ++ e1 c1) c2 (8 - (e1 c0).length - (e1 c1).length) h61 _ OP1 P2 gt (by omega) r2) rfl pd41 rfl rfl rfl rfl (by decide) (by decide) rfl d0_233 ?_
      rintro _ h62 _ ⟨_, rfl, rfl, KP2, sz2, P3, rfl⟩ OP2 _
      have SP2 := SP1.keep KP2 nx1 nx2
      refine Run.istore F d0_236 rfl ?_
      dsimp only [List.set]
      refine Run.iload F d0_238 rfl ?_
      refine Run.iconst F d0_240 (z := 4) rfl ?_
      refine Run.icmpNo F d0_241 rfl ?_
      refine Run.aload F d0_244 rfl rfl ?_
      refine Run.iload F d0_246 rfl ?_
      refine Run.iload F d0_248 rfl ?_
      refine Run.callStatic F (w121 hw) (w122 hw) (w3 hw) (w123 hw) (c_put l Z n0 a0 hw tt (((([] : List Int32) ++ e1 c0) ++ e1 c1) ++ e1 c2) c3 (8 - (e1 c0).length - (e1 c1).length - (e1 c2).length) h62 _ OP2 P3 gt (by omega) r3) rfl pd41 rfl rfl rfl rfl (by decide) (by decide) rfl d0_250 ?_
      rintro _ h63 _ ⟨_, rfl, rfl, KP3, sz3, P4, rfl⟩ OP3 _
      have SP3 := SP2.keep KP3 nx1 nx2
      refine Run.istore F d0_253 rfl ?_
      dsimp only [List.set]
      have ee : esc [c0, c1, c2, c3] = (((([] : List Int32) ++ e1 c0) ++ e1 c1) ++ e1 c2) ++ e1 c3 := by simp [esc]
      exact JJ _ _ _ _ _ _ ⟨[c0, c1, c2, c3], x, bx, tt, _, [], by simp, rr, SP3, by rw [ee]; exact P4, OP3, rfl, by simp, by decide, by decide, by rw [ee]; try rfl, rfl⟩
set_option maxRecDepth 65536 in
set_option maxHeartbeats 40000000 in
theorem comes_1 {Post : Tables → Env → Array Value → State → Outcome → State → Prop} (hpost : ∀ tb e args s v u, (limb_1_1.after args s (.returned v) u = true ∧ limb_1_2.after args s (.returned v) u = true ∧ True) → ReturnedEndW s (.returned v) u (Jvm.fieldLocs frame_1_writes args s ++ Jvm.arrayLocs frame_1_arrays args s ++ Jvm.staticLocs frame_1_statics s) 40 5376 → Post tb e args s (.returned v) u) :
    ArmFor flags0 classFile x code maxLocals ret World_1 tables_1 room_1 Calls_1 rest_1 Pre_1 Post := by
  intro l hfl _ _ p e ha hc hk s m args below hf hA hF happ hP
  obtain ⟨hcalls, hrest, hpre⟩ := hP
  obtain ⟨-, -, -, hnamed, -, -, -, hat⟩ := (Spec.applies_iff hf).mp happ
  obtain ⟨hg, hn⟩ := and_e (Cond.before_iff.mp (show (Jvm.Cond.and given_1 narrow_1).before args s = true from hpre))
  obtain ⟨h1, g0⟩ := and_e hg
  obtain ⟨k0, g1⟩ := and_e g0
  obtain ⟨k1, g2⟩ := and_e g1
  obtain ⟨k2, g3⟩ := and_e g2
  obtain ⟨k3, g4⟩ := and_e g3
  have k4 := g4
  obtain ⟨w_0, w_1, w_2, w_3, w_4, rfl⟩ : ∃ w_0 w_1 w_2 w_3 w_4 : Value, args = #[w_0, w_1, w_2, w_3, w_4] := by
    have hs : args.size = 5 := by simpa [Cond.value, given_1] using h1
    obtain ⟨L⟩ := args
    match L, hs with
    | [w_0, w_1, w_2, w_3, w_4], _ => exact ⟨w_0, w_1, w_2, w_3, w_4, rfl⟩
  have hw := fun d (hd : d ∈ tables_1) => atoms_spec (ws := Jvm.Cond.code x code maxLocals ret :: tables_1) hat d (List.mem_cons_of_mem _ hd)
  obtain ⟨hsets, hown0⟩ := atoms_of _ (rest_1_c_eq ▸ (show rest_1_c.before _ s = true from hrest))
  have hfit : Fit s := fun {y c} hc i hi => by
    obtain ⟨ha, rfl⟩ := Array.getElem?_eq_some_iff.mp hc
    have q := List.all_eq_true.mp ((Array.all_eq_true_iff_forall_mem.mp hF) _ (Array.getElem_mem ha)) i (List.mem_range.mpr hi)
    simpa [Array.getElem?_eq_getElem hi] using q
  obtain ⟨i0, e0⟩ := is_v k0
  obtain rfl : w_0 = (.int i0) := Option.some.inj e0
  obtain ⟨i1, e1⟩ := is_v k1
  obtain rfl : w_1 = (.int i1) := Option.some.inj e1
  obtain ⟨i2, e2⟩ := is_v k2
  obtain rfl : w_2 = (.int i2) := Option.some.inj e2
  obtain ⟨i3, e3⟩ := is_v k3
  obtain rfl : w_3 = (.int i3) := Option.some.inj e3
  obtain ⟨i4, e4⟩ := is_v k4
  obtain rfl : w_4 = (.int i4) := Option.some.inj e4
  have n_cz := not_v (Cond.before_iff.mp (hsets _ (List.mem_of_getElem? (i := 2) rfl)))
  obtain ⟨cz, e_cz⟩ := is_v (Cond.before_iff.mp (hsets _ (List.mem_of_getElem? (i := 1) rfl)))
  have SC : Sta s s.heap "java/lang/String" "COMPACT_STRINGS" "Z" (.int cz) := Sta.start e_cz (Or.inl (hsets _ (List.mem_of_getElem? (i := 0) rfl)))
  have hcz0 : ¬ (cz = (0 : Int32)) := gotF (Cond.eq_ints e_cz (Term.int_eval (0))) n_cz
  have hcz : cz.toInt ≠ 0 := fun q => hcz0 (Int32.toInt_inj.mp q)
  obtain ⟨sf, e_sf, hsf⟩ := isR_v (Cond.before_iff.mp (hsets _ (List.mem_of_getElem? (i := 8) rfl)))
  have SF : Sta s s.heap "jdk/internal/util/Preconditions" "SIOOBE_FORMATTER" "Ljava/util/function/BiFunction;" sf := Sta.start e_sf (Or.inl (hsets _ (List.mem_of_getElem? (i := 7) rfl)))
  have UA : Sta s s.heap "java/lang/StringUTF16" "$assertionsDisabled" "Z" (.int 1) := Sta.start (static_int (Cond.before_iff.mp (hsets _ (List.mem_of_getElem? (i := 12) rfl)))) (Or.inl (hsets _ (List.mem_of_getElem? (i := 11) rfl)))
  have UH : Sta s s.heap "java/lang/StringUTF16" "HI_BYTE_SHIFT" "I" (.int 0) := Sta.start (static_int (Cond.before_iff.mp (hsets _ (List.mem_of_getElem? (i := 15) rfl)))) (Or.inl (hsets _ (List.mem_of_getElem? (i := 14) rfl)))
  have UL : Sta s s.heap "java/lang/StringUTF16" "LO_BYTE_SHIFT" "I" (.int 8) := Sta.start (static_int (Cond.before_iff.mp (hsets _ (List.mem_of_getElem? (i := 18) rfl)))) (Or.inl (hsets _ (List.mem_of_getElem? (i := 17) rfl)))
  have wS : ∀ a ∈ Bundle.stringAtoms, a.before _ s = true := fun a ha => by
    simp only [Bundle.stringAtoms, List.mem_cons, List.not_mem_nil, or_false] at ha
    rcases ha with rfl | rfl | rfl | rfl | rfl | rfl | rfl
    · exact (w7 hw)
    · exact (w6 hw)
    · exact (w20 hw)
    · exact (w21 hw)
    · exact (w22 hw)
    · exact (w23 hw)
    · exact (w24 hw)
  have hcw : Jvm.Lit.compactW.before _ s = true := (hsets _ (List.mem_of_getElem? (i := 2) rfl))
  have hh0 : Jvm.Lit.constHeld s "com/example/twice_to_once/twicetoonce/cli/RecordLines" 35 := hcalls.1 ("com/example/twice_to_once/twicetoonce/cli/RecordLines", 35) (by simp [consts_1])
  have hh1 : Jvm.Lit.constHeld s "com/example/twice_to_once/twicetoonce/cli/RecordLines" 41 := hcalls.1 ("com/example/twice_to_once/twicetoonce/cli/RecordLines", 41) (by simp [consts_1])
  have hh2 : Jvm.Lit.constHeld s "com/example/twice_to_once/twicetoonce/cli/RecordLines" 43 := hcalls.1 ("com/example/twice_to_once/twicetoonce/cli/RecordLines", 43) (by simp [consts_1])
  have hh3 : Jvm.Lit.constHeld s "com/example/twice_to_once/twicetoonce/cli/RecordLines" 45 := hcalls.1 ("com/example/twice_to_once/twicetoonce/cli/RecordLines", 45) (by simp [consts_1])
  have hh4 : Jvm.Lit.constHeld s "java/lang/String" 7 := hcalls.1 ("java/lang/String", 7) (by simp [consts_1])
  obtain ⟨n, o, r1, r2, r3, v, L, Ls, rfl, ⟨_, rfl, rfl⟩, hO, hI, N, hq⟩ := c_law l s s.heap.size _ hw i0 i1 i2 i3 i4 SC hcz SF hsf UA UH UL wS hcw hh0 hh1 hh2 hh3 hh4 s.heap (some []) (Old.start s) rfl p e ha hc hk s m _ below hf ((Spec.applies_iff_loose hf).mp happ).1 ⟨rfl, State.Warmed39.refl s, rfl, Itn.start s⟩ trivial
  refine ⟨n, _, r1, r2, r3, hpost _ _ _ _ _ _ ⟨Cond.after_iff.mpr rfl, Cond.after_iff.mpr (eq_i res_at (Term.int_eval (1)) rfl), trivial⟩ ⟨hq.1, hq.2.1, hq.2.2.1, (hq.2.2.2.sift fun y hy => Or.inr (N y hy)).mono (by decide) (by decide)⟩⟩
theorem main_1_1 : Claimed_1_1 := comes_1 fun _ _ _ _ _ _ h hF => ⟨h.1, hF⟩
theorem main_1_2 : Claimed_1_2 := comes_1 fun _ _ _ _ _ _ h hF => ⟨h.2.1, hF⟩
end Jvm.Pilot.@@N@@
namespace Jvm.Pilot.@@N@@
open Jvm Jvm.ClassFile Sem Op Lib Jvm.Free Jvm.Stand Jvm.Pilot.@@N@@.Jvm.D
/-! MADE BY PROGRAM (witnessworld.py) out of the Statement's table words and the real class files: 26 classes; the members and pool entries that the words name. The judged class is class 1, her method 5. -/
namespace start1
open Jvm.ClassFile
def u (s : String) : CpInfo := .utf8 (stringToUtf16 s)
/-- a pool by its gaps: so many unusable entries, then the entry; so many at the end -/
def gap : Nat → List CpInfo → List CpInfo
  | 0, r => r
  | n + 1, r => .unusable :: gap n r
def poolList (es : List (Nat × CpInfo)) (last : Nat) : List CpInfo := es.foldr (fun e r => gap e.1 (e.2 :: r)) (gap last [])
def pool (es : List (Nat × CpInfo)) (last : Nat) : Array CpInfo := ⟨poolList es last⟩
def fileOf (pool : Array CpInfo) (this : Nat) (attrs : Array Attribute := #[]) (ms : Array MethodInfo := #[]) (fl : Nat := 33) (sup : Nat := 0) (ifs : Array Nat := #[]) (fds : Array FieldInfo := #[]) : ClassFile where
  minorVersion := 0
  majorVersion := 65
  constantPool := pool
  accessFlags := fl
  thisClass := this
  superClass := sup
  interfaces := ifs
  fields := fds
  methods := ms
  attributes := attrs
def plain (name : String) (sup : Option ClassId) : Class where
  name := name
  kind := .ordinary
  loader := none
  accessFlags := 33
  super := sup
  interfaces := #[]
  cf := none
  fields := #[]
  methods := #[]
  instanceTypes := #[]
  staticTypes := #[]
  resolved := #[]
  callSites := []
  init := .initialized
  statics := none
  mirror := none

def pool0 : Array CpInfo := pool [(5, u "<init>"), (0, u "()V"), (1, .class_ 10), (1, u "java/lang/Object"), (85, u "clone"), (0, u "()Ljava/lang/Object;")] 26

def k0c0 : Code := { maxStack := 0, maxLocals := 1, code := object_method_1_code, exceptionTable := #[], attributes := #[] }
def k0m0 : Method := { name := "<init>", desc := "()V", sig := { parameters := [], returnType := none }, accessFlags := 1, code := some k0c0 }
def k0m1 : Method := { name := "clone", desc := "()Ljava/lang/Object;", sig := { parameters := [], returnType := some (.object "java/lang/Object") }, accessFlags := 260, code := none }
/-- java/lang/Object -/
def k0 : Class := { plain "java/lang/Object" none with
  accessFlags := 33
  interfaces := #[]
  cf := some (fileOf pool0 8 #[] #[{ accessFlags := 1, nameIndex := 5, descriptorIndex := 6, attributes := #[] }, { accessFlags := 260, nameIndex := 96, descriptorIndex := 97, attributes := #[] }] 33 0 #[] #[])
  fields := #[]
  methods := #[k0m0, k0m1]
  instanceTypes := #[]
  staticTypes := #[]
  resolved := Array.replicate 124 none
  statics := none }

def pool1 : Array CpInfo := pool [(2, .class_ 4), (1, u "java/lang/Object"), (0, u "<init>"), (0, u "()V"), (0, .integer 65535), (0, .methodref 9 10), (0, .class_ 11), (0, .nameAndType 12 13), (0, u "com/example/twice_to_once/twicetoonce/cli/RecordLinesFieldPinLaw"), (0, u "escOf"), (0, u "(C)C"), (0, .methodref 15 16), (0, .class_ 17), (0, .nameAndType 18 19), (0, u "java/lang/String"), (0, u "charAt"), (0, u "(I)C"), (0, .integer 2147483647), (0, .methodref 9 22), (0, .nameAndType 23 19), (0, u "draw"), (0, .methodref 15 25), (0, .nameAndType 5 26), (0, u "([C)V"), (0, .methodref 9 28), (0, .nameAndType 29 30), (0, u "put"), (0, u "([CIC)I"), (0, .methodref 32 33), (0, .class_ 34), (0, .nameAndType 35 36), (0, u "com/example/twice_to_once/twicetoonce/cli/RecordLines"), (0, u "field"), (0, u "(Ljava/lang/String;)Ljava/lang/String;"), (0, .methodref 15 38), (0, .nameAndType 39 40), (0, u "length"), (0, u "()I"), (0, .methodref 9 42), (0, .nameAndType 43 44), (0, u "at"), (0, u "(Ljava/lang/String;[CII)Z"), (3, u "law"), (0, u "(IIIII)Z")] 4

def k1m0 : Method := { name := "<init>", desc := "()V", sig := { parameters := [], returnType := none }, accessFlags := 2, code := none }
def k1c1 : Code := { maxStack := 2, maxLocals := 2, code := method_2_code, exceptionTable := #[], attributes := #[] }
def k1m1 : Method := { name := "draw", desc := "(I)C", sig := { parameters := [.int], returnType := some .char }, accessFlags := 10, code := some k1c1 }
def k1c2 : Code := { maxStack := 2, maxLocals := 1, code := method_3_code, exceptionTable := #[], attributes := #[] }
def k1m2 : Method := { name := "escOf", desc := "(C)C", sig := { parameters := [.char], returnType := some .char }, accessFlags := 10, code := some k1c2 }
def k1c3 : Code := { maxStack := 3, maxLocals := 4, code := method_4_code, exceptionTable := #[], attributes := #[] }
def k1m3 : Method := { name := "put", desc := "([CIC)I", sig := { parameters := [(.array .char), .int, .char], returnType := some .int }, accessFlags := 10, code := some k1c3 }
def k1c4 : Code := { maxStack := 3, maxLocals := 4, code := method_5_code, exceptionTable := #[], attributes := #[] }
def k1m4 : Method := { name := "at", desc := "(Ljava/lang/String;[CII)Z", sig := { parameters := [(.object "java/lang/String"), (.array .char), .int, .int], returnType := some .boolean }, accessFlags := 10, code := some k1c4 }
def k1c5 : Code := { maxStack := 6, maxLocals := 14, code := code, exceptionTable := #[], attributes := #[] }
def k1m5 : Method := { name := "law", desc := "(IIIII)Z", sig := { parameters := [.int, .int, .int, .int, .int], returnType := some .boolean }, accessFlags := 9, code := some k1c5 }
/-- com/example/twice_to_once/twicetoonce/cli/RecordLinesFieldPinLaw -/
def k1 : Class := { plain "com/example/twice_to_once/twicetoonce/cli/RecordLinesFieldPinLaw" (some 0) with
  accessFlags := 49
  interfaces := #[]
  cf := some (fileOf pool1 9 #[] #[{ accessFlags := 2, nameIndex := 5, descriptorIndex := 6, attributes := #[] }, { accessFlags := 10, nameIndex := 23, descriptorIndex := 19, attributes := #[] }, { accessFlags := 10, nameIndex := 12, descriptorIndex := 13, attributes := #[] }, { accessFlags := 10, nameIndex := 29, descriptorIndex := 30, attributes := #[] }, { accessFlags := 10, nameIndex := 43, descriptorIndex := 44, attributes := #[] }, { accessFlags := 9, nameIndex := 48, descriptorIndex := 49, attributes := #[] }] 49 2 #[] #[])
  fields := #[]
  methods := #[k1m0, k1m1, k1m2, k1m3, k1m4, k1m5]
  instanceTypes := #[]
  staticTypes := #[]
  resolved := Array.replicate 54 none
  statics := none }

def pool2 : Array CpInfo := pool [(1, .class_ 2), (0, u "java/io/Serializable"), (0, .class_ 4), (0, u "java/lang/Object")] 2

/-- java/io/Serializable -/
def k2 : Class := { plain "java/io/Serializable" (some 0) with
  accessFlags := 1537
  interfaces := #[]
  cf := some (fileOf pool2 1 #[] #[] 1537 3 #[] #[])
  fields := #[]
  methods := #[]
  instanceTypes := #[]
  staticTypes := #[]
  resolved := Array.replicate 7 none
  statics := none }

def pool3 : Array CpInfo := pool [(1, .class_ 2), (0, u "java/lang/Comparable"), (0, .class_ 4), (0, u "java/lang/Object")] 7

/-- java/lang/Comparable -/
def k3 : Class := { plain "java/lang/Comparable" (some 0) with
  accessFlags := 1537
  interfaces := #[]
  cf := some (fileOf pool3 1 #[] #[] 1537 3 #[] #[])
  fields := #[]
  methods := #[]
  instanceTypes := #[]
  staticTypes := #[]
  resolved := Array.replicate 12 none
  statics := none }

def pool4 : Array CpInfo := pool [(2, .class_ 4), (1, u "java/lang/CharSequence"), (42, .class_ 48), (0, u "java/lang/CharSequence$1CodePointIterator"), (10, .class_ 60), (0, u "java/lang/CharSequence$1CharIterator"), (5, .class_ 67), (0, u "java/lang/Object")] 63

/-- java/lang/CharSequence -/
def k4 : Class := { plain "java/lang/CharSequence" (some 0) with
  accessFlags := 1537
  interfaces := #[]
  cf := some (fileOf pool4 2 #[.nestMembers #[47, 59]] #[] 1537 66 #[] #[])
  fields := #[]
  methods := #[]
  instanceTypes := #[]
  staticTypes := #[]
  resolved := Array.replicate 131 none
  statics := none }

def pool5 : Array CpInfo := pool [(1, .class_ 2), (0, u "java/lang/constant/Constable"), (0, .class_ 4), (0, u "java/lang/Object")] 6

/-- java/lang/constant/Constable -/
def k5 : Class := { plain "java/lang/constant/Constable" (some 0) with
  accessFlags := 1537
  interfaces := #[]
  cf := some (fileOf pool5 1 #[] #[] 1537 3 #[] #[])
  fields := #[]
  methods := #[]
  instanceTypes := #[]
  staticTypes := #[]
  resolved := Array.replicate 11 none
  statics := none }

def pool6 : Array CpInfo := pool [(1, .class_ 2), (0, u "java/lang/constant/ConstantDesc"), (0, .class_ 4), (0, u "java/lang/Object")] 32

/-- java/lang/constant/ConstantDesc -/
def k6 : Class := { plain "java/lang/constant/ConstantDesc" (some 0) with
  accessFlags := 1537
  interfaces := #[]
  cf := some (fileOf pool6 1 #[] #[] 1537 3 #[] #[])
  fields := #[]
  methods := #[]
  instanceTypes := #[]
  staticTypes := #[]
  resolved := Array.replicate 37 none
  statics := none }

def pool7 : Array CpInfo := pool [(1, .methodref 2 3), (0, .class_ 4), (0, .nameAndType 5 6), (0, u "java/lang/Object"), (0, u "<init>"), (0, u "()V"), (0, .string 8), (0, u ""), (0, .fieldref 10 11), (0, .class_ 12), (0, .nameAndType 13 14), (0, u "java/lang/String"), (0, u "value"), (0, u "[B"), (0, .fieldref 10 16), (0, .nameAndType 17 18), (0, u "coder"), (0, u "B"), (2, u "hash"), (0, u "I"), (2, u "hashIsZero"), (0, u "Z"), (0, .methodref 10 28), (0, .nameAndType 5 29), (0, u "([CIILjava/lang/Void;)V"), (6, u "checkBoundsOffCount"), (0, u "(III)I"), (0, .fieldref 10 39), (0, .nameAndType 40 26), (0, u "COMPACT_STRINGS"), (1, .class_ 44), (1, u "java/lang/StringUTF16"), (0, u "compress"), (1, .methodref 42 48), (0, .nameAndType 49 50), (0, u "coderFromArrayLen"), (0, u "([BI)B"), (3, .methodref 55 56), (0, .class_ 57), (0, .nameAndType 58 59), (0, u "java/util/Arrays"), (0, u "copyOfRange"), (0, u "([BII)[B"), (46, .methodref 107 108), (0, .class_ 109), (0, .nameAndType 110 111), (0, u "java/lang/StringLatin1"), (0, u "inflate"), (0, u "([BI[BII)V"), (30, u "()Z"), (34, .methodref 42 178), (0, .nameAndType 45 179), (0, u "([CII)[B"), (13, .class_ 195), (1, u "java/lang/System"), (16, .methodref 193 213), (0, .nameAndType 214 215), (0, u "arraycopy"), (0, u "(Ljava/lang/Object;ILjava/lang/Object;II)V"), (118, u "()I"), (0, .methodref 10 336), (0, .nameAndType 17 337), (0, u "()B"), (2, u "()[B"), (22, u "([BI)C"), (27, u "(II)V"), (35, u "(I)C"), (61, .methodref 10 490), (0, .nameAndType 5 491), (0, u "(Ljava/lang/AbstractStringBuilder;Ljava/lang/Void;)V"), (0, .methodref 10 493), (0, .nameAndType 494 142), (0, u "isLatin1"), (0, .methodref 107 496), (0, .nameAndType 497 363), (0, u "charAt"), (0, .methodref 42 496), (2, u "checkIndex"), (4, .nameAndType 507 334), (0, u "length"), (24, u "getBytes"), (16, .methodref 550 506), (0, .class_ 551), (0, u "java/lang/AbstractStringBuilder"), (0, .methodref 550 553), (0, .nameAndType 554 340), (0, u "getValue"), (20, .class_ 576), (0, u "java/lang/CharSequence"), (22, u "CASE_INSENSITIVE_ORDER"), (0, u "Ljava/util/Comparator;"), (220, u "([BIB)V"), (188, u "([C)V"), (36, .methodref 550 493), (0, .fieldref 550 1049), (0, .nameAndType 1050 26), (0, u "maybeLatin1"), (2, .fieldref 1054 1055), (0, .class_ 1056), (0, .nameAndType 1057 1058), (0, u "jdk/internal/util/Preconditions"), (0, u "SIOOBE_FORMATTER"), (0, u "Ljava/util/function/BiFunction;"), (0, .methodref 1054 1060), (0, .nameAndType 501 1061), (0, u "(IILjava/util/function/BiFunction;)I"), (2, u "(IIILjava/util/function/BiFunction;)I"), (0, .methodref 1054 1066), (0, .nameAndType 1067 1064), (0, u "checkFromIndexSize"), (33, u "serialPersistentFields"), (0, u "[Ljava/io/ObjectStreamField;"), (0, .class_ 1104), (0, u "java/lang/String$CaseInsensitiveComparator"), (1, .class_ 1107), (0, u "java/io/Serializable"), (0, .class_ 1109), (0, u "java/lang/Comparable"), (0, .class_ 1111), (0, u "java/lang/constant/Constable"), (0, .class_ 1113), (0, u "java/lang/constant/ConstantDesc"), (2, u "serialVersionUID"), (0, u "J"), (3, u "REPL"), (0, u "C"), (2, u "LATIN1"), (1, u "UTF16"), (105, u "(Ljava/lang/StringBuilder;)V")] 217

def k7m0 : Method := { name := "<init>", desc := "()V", sig := { parameters := [], returnType := none }, accessFlags := 1, code := none }
def k7c1 : Code := { maxStack := 5, maxLocals := 2, code := jdk_42_method_3_code, exceptionTable := #[], attributes := #[] }
def k7m1 : Method := { name := "<init>", desc := "([C)V", sig := { parameters := [(.array .char)], returnType := none }, accessFlags := 1, code := some k7c1 }
def k7c2 : Code := { maxStack := 3, maxLocals := 2, code := jdk_42_method_53_code, exceptionTable := #[], attributes := #[] }
def k7m2 : Method := { name := "<init>", desc := "(Ljava/lang/StringBuilder;)V", sig := { parameters := [(.object "java/lang/StringBuilder")], returnType := none }, accessFlags := 1, code := some k7c2 }
def k7c3 : Code := { maxStack := 2, maxLocals := 1, code := jdk_42_method_54_code, exceptionTable := #[], attributes := #[] }
def k7m3 : Method := { name := "length", desc := "()I", sig := { parameters := [], returnType := some .int }, accessFlags := 1, code := some k7c3 }
def k7c4 : Code := { maxStack := 2, maxLocals := 2, code := jdk_42_method_56_code, exceptionTable := #[], attributes := #[] }
def k7m4 : Method := { name := "charAt", desc := "(I)C", sig := { parameters := [.int], returnType := some .char }, accessFlags := 1, code := some k7c4 }
def k7c5 : Code := { maxStack := 5, maxLocals := 4, code := jdk_42_method_147_code, exceptionTable := #[], attributes := #[] }
def k7m5 : Method := { name := "getBytes", desc := "([BIB)V", sig := { parameters := [(.array .byte), .int, .byte], returnType := none }, accessFlags := 0, code := some k7c5 }
def k7c6 : Code := { maxStack := 4, maxLocals := 6, code := jdk_42_method_149_code, exceptionTable := #[], attributes := #[] }
def k7m6 : Method := { name := "<init>", desc := "([CIILjava/lang/Void;)V", sig := { parameters := [(.array .char), .int, .int, (.object "java/lang/Void")], returnType := none }, accessFlags := 2, code := some k7c6 }
def k7c7 : Code := { maxStack := 5, maxLocals := 5, code := jdk_42_method_150_code, exceptionTable := #[], attributes := #[] }
def k7m7 : Method := { name := "<init>", desc := "(Ljava/lang/AbstractStringBuilder;Ljava/lang/Void;)V", sig := { parameters := [(.object "java/lang/AbstractStringBuilder"), (.object "java/lang/Void")], returnType := none }, accessFlags := 0, code := some k7c7 }
def k7c8 : Code := { maxStack := 1, maxLocals := 1, code := jdk_42_method_152_code, exceptionTable := #[], attributes := #[] }
def k7m8 : Method := { name := "coder", desc := "()B", sig := { parameters := [], returnType := some .byte }, accessFlags := 0, code := some k7c8 }
def k7c9 : Code := { maxStack := 1, maxLocals := 1, code := jdk_42_method_154_code, exceptionTable := #[], attributes := #[] }
def k7m9 : Method := { name := "isLatin1", desc := "()Z", sig := { parameters := [], returnType := some .boolean }, accessFlags := 0, code := some k7c9 }
def k7c10 : Code := { maxStack := 3, maxLocals := 2, code := jdk_42_method_155_code, exceptionTable := #[], attributes := #[] }
def k7m10 : Method := { name := "checkIndex", desc := "(II)V", sig := { parameters := [.int, .int], returnType := none }, accessFlags := 8, code := some k7c10 }
def k7c11 : Code := { maxStack := 4, maxLocals := 3, code := jdk_42_method_157_code, exceptionTable := #[], attributes := #[] }
def k7m11 : Method := { name := "checkBoundsOffCount", desc := "(III)I", sig := { parameters := [.int, .int, .int], returnType := some .int }, accessFlags := 8, code := some k7c11 }
/-- java/lang/String -/
def k7 : Class := { plain "java/lang/String" (some 0) with
  accessFlags := 49
  interfaces := #[2, 3, 4, 5, 6]
  cf := some (fileOf pool7 10 #[.nestMembers #[1103]] #[{ accessFlags := 1, nameIndex := 5, descriptorIndex := 6, attributes := #[] }, { accessFlags := 1, nameIndex := 5, descriptorIndex := 1010, attributes := #[] }, { accessFlags := 1, nameIndex := 5, descriptorIndex := 1233, attributes := #[] }, { accessFlags := 1, nameIndex := 507, descriptorIndex := 334, attributes := #[] }, { accessFlags := 1, nameIndex := 497, descriptorIndex := 427, attributes := #[] }, { accessFlags := 0, nameIndex := 532, descriptorIndex := 821, attributes := #[] }, { accessFlags := 2, nameIndex := 5, descriptorIndex := 29, attributes := #[] }, { accessFlags := 0, nameIndex := 5, descriptorIndex := 491, attributes := #[] }, { accessFlags := 0, nameIndex := 17, descriptorIndex := 337, attributes := #[] }, { accessFlags := 0, nameIndex := 494, descriptorIndex := 142, attributes := #[] }, { accessFlags := 8, nameIndex := 501, descriptorIndex := 391, attributes := #[] }, { accessFlags := 8, nameIndex := 36, descriptorIndex := 37, attributes := #[] }] 49 2 #[1106, 1108, 575, 1110, 1112] #[{ accessFlags := 18, nameIndex := 13, descriptorIndex := 14, attributes := #[] }, { accessFlags := 18, nameIndex := 17, descriptorIndex := 18, attributes := #[] }, { accessFlags := 2, nameIndex := 21, descriptorIndex := 22, attributes := #[] }, { accessFlags := 2, nameIndex := 25, descriptorIndex := 26, attributes := #[] }, { accessFlags := 26, nameIndex := 1116, descriptorIndex := 1117, attributes := #[] }, { accessFlags := 24, nameIndex := 40, descriptorIndex := 26, attributes := #[] }, { accessFlags := 26, nameIndex := 1101, descriptorIndex := 1102, attributes := #[] }, { accessFlags := 26, nameIndex := 1121, descriptorIndex := 1122, attributes := #[] }, { accessFlags := 25, nameIndex := 599, descriptorIndex := 600, attributes := #[] }, { accessFlags := 24, nameIndex := 1125, descriptorIndex := 18, attributes := #[] }, { accessFlags := 24, nameIndex := 1127, descriptorIndex := 18, attributes := #[] }])
  fields := #[{ name := "value", type := (.array .byte), accessFlags := 18, slot := 0, constantValue := 0 }, { name := "coder", type := .byte, accessFlags := 18, slot := 1, constantValue := 0 }, { name := "hash", type := .int, accessFlags := 2, slot := 2, constantValue := 0 }, { name := "hashIsZero", type := .boolean, accessFlags := 2, slot := 3, constantValue := 0 }, { name := "serialVersionUID", type := .long, accessFlags := 26, slot := 0, constantValue := 0 }, { name := "COMPACT_STRINGS", type := .boolean, accessFlags := 24, slot := 1, constantValue := 0 }, { name := "serialPersistentFields", type := (.array (.object "java/io/ObjectStreamField")), accessFlags := 26, slot := 2, constantValue := 0 }, { name := "REPL", type := .char, accessFlags := 26, slot := 3, constantValue := 0 }, { name := "CASE_INSENSITIVE_ORDER", type := (.object "java/util/Comparator"), accessFlags := 25, slot := 4, constantValue := 0 }, { name := "LATIN1", type := .byte, accessFlags := 24, slot := 5, constantValue := 0 }, { name := "UTF16", type := .byte, accessFlags := 24, slot := 6, constantValue := 0 }]
  methods := #[k7m0, k7m1, k7m2, k7m3, k7m4, k7m5, k7m6, k7m7, k7m8, k7m9, k7m10, k7m11]
  instanceTypes := #[(.array .byte), .byte, .int, .boolean]
  staticTypes := #[.long, .boolean, (.array (.object "java/io/ObjectStreamField")), .char, (.object "java/util/Comparator"), .byte, .byte]
  resolved := Array.replicate 1451 none
  statics := some 0 }

def pool8 : Array CpInfo := pool [(2, .class_ 4), (1, u "java/lang/Object"), (0, u "<init>"), (0, u "()V"), (6, .class_ 15), (1, u "com/example/twice_to_once/twicetoonce/cli/RecordLines"), (4, .class_ 21), (0, u "java/lang/StringBuilder"), (0, .methodref 23 24), (0, .class_ 25), (0, .nameAndType 26 27), (0, u "java/lang/String"), (0, u "length"), (0, u "()I"), (0, .methodref 20 29), (0, .nameAndType 5 30), (0, u "(I)V"), (0, .methodref 23 32), (0, .nameAndType 33 34), (0, u "charAt"), (0, u "(I)C"), (0, .string 36), (0, u "\\\\"), (0, .methodref 20 38), (0, .nameAndType 39 40), (0, u "append"), (0, u "(Ljava/lang/String;)Ljava/lang/StringBuilder;"), (0, .string 42), (0, u "\\t"), (0, .string 44), (0, u "\\n"), (0, .string 46), (0, u "\\r"), (0, .methodref 20 48), (0, .nameAndType 39 49), (0, u "(C)Ljava/lang/StringBuilder;"), (0, .methodref 20 51), (0, .nameAndType 52 53), (0, u "toString"), (0, u "()Ljava/lang/String;"), (2, u "TIME"), (0, u "Ljava/time/format/DateTimeFormatter;"), (53, u "field"), (0, u "(Ljava/lang/String;)Ljava/lang/String;")] 83

def k8m0 : Method := { name := "<init>", desc := "()V", sig := { parameters := [], returnType := none }, accessFlags := 2, code := none }
def k8c1 : Code := { maxStack := 3, maxLocals := 4, code := prog_1_method_4_code, exceptionTable := #[], attributes := #[] }
def k8m1 : Method := { name := "field", desc := "(Ljava/lang/String;)Ljava/lang/String;", sig := { parameters := [(.object "java/lang/String")], returnType := some (.object "java/lang/String") }, accessFlags := 9, code := some k8c1 }
/-- com/example/twice_to_once/twicetoonce/cli/RecordLines -/
def k8 : Class := { plain "com/example/twice_to_once/twicetoonce/cli/RecordLines" (some 0) with
  accessFlags := 33
  interfaces := #[]
  cf := some (fileOf pool8 13 #[] #[{ accessFlags := 2, nameIndex := 5, descriptorIndex := 6, attributes := #[] }, { accessFlags := 9, nameIndex := 111, descriptorIndex := 112, attributes := #[] }] 33 2 #[] #[{ accessFlags := 26, nameIndex := 56, descriptorIndex := 57, attributes := #[] }])
  fields := #[{ name := "TIME", type := (.object "java/time/format/DateTimeFormatter"), accessFlags := 26, slot := 0, constantValue := 0 }]
  methods := #[k8m0, k8m1]
  instanceTypes := #[]
  staticTypes := #[(.object "java/time/format/DateTimeFormatter")]
  resolved := Array.replicate 196 none
  statics := none }

def pool9 : Array CpInfo := pool [(1, .class_ 2), (0, u "java/lang/Appendable"), (0, .class_ 4), (0, u "java/lang/Object")] 9

/-- java/lang/Appendable -/
def k9 : Class := { plain "java/lang/Appendable" (some 0) with
  accessFlags := 1537
  interfaces := #[]
  cf := some (fileOf pool9 1 #[] #[] 1537 3 #[] #[])
  fields := #[]
  methods := #[]
  instanceTypes := #[]
  staticTypes := #[]
  resolved := Array.replicate 14 none
  statics := none }

def pool10 : Array CpInfo := pool [(1, .class_ 2), (0, u "java/lang/String"), (0, .methodref 4 5), (0, .class_ 6), (0, .nameAndType 7 8), (0, u "java/lang/Object"), (0, u "<init>"), (0, u "()V"), (1, .class_ 12), (1, u "java/lang/AbstractStringBuilder"), (0, u "EMPTYVALUE"), (0, u "[B"), (0, .fieldref 10 16), (0, .nameAndType 17 14), (0, u "value"), (0, .fieldref 1 19), (0, .nameAndType 20 21), (0, u "COMPACT_STRINGS"), (0, u "Z"), (0, .fieldref 10 23), (0, .nameAndType 24 25), (0, u "coder"), (0, u "B"), (0, .methodref 27 28), (0, .class_ 29), (0, .nameAndType 30 31), (0, u "java/lang/StringUTF16"), (0, u "newBytesFor"), (0, u "(I)[B"), (0, .methodref 1 33), (0, .nameAndType 34 35), (0, u "length"), (0, u "()I"), (3, .integer 2147483647), (0, .methodref 1 41), (0, .nameAndType 24 42), (0, u "()B"), (2, u "append"), (0, u "(Ljava/lang/String;)Ljava/lang/AbstractStringBuilder;"), (1, .class_ 49), (0, u "java/lang/CharSequence"), (19, u "(Ljava/lang/String;)V"), (5, u "maybeLatin1"), (3, .fieldref 10 80), (0, .nameAndType 81 82), (0, u "count"), (0, u "I"), (0, .methodref 10 84), (0, .nameAndType 85 86), (0, u "isLatin1"), (0, u "()Z"), (1, .class_ 90), (1, u "java/lang/StringLatin1"), (9, .methodref 10 101), (0, .nameAndType 102 103), (0, u "ensureCapacityInternal"), (0, u "(I)V"), (0, .methodref 10 105), (0, .nameAndType 106 107), (0, u "newCapacity"), (0, u "(I)I"), (0, .methodref 109 110), (0, .class_ 111), (0, .nameAndType 112 113), (0, u "java/util/Arrays"), (0, u "copyOf"), (0, u "([BI)[B"), (0, .methodref 115 116), (0, .class_ 117), (0, .nameAndType 118 119), (0, u "jdk/internal/util/ArraysSupport"), (0, u "newLength"), (0, u "(III)I"), (5, .methodref 88 126), (0, .nameAndType 127 128), (0, u "inflate"), (0, u "([BI[BII)V"), (7, u "([BII)V"), (54, .methodref 88 192), (0, .nameAndType 193 194), (0, u "canEncode"), (0, u "(C)Z"), (0, .methodref 10 196), (0, .nameAndType 127 8), (0, .methodref 27 198), (0, .nameAndType 199 136), (0, u "putCharSB"), (8, .methodref 10 209), (0, .nameAndType 210 211), (0, u "putStringAt"), (0, u "(ILjava/lang/String;)V"), (5, u "inflateIfNeededFor"), (2, .nameAndType 221 222), (0, u "getBytes"), (0, u "([BIB)V"), (69, u "(C)Ljava/lang/AbstractStringBuilder;"), (104, .methodref 10 398), (0, .nameAndType 217 69), (0, .methodref 1 220), (3, u "()[B"), (40, .class_ 445), (0, u "java/lang/Appendable"), (106, u "getValue")] 56

def k10m0 : Method := { name := "<init>", desc := "()V", sig := { parameters := [], returnType := none }, accessFlags := 0, code := none }
def k10c1 : Code := { maxStack := 2, maxLocals := 2, code := jdk_68_method_2_code, exceptionTable := #[], attributes := #[] }
def k10m1 : Method := { name := "<init>", desc := "(I)V", sig := { parameters := [.int], returnType := none }, accessFlags := 0, code := some k10c1 }
def k10c2 : Code := { maxStack := 1, maxLocals := 1, code := jdk_68_method_6_code, exceptionTable := #[], attributes := #[] }
def k10m2 : Method := { name := "length", desc := "()I", sig := { parameters := [], returnType := some .int }, accessFlags := 1, code := some k10c2 }
def k10c3 : Code := { maxStack := 4, maxLocals := 3, code := jdk_68_method_9_code, exceptionTable := #[], attributes := #[] }
def k10m3 : Method := { name := "ensureCapacityInternal", desc := "(I)V", sig := { parameters := [.int], returnType := none }, accessFlags := 2, code := some k10c3 }
def k10c4 : Code := { maxStack := 5, maxLocals := 6, code := jdk_68_method_10_code, exceptionTable := #[], attributes := #[] }
def k10m4 : Method := { name := "newCapacity", desc := "(I)I", sig := { parameters := [.int], returnType := some .int }, accessFlags := 2, code := some k10c4 }
def k10c5 : Code := { maxStack := 5, maxLocals := 2, code := jdk_68_method_11_code, exceptionTable := #[], attributes := #[] }
def k10m5 : Method := { name := "inflate", desc := "()V", sig := { parameters := [], returnType := none }, accessFlags := 2, code := some k10c5 }
def k10c6 : Code := { maxStack := 3, maxLocals := 3, code := jdk_68_method_22_code, exceptionTable := #[], attributes := #[] }
def k10m6 : Method := { name := "append", desc := "(Ljava/lang/String;)Ljava/lang/AbstractStringBuilder;", sig := { parameters := [(.object "java/lang/String")], returnType := some (.object "java/lang/AbstractStringBuilder") }, accessFlags := 1, code := some k10c6 }
def k10c7 : Code := { maxStack := 5, maxLocals := 2, code := jdk_68_method_31_code, exceptionTable := #[], attributes := #[] }
def k10m7 : Method := { name := "append", desc := "(C)Ljava/lang/AbstractStringBuilder;", sig := { parameters := [.char], returnType := some (.object "java/lang/AbstractStringBuilder") }, accessFlags := 1, code := some k10c7 }
def k10c8 : Code := { maxStack := 1, maxLocals := 1, code := jdk_68_method_64_code, exceptionTable := #[], attributes := #[] }
def k10m8 : Method := { name := "getValue", desc := "()[B", sig := { parameters := [], returnType := some (.array .byte) }, accessFlags := 16, code := some k10c8 }
def k10c9 : Code := { maxStack := 1, maxLocals := 1, code := jdk_68_method_68_code, exceptionTable := #[], attributes := #[] }
def k10m9 : Method := { name := "isLatin1", desc := "()Z", sig := { parameters := [], returnType := some .boolean }, accessFlags := 16, code := some k10c9 }
def k10c10 : Code := { maxStack := 2, maxLocals := 2, code := jdk_68_method_71_code, exceptionTable := #[], attributes := #[] }
def k10m10 : Method := { name := "inflateIfNeededFor", desc := "(Ljava/lang/String;)V", sig := { parameters := [(.object "java/lang/String")], returnType := none }, accessFlags := 2, code := some k10c10 }
def k10c11 : Code := { maxStack := 4, maxLocals := 3, code := jdk_68_method_73_code, exceptionTable := #[], attributes := #[] }
def k10m11 : Method := { name := "putStringAt", desc := "(ILjava/lang/String;)V", sig := { parameters := [.int, (.object "java/lang/String")], returnType := none }, accessFlags := 2, code := some k10c11 }
/-- java/lang/AbstractStringBuilder -/
def k10 : Class := { plain "java/lang/AbstractStringBuilder" (some 0) with
  accessFlags := 1056
  interfaces := #[9, 4]
  cf := some (fileOf pool10 10 #[] #[{ accessFlags := 0, nameIndex := 7, descriptorIndex := 8, attributes := #[] }, { accessFlags := 0, nameIndex := 7, descriptorIndex := 103, attributes := #[] }, { accessFlags := 1, nameIndex := 34, descriptorIndex := 35, attributes := #[] }, { accessFlags := 2, nameIndex := 102, descriptorIndex := 103, attributes := #[] }, { accessFlags := 2, nameIndex := 106, descriptorIndex := 107, attributes := #[] }, { accessFlags := 2, nameIndex := 127, descriptorIndex := 8, attributes := #[] }, { accessFlags := 1, nameIndex := 45, descriptorIndex := 46, attributes := #[] }, { accessFlags := 1, nameIndex := 45, descriptorIndex := 292, attributes := #[] }, { accessFlags := 16, nameIndex := 552, descriptorIndex := 403, attributes := #[] }, { accessFlags := 16, nameIndex := 85, descriptorIndex := 86, attributes := #[] }, { accessFlags := 2, nameIndex := 217, descriptorIndex := 69, attributes := #[] }, { accessFlags := 2, nameIndex := 210, descriptorIndex := 211, attributes := #[] }] 1056 4 #[444, 48] #[{ accessFlags := 0, nameIndex := 17, descriptorIndex := 14, attributes := #[] }, { accessFlags := 0, nameIndex := 24, descriptorIndex := 25, attributes := #[] }, { accessFlags := 0, nameIndex := 75, descriptorIndex := 21, attributes := #[] }, { accessFlags := 0, nameIndex := 81, descriptorIndex := 82, attributes := #[] }, { accessFlags := 26, nameIndex := 13, descriptorIndex := 14, attributes := #[] }])
  fields := #[{ name := "value", type := (.array .byte), accessFlags := 0, slot := 0, constantValue := 0 }, { name := "coder", type := .byte, accessFlags := 0, slot := 1, constantValue := 0 }, { name := "maybeLatin1", type := .boolean, accessFlags := 0, slot := 2, constantValue := 0 }, { name := "count", type := .int, accessFlags := 0, slot := 3, constantValue := 0 }, { name := "EMPTYVALUE", type := (.array .byte), accessFlags := 26, slot := 0, constantValue := 0 }]
  methods := #[k10m0, k10m1, k10m2, k10m3, k10m4, k10m5, k10m6, k10m7, k10m8, k10m9, k10m10, k10m11]
  instanceTypes := #[(.array .byte), .byte, .boolean, .int]
  staticTypes := #[(.array .byte)]
  resolved := Array.replicate 609 none
  statics := none }

def pool11 : Array CpInfo := pool [(1, .methodref 2 3), (0, .class_ 4), (0, .nameAndType 5 6), (0, u "java/lang/AbstractStringBuilder"), (0, u "<init>"), (0, u "(I)V"), (11, .class_ 20), (1, u "java/lang/String"), (3, .class_ 26), (1, u "java/lang/StringBuilder"), (0, u "append"), (0, u "(Ljava/lang/String;)Ljava/lang/StringBuilder;"), (0, .methodref 2 30), (0, .nameAndType 27 31), (0, u "(Ljava/lang/String;)Ljava/lang/AbstractStringBuilder;"), (18, .methodref 2 51), (0, .nameAndType 27 52), (0, u "(C)Ljava/lang/AbstractStringBuilder;"), (84, .methodref 18 138), (0, .nameAndType 5 139), (0, u "(Ljava/lang/StringBuilder;)V"), (5, u "()V"), (10, u "()I"), (129, u "(C)Ljava/lang/StringBuilder;"), (56, .methodref 2 344), (0, .nameAndType 345 156), (0, u "length"), (3, .class_ 350), (0, u "java/lang/Appendable"), (0, .class_ 352), (0, u "java/io/Serializable"), (0, .class_ 354), (0, u "java/lang/Comparable"), (0, .class_ 356), (0, u "java/lang/CharSequence"), (0, u "serialVersionUID"), (0, u "J"), (40, u "toString"), (0, u "()Ljava/lang/String;")] 21

def k11m0 : Method := { name := "<init>", desc := "()V", sig := { parameters := [], returnType := none }, accessFlags := 1, code := none }
def k11c1 : Code := { maxStack := 2, maxLocals := 2, code := jdk_67_method_2_code, exceptionTable := #[], attributes := #[] }
def k11m1 : Method := { name := "<init>", desc := "(I)V", sig := { parameters := [.int], returnType := none }, accessFlags := 1, code := some k11c1 }
def k11c2 : Code := { maxStack := 2, maxLocals := 2, code := jdk_67_method_7_code, exceptionTable := #[], attributes := #[] }
def k11m2 : Method := { name := "append", desc := "(Ljava/lang/String;)Ljava/lang/StringBuilder;", sig := { parameters := [(.object "java/lang/String")], returnType := some (.object "java/lang/StringBuilder") }, accessFlags := 1, code := some k11c2 }
def k11c3 : Code := { maxStack := 2, maxLocals := 2, code := jdk_67_method_14_code, exceptionTable := #[], attributes := #[] }
def k11m3 : Method := { name := "append", desc := "(C)Ljava/lang/StringBuilder;", sig := { parameters := [.char], returnType := some (.object "java/lang/StringBuilder") }, accessFlags := 1, code := some k11c3 }
def k11c4 : Code := { maxStack := 3, maxLocals := 1, code := jdk_67_method_42_code, exceptionTable := #[], attributes := #[] }
def k11m4 : Method := { name := "toString", desc := "()Ljava/lang/String;", sig := { parameters := [], returnType := some (.object "java/lang/String") }, accessFlags := 1, code := some k11c4 }
def k11c5 : Code := { maxStack := 1, maxLocals := 1, code := jdk_67_method_93_code, exceptionTable := #[], attributes := #[] }
def k11m5 : Method := { name := "length", desc := "()I", sig := { parameters := [], returnType := some .int }, accessFlags := 4161, code := some k11c5 }
/-- java/lang/StringBuilder -/
def k11 : Class := { plain "java/lang/StringBuilder" (some 10) with
  accessFlags := 49
  interfaces := #[9, 2, 3, 4]
  cf := some (fileOf pool11 24 #[] #[{ accessFlags := 1, nameIndex := 5, descriptorIndex := 145, attributes := #[] }, { accessFlags := 1, nameIndex := 5, descriptorIndex := 6, attributes := #[] }, { accessFlags := 1, nameIndex := 27, descriptorIndex := 28, attributes := #[] }, { accessFlags := 1, nameIndex := 27, descriptorIndex := 286, attributes := #[] }, { accessFlags := 1, nameIndex := 399, descriptorIndex := 400, attributes := #[] }, { accessFlags := 4161, nameIndex := 345, descriptorIndex := 156, attributes := #[] }] 49 2 #[349, 351, 353, 355] #[{ accessFlags := 24, nameIndex := 357, descriptorIndex := 358, attributes := #[] }])
  fields := #[{ name := "serialVersionUID", type := .long, accessFlags := 24, slot := 0, constantValue := 0 }]
  methods := #[k11m0, k11m1, k11m2, k11m3, k11m4, k11m5]
  instanceTypes := #[(.array .byte), .byte, .boolean, .int]
  staticTypes := #[.long]
  resolved := Array.replicate 422 none
  statics := none }

def pool12 : Array CpInfo := pool [(2, .class_ 4), (1, u "java/lang/Object"), (0, u "<init>"), (0, u "()V"), (7, .class_ 16), (1, u "java/util/Arrays"), (57, .class_ 76), (1, u "java/util/Arrays$NaturalOrder"), (32, u "()Ljava/lang/Object;"), (3, .class_ 115), (1, u "java/util/Arrays$LegacyMergeSort"), (1, u "Z"), (10, .nameAndType 129 109), (0, u "clone"), (9, u "copyOfRange"), (10, .methodref 151 152), (0, .class_ 153), (0, .nameAndType 154 155), (0, u "java/lang/System"), (0, u "arraycopy"), (0, u "(Ljava/lang/Object;ILjava/lang/Object;II)V"), (146, u "copyOf"), (1, .methodref 305 306), (0, .class_ 307), (0, .nameAndType 308 309), (0, u "java/lang/Math"), (0, u "min"), (0, u "(II)I"), (0, .methodref 311 128), (0, .class_ 312), (0, u "[B"), (26, .methodref 14 340), (0, .nameAndType 341 342), (0, u "copyOfRangeByte"), (0, u "([BII)[B"), (0, .methodref 14 344), (0, .nameAndType 345 346), (0, u "checkLength"), (0, u "(II)V"), (28, .class_ 376), (0, u "java/util/Arrays$ArrayList"), (68, u "$assertionsDisabled"), (269, u "MIN_ARRAY_SORT_GRAN"), (0, u "I"), (2, u "INSERTIONSORT_THRESHOLD"), (149, u "([BI)[B"), (105, .class_ 976), (0, u "java/util/Arrays$ArrayItr")] 52

def k12m0 : Method := { name := "<init>", desc := "()V", sig := { parameters := [], returnType := none }, accessFlags := 2, code := none }
def k12c1 : Code := { maxStack := 6, maxLocals := 3, code := jdk_65_method_121_code, exceptionTable := #[], attributes := #[] }
def k12m1 : Method := { name := "copyOf", desc := "([BI)[B", sig := { parameters := [(.array .byte), .int], returnType := some (.array .byte) }, accessFlags := 9, code := some k12c1 }
def k12c2 : Code := { maxStack := 4, maxLocals := 2, code := jdk_65_method_131_code, exceptionTable := #[], attributes := #[] }
def k12m2 : Method := { name := "checkLength", desc := "(II)V", sig := { parameters := [.int, .int], returnType := none }, accessFlags := 10, code := some k12c2 }
def k12c3 : Code := { maxStack := 3, maxLocals := 3, code := jdk_65_method_132_code, exceptionTable := #[], attributes := #[] }
def k12m3 : Method := { name := "copyOfRange", desc := "([BII)[B", sig := { parameters := [(.array .byte), .int, .int], returnType := some (.array .byte) }, accessFlags := 9, code := some k12c3 }
def k12c4 : Code := { maxStack := 6, maxLocals := 5, code := jdk_65_method_133_code, exceptionTable := #[], attributes := #[] }
def k12m4 : Method := { name := "copyOfRangeByte", desc := "([BII)[B", sig := { parameters := [(.array .byte), .int, .int], returnType := some (.array .byte) }, accessFlags := 10, code := some k12c4 }
/-- java/util/Arrays -/
def k12 : Class := { plain "java/util/Arrays" (some 0) with
  accessFlags := 49
  interfaces := #[]
  cf := some (fileOf pool12 14 #[.nestMembers #[975, 375, 113, 74]] #[{ accessFlags := 2, nameIndex := 5, descriptorIndex := 6, attributes := #[] }, { accessFlags := 9, nameIndex := 302, descriptorIndex := 869, attributes := #[] }, { accessFlags := 10, nameIndex := 345, descriptorIndex := 346, attributes := #[] }, { accessFlags := 9, nameIndex := 139, descriptorIndex := 342, attributes := #[] }, { accessFlags := 10, nameIndex := 341, descriptorIndex := 342, attributes := #[] }] 49 2 #[] #[{ accessFlags := 26, nameIndex := 715, descriptorIndex := 716, attributes := #[] }, { accessFlags := 26, nameIndex := 719, descriptorIndex := 716, attributes := #[] }, { accessFlags := 4120, nameIndex := 445, descriptorIndex := 117, attributes := #[] }])
  fields := #[{ name := "MIN_ARRAY_SORT_GRAN", type := .int, accessFlags := 26, slot := 0, constantValue := 0 }, { name := "INSERTIONSORT_THRESHOLD", type := .int, accessFlags := 26, slot := 1, constantValue := 0 }, { name := "$assertionsDisabled", type := .boolean, accessFlags := 4120, slot := 2, constantValue := 0 }]
  methods := #[k12m0, k12m1, k12m2, k12m3, k12m4]
  instanceTypes := #[]
  staticTypes := #[.int, .int, .boolean]
  resolved := Array.replicate 1029 none
  statics := none }

def pool13 : Array CpInfo := pool [(1, .class_ 2), (0, u "java/lang/Cloneable"), (0, .class_ 4), (0, u "java/lang/Object")] 2

/-- java/lang/Cloneable -/
def k13 : Class := { plain "java/lang/Cloneable" (some 0) with
  accessFlags := 1537
  interfaces := #[]
  cf := some (fileOf pool13 1 #[] #[] 1537 3 #[] #[])
  fields := #[]
  methods := #[]
  instanceTypes := #[]
  staticTypes := #[]
  resolved := Array.replicate 7 none
  statics := none }

def pool14 : Array CpInfo := pool [(3, .class_ 4), (0, u "java/lang/String"), (1, .class_ 8), (1, u "java/lang/Object"), (0, u "<init>"), (0, u "()V"), (0, .methodref 12 13), (0, .class_ 14), (0, .nameAndType 15 16), (0, u "java/lang/StringUTF16"), (0, u "newBytesLength"), (0, u "(I)I"), (3, .integer 1073741823), (23, .fieldref 12 45), (0, .nameAndType 46 47), (0, u "$assertionsDisabled"), (0, u "Z"), (0, .methodref 12 49), (0, .nameAndType 50 51), (0, u "length"), (0, u "([B)I"), (7, .fieldref 12 60), (0, .nameAndType 61 62), (0, u "HI_BYTE_SHIFT"), (0, u "I"), (0, .fieldref 12 64), (0, .nameAndType 65 62), (0, u "LO_BYTE_SHIFT"), (1, .methodref 12 68), (0, .nameAndType 69 70), (0, u "checkIndex"), (0, u "(I[B)V"), (0, .methodref 12 72), (0, .nameAndType 73 74), (0, u "getChar"), (0, u "([BI)C"), (24, u "(II[B)V"), (7, .methodref 12 108), (0, .nameAndType 109 110), (0, u "newBytesFor"), (0, u "(I)[B"), (0, .methodref 12 112), (0, .nameAndType 113 114), (0, u "putChar"), (0, u "([BII)V"), (0, .methodref 12 116), (0, .nameAndType 117 118), (0, u "compress"), (0, u "([CI[BII)I"), (0, .methodref 12 120), (0, .nameAndType 121 122), (0, u "toBytes"), (0, u "([CII)[B"), (17, u "inflate"), (0, u "([BI[BII)V"), (31, .methodref 12 174), (0, .nameAndType 175 99), (0, u "checkBoundsOffCount"), (85, u "coderFromArrayLen"), (0, u "([BI)B"), (18, u "(III)I"), (87, .class_ 371), (1, u "java/lang/StringUTF16$LinesSpliterator"), (20, u "charAt"), (21, .methodref 3 415), (0, .nameAndType 69 416), (0, u "(II)V"), (2, .methodref 3 420), (0, .nameAndType 175 281), (9, u "MAX_LENGTH"), (155, u "putCharSB"), (40, .class_ 628), (0, u "java/lang/StringUTF16$CodePointsSpliterator"), (0, .class_ 630), (0, u "java/lang/StringUTF16$CharsSpliterator")] 4

def k14m0 : Method := { name := "<init>", desc := "()V", sig := { parameters := [], returnType := none }, accessFlags := 0, code := none }
def k14c1 : Code := { maxStack := 1, maxLocals := 1, code := jdk_52_method_2_code, exceptionTable := #[], attributes := #[] }
def k14m1 : Method := { name := "newBytesFor", desc := "(I)[B", sig := { parameters := [.int], returnType := some (.array .byte) }, accessFlags := 9, code := some k14c1 }
def k14c2 : Code := { maxStack := 4, maxLocals := 1, code := jdk_52_method_3_code, exceptionTable := #[], attributes := #[] }
def k14m2 : Method := { name := "newBytesLength", desc := "(I)I", sig := { parameters := [.int], returnType := some .int }, accessFlags := 9, code := some k14c2 }
def k14c3 : Code := { maxStack := 4, maxLocals := 3, code := jdk_52_method_4_code, exceptionTable := #[], attributes := #[] }
def k14m3 : Method := { name := "putChar", desc := "([BII)V", sig := { parameters := [(.array .byte), .int, .int], returnType := none }, accessFlags := 8, code := some k14c3 }
def k14c4 : Code := { maxStack := 3, maxLocals := 2, code := jdk_52_method_5_code, exceptionTable := #[], attributes := #[] }
def k14m4 : Method := { name := "getChar", desc := "([BI)C", sig := { parameters := [(.array .byte), .int], returnType := some .char }, accessFlags := 8, code := some k14c4 }
def k14c5 : Code := { maxStack := 2, maxLocals := 1, code := jdk_52_method_6_code, exceptionTable := #[], attributes := #[] }
def k14m5 : Method := { name := "length", desc := "([B)I", sig := { parameters := [(.array .byte)], returnType := some .int }, accessFlags := 9, code := some k14c5 }
def k14c6 : Code := { maxStack := 4, maxLocals := 5, code := jdk_52_method_14_code, exceptionTable := #[], attributes := #[] }
def k14m6 : Method := { name := "toBytes", desc := "([CII)[B", sig := { parameters := [(.array .char), .int, .int], returnType := some (.array .byte) }, accessFlags := 9, code := some k14c6 }
def k14c7 : Code := { maxStack := 2, maxLocals := 2, code := jdk_52_method_15_code, exceptionTable := #[], attributes := #[] }
def k14m7 : Method := { name := "coderFromArrayLen", desc := "([BI)B", sig := { parameters := [(.array .byte), .int], returnType := some .byte }, accessFlags := 8, code := some k14c7 }
def k14c8 : Code := { maxStack := 5, maxLocals := 6, code := jdk_52_method_16_code, exceptionTable := #[], attributes := #[] }
def k14m8 : Method := { name := "compress", desc := "([CII)[B", sig := { parameters := [(.array .char), .int, .int], returnType := some (.array .byte) }, accessFlags := 9, code := some k14c8 }
def k14c9 : Code := { maxStack := 3, maxLocals := 7, code := jdk_52_method_21_code, exceptionTable := #[], attributes := #[] }
def k14m9 : Method := { name := "compress", desc := "([CI[BII)I", sig := { parameters := [(.array .char), .int, (.array .byte), .int, .int], returnType := some .int }, accessFlags := 9, code := some k14c9 }
def k14c10 : Code := { maxStack := 3, maxLocals := 3, code := jdk_52_method_71_code, exceptionTable := #[], attributes := #[] }
def k14m10 : Method := { name := "putCharSB", desc := "([BII)V", sig := { parameters := [(.array .byte), .int, .int], returnType := none }, accessFlags := 9, code := some k14c10 }
def k14c11 : Code := { maxStack := 2, maxLocals := 2, code := jdk_52_method_83_code, exceptionTable := #[], attributes := #[] }
def k14m11 : Method := { name := "charAt", desc := "([BI)C", sig := { parameters := [(.array .byte), .int], returnType := some .char }, accessFlags := 9, code := some k14c11 }
def k14c12 : Code := { maxStack := 4, maxLocals := 6, code := jdk_52_method_86_code, exceptionTable := #[], attributes := #[] }
def k14m12 : Method := { name := "inflate", desc := "([BI[BII)V", sig := { parameters := [(.array .byte), .int, (.array .byte), .int, .int], returnType := none }, accessFlags := 9, code := some k14c12 }
def k14c13 : Code := { maxStack := 2, maxLocals := 2, code := jdk_52_method_91_code, exceptionTable := #[], attributes := #[] }
def k14m13 : Method := { name := "checkIndex", desc := "(I[B)V", sig := { parameters := [.int, (.array .byte)], returnType := none }, accessFlags := 9, code := some k14c13 }
def k14c14 : Code := { maxStack := 3, maxLocals := 3, code := jdk_52_method_94_code, exceptionTable := #[], attributes := #[] }
def k14m14 : Method := { name := "checkBoundsOffCount", desc := "(II[B)V", sig := { parameters := [.int, .int, (.array .byte)], returnType := none }, accessFlags := 9, code := some k14c14 }
/-- java/lang/StringUTF16 -/
def k14 : Class := { plain "java/lang/StringUTF16" (some 0) with
  accessFlags := 48
  interfaces := #[]
  cf := some (fileOf pool14 12 #[.nestMembers #[627, 629, 369]] #[{ accessFlags := 0, nameIndex := 9, descriptorIndex := 10, attributes := #[] }, { accessFlags := 9, nameIndex := 109, descriptorIndex := 110, attributes := #[] }, { accessFlags := 9, nameIndex := 15, descriptorIndex := 16, attributes := #[] }, { accessFlags := 8, nameIndex := 113, descriptorIndex := 114, attributes := #[] }, { accessFlags := 8, nameIndex := 73, descriptorIndex := 74, attributes := #[] }, { accessFlags := 9, nameIndex := 50, descriptorIndex := 51, attributes := #[] }, { accessFlags := 9, nameIndex := 121, descriptorIndex := 122, attributes := #[] }, { accessFlags := 8, nameIndex := 261, descriptorIndex := 262, attributes := #[] }, { accessFlags := 9, nameIndex := 117, descriptorIndex := 122, attributes := #[] }, { accessFlags := 9, nameIndex := 117, descriptorIndex := 118, attributes := #[] }, { accessFlags := 9, nameIndex := 586, descriptorIndex := 114, attributes := #[] }, { accessFlags := 9, nameIndex := 392, descriptorIndex := 74, attributes := #[] }, { accessFlags := 9, nameIndex := 140, descriptorIndex := 141, attributes := #[] }, { accessFlags := 9, nameIndex := 69, descriptorIndex := 70, attributes := #[] }, { accessFlags := 9, nameIndex := 175, descriptorIndex := 99, attributes := #[] }] 48 6 #[] #[{ accessFlags := 26, nameIndex := 61, descriptorIndex := 62, attributes := #[] }, { accessFlags := 26, nameIndex := 65, descriptorIndex := 62, attributes := #[] }, { accessFlags := 24, nameIndex := 430, descriptorIndex := 62, attributes := #[] }, { accessFlags := 4120, nameIndex := 46, descriptorIndex := 47, attributes := #[] }])
  fields := #[{ name := "HI_BYTE_SHIFT", type := .int, accessFlags := 26, slot := 0, constantValue := 0 }, { name := "LO_BYTE_SHIFT", type := .int, accessFlags := 26, slot := 1, constantValue := 0 }, { name := "MAX_LENGTH", type := .int, accessFlags := 24, slot := 2, constantValue := 0 }, { name := "$assertionsDisabled", type := .boolean, accessFlags := 4120, slot := 3, constantValue := 0 }]
  methods := #[k14m0, k14m1, k14m2, k14m3, k14m4, k14m5, k14m6, k14m7, k14m8, k14m9, k14m10, k14m11, k14m12, k14m13, k14m14]
  instanceTypes := #[]
  staticTypes := #[.int, .int, .int, .boolean]
  resolved := Array.replicate 635 none
  statics := some 1 }

def pool15 : Array CpInfo := pool [(1, .class_ 2), (0, u "java/lang/String"), (1, .class_ 6), (1, u "java/lang/Object"), (0, u "<init>"), (0, u "()V"), (0, .methodref 1 10), (0, .nameAndType 11 12), (0, u "checkIndex"), (0, u "(II)V"), (1, .class_ 16), (1, u "java/lang/StringLatin1"), (0, u "inflate"), (2, .class_ 22), (1, u "java/lang/StringUTF16"), (3, .nameAndType 17 27), (0, u "([BI[BII)V"), (25, u "([BI)C"), (36, u "canEncode"), (14, u "(C)Z"), (15, u "$assertionsDisabled"), (0, u "Z"), (98, .class_ 223), (1, u "java/lang/StringLatin1$LinesSpliterator"), (16, .methodref 20 26), (11, u "charAt"), (137, .class_ 391), (0, u "java/lang/StringLatin1$CharsSpliterator")] 3

def k15m0 : Method := { name := "<init>", desc := "()V", sig := { parameters := [], returnType := none }, accessFlags := 0, code := none }
def k15c1 : Code := { maxStack := 2, maxLocals := 2, code := jdk_43_method_2_code, exceptionTable := #[], attributes := #[] }
def k15m1 : Method := { name := "charAt", desc := "([BI)C", sig := { parameters := [(.array .byte), .int], returnType := some .char }, accessFlags := 9, code := some k15c1 }
def k15c2 : Code := { maxStack := 2, maxLocals := 1, code := jdk_43_method_3_code, exceptionTable := #[], attributes := #[] }
def k15m2 : Method := { name := "canEncode", desc := "(C)Z", sig := { parameters := [.char], returnType := some .boolean }, accessFlags := 9, code := some k15c2 }
def k15c3 : Code := { maxStack := 5, maxLocals := 5, code := jdk_43_method_50_code, exceptionTable := #[], attributes := #[] }
def k15m3 : Method := { name := "inflate", desc := "([BI[BII)V", sig := { parameters := [(.array .byte), .int, (.array .byte), .int, .int], returnType := none }, accessFlags := 9, code := some k15c3 }
/-- java/lang/StringLatin1 -/
def k15 : Class := { plain "java/lang/StringLatin1" (some 0) with
  accessFlags := 48
  interfaces := #[]
  cf := some (fileOf pool15 14 #[.nestMembers #[390, 221]] #[{ accessFlags := 0, nameIndex := 7, descriptorIndex := 8, attributes := #[] }, { accessFlags := 9, nameIndex := 252, descriptorIndex := 53, attributes := #[] }, { accessFlags := 9, nameIndex := 90, descriptorIndex := 105, attributes := #[] }, { accessFlags := 9, nameIndex := 17, descriptorIndex := 27, attributes := #[] }] 48 4 #[] #[{ accessFlags := 4120, nameIndex := 121, descriptorIndex := 122, attributes := #[] }])
  fields := #[{ name := "$assertionsDisabled", type := .boolean, accessFlags := 4120, slot := 0, constantValue := 0 }]
  methods := #[k15m0, k15m1, k15m2, k15m3]
  instanceTypes := #[]
  staticTypes := #[.boolean]
  resolved := Array.replicate 395 none
  statics := none }

def pool16 : Array CpInfo := pool [(2, .class_ 4), (1, u "java/lang/Object"), (0, u "<init>"), (0, u "()V"), (17, .class_ 26), (1, u "jdk/internal/util/Preconditions"), (6, u "checkIndex"), (15, u "checkFromIndexSize"), (5, .class_ 56), (0, u "jdk/internal/util/Preconditions$4"), (57, .class_ 115), (0, u "jdk/internal/util/Preconditions$1"), (7, u "SIOOBE_FORMATTER"), (0, u "Ljava/util/function/BiFunction;"), (0, .class_ 126), (0, u "jdk/internal/util/Preconditions$2"), (3, u "AIOOBE_FORMATTER"), (0, .class_ 132), (0, u "jdk/internal/util/Preconditions$3"), (3, u "IOOBE_FORMATTER"), (41, u "(IILjava/util/function/BiFunction;)I"), (4, u "(IIILjava/util/function/BiFunction;)I")] 10

def k16m0 : Method := { name := "<init>", desc := "()V", sig := { parameters := [], returnType := none }, accessFlags := 1, code := none }
def k16c1 : Code := { maxStack := 3, maxLocals := 3, code := jdk_41_method_11_code, exceptionTable := #[], attributes := #[] }
def k16m1 : Method := { name := "checkIndex", desc := "(IILjava/util/function/BiFunction;)I", sig := { parameters := [.int, .int, (.object "java/util/function/BiFunction")], returnType := some .int }, accessFlags := 9, code := some k16c1 }
def k16c2 : Code := { maxStack := 4, maxLocals := 4, code := jdk_41_method_13_code, exceptionTable := #[], attributes := #[] }
def k16m2 : Method := { name := "checkFromIndexSize", desc := "(IIILjava/util/function/BiFunction;)I", sig := { parameters := [.int, .int, .int, (.object "java/util/function/BiFunction")], returnType := some .int }, accessFlags := 9, code := some k16c2 }
/-- jdk/internal/util/Preconditions -/
def k16 : Class := { plain "jdk/internal/util/Preconditions" (some 0) with
  accessFlags := 33
  interfaces := #[]
  cf := some (fileOf pool16 24 #[.nestMembers #[55, 131, 125, 114]] #[{ accessFlags := 1, nameIndex := 5, descriptorIndex := 6, attributes := #[] }, { accessFlags := 9, nameIndex := 33, descriptorIndex := 178, attributes := #[] }, { accessFlags := 9, nameIndex := 49, descriptorIndex := 183, attributes := #[] }] 33 2 #[] #[{ accessFlags := 25, nameIndex := 123, descriptorIndex := 124, attributes := #[] }, { accessFlags := 25, nameIndex := 130, descriptorIndex := 124, attributes := #[] }, { accessFlags := 25, nameIndex := 136, descriptorIndex := 124, attributes := #[] }])
  fields := #[{ name := "SIOOBE_FORMATTER", type := (.object "java/util/function/BiFunction"), accessFlags := 25, slot := 0, constantValue := 0 }, { name := "AIOOBE_FORMATTER", type := (.object "java/util/function/BiFunction"), accessFlags := 25, slot := 1, constantValue := 0 }, { name := "IOOBE_FORMATTER", type := (.object "java/util/function/BiFunction"), accessFlags := 25, slot := 2, constantValue := 0 }]
  methods := #[k16m0, k16m1, k16m2]
  instanceTypes := #[]
  staticTypes := #[(.object "java/util/function/BiFunction"), (.object "java/util/function/BiFunction"), (.object "java/util/function/BiFunction")]
  resolved := Array.replicate 194 none
  statics := some 2 }

def pool17 : Array CpInfo := pool [(2, .class_ 4), (1, u "java/lang/Object"), (0, u "<init>"), (0, u "()V"), (1, .class_ 10), (1, u "java/lang/System"), (0, u "allowSecurityManager"), (0, u "I"), (16, u "cons"), (0, u "Ljava/io/Console;"), (77, .class_ 110), (1, u "java/lang/System$CallersHolder"), (43, u "initialErrStream"), (0, u "Ljava/io/PrintStream;"), (19, u "security"), (0, u "Ljava/lang/SecurityManager;"), (31, .class_ 209), (0, u "java/lang/System$1"), (7, u "props"), (0, u "Ljava/util/Properties;"), (2, u "lineSeparator"), (0, u "Ljava/lang/String;"), (96, .class_ 321), (1, u "java/lang/System$LoggerFinder"), (5, .class_ 328), (0, u "java/lang/System$Logger"), (67, u "err"), (2, u "out"), (91, u "notSupportedJnuEncoding"), (15, u "in"), (17, u "initialIn"), (0, u "Ljava/io/InputStream;"), (35, u "bootLayer"), (0, u "Ljava/lang/ModuleLayer;"), (99, .class_ 664), (0, u "java/lang/System$2"), (9, u "NEVER"), (2, u "MAYBE"), (49, u "arraycopy"), (0, u "(Ljava/lang/Object;ILjava/lang/Object;II)V"), (72, .class_ 802), (0, u "java/lang/System$Logger$Level")] 31

def k17m0 : Method := { name := "<init>", desc := "()V", sig := { parameters := [], returnType := none }, accessFlags := 2, code := none }
def k17m1 : Method := { name := "arraycopy", desc := "(Ljava/lang/Object;ILjava/lang/Object;II)V", sig := { parameters := [(.object "java/lang/Object"), .int, (.object "java/lang/Object"), .int, .int], returnType := none }, accessFlags := 265, code := none }
/-- java/lang/System -/
def k17 : Class := { plain "java/lang/System" (some 0) with
  accessFlags := 49
  interfaces := #[]
  cf := some (fileOf pool17 8 #[.nestMembers #[319, 327, 801, 108, 663, 208]] #[{ accessFlags := 2, nameIndex := 5, descriptorIndex := 6, attributes := #[] }, { accessFlags := 265, nameIndex := 727, descriptorIndex := 728, attributes := #[] }] 49 2 #[] #[{ accessFlags := 25, nameIndex := 507, descriptorIndex := 526, attributes := #[] }, { accessFlags := 25, nameIndex := 399, descriptorIndex := 155, attributes := #[] }, { accessFlags := 25, nameIndex := 396, descriptorIndex := 155, attributes := #[] }, { accessFlags := 10, nameIndex := 525, descriptorIndex := 526, attributes := #[] }, { accessFlags := 26, nameIndex := 674, descriptorIndex := 12, attributes := #[] }, { accessFlags := 26, nameIndex := 677, descriptorIndex := 12, attributes := #[] }, { accessFlags := 10, nameIndex := 11, descriptorIndex := 12, attributes := #[] }, { accessFlags := 74, nameIndex := 175, descriptorIndex := 176, attributes := #[] }, { accessFlags := 10, nameIndex := 491, descriptorIndex := 222, attributes := #[] }, { accessFlags := 74, nameIndex := 29, descriptorIndex := 30, attributes := #[] }, { accessFlags := 74, nameIndex := 154, descriptorIndex := 155, attributes := #[] }, { accessFlags := 10, nameIndex := 217, descriptorIndex := 218, attributes := #[] }, { accessFlags := 10, nameIndex := 221, descriptorIndex := 222, attributes := #[] }, { accessFlags := 8, nameIndex := 562, descriptorIndex := 563, attributes := #[] }])
  fields := #[{ name := "in", type := (.object "java/io/InputStream"), accessFlags := 25, slot := 0, constantValue := 0 }, { name := "out", type := (.object "java/io/PrintStream"), accessFlags := 25, slot := 1, constantValue := 0 }, { name := "err", type := (.object "java/io/PrintStream"), accessFlags := 25, slot := 2, constantValue := 0 }, { name := "initialIn", type := (.object "java/io/InputStream"), accessFlags := 10, slot := 3, constantValue := 0 }, { name := "NEVER", type := .int, accessFlags := 26, slot := 4, constantValue := 0 }, { name := "MAYBE", type := .int, accessFlags := 26, slot := 5, constantValue := 0 }, { name := "allowSecurityManager", type := .int, accessFlags := 10, slot := 6, constantValue := 0 }, { name := "security", type := (.object "java/lang/SecurityManager"), accessFlags := 74, slot := 7, constantValue := 0 }, { name := "notSupportedJnuEncoding", type := (.object "java/lang/String"), accessFlags := 10, slot := 8, constantValue := 0 }, { name := "cons", type := (.object "java/io/Console"), accessFlags := 74, slot := 9, constantValue := 0 }, { name := "initialErrStream", type := (.object "java/io/PrintStream"), accessFlags := 74, slot := 10, constantValue := 0 }, { name := "props", type := (.object "java/util/Properties"), accessFlags := 10, slot := 11, constantValue := 0 }, { name := "lineSeparator", type := (.object "java/lang/String"), accessFlags := 10, slot := 12, constantValue := 0 }, { name := "bootLayer", type := (.object "java/lang/ModuleLayer"), accessFlags := 8, slot := 13, constantValue := 0 }]
  methods := #[k17m0, k17m1]
  instanceTypes := #[]
  staticTypes := #[(.object "java/io/InputStream"), (.object "java/io/PrintStream"), (.object "java/io/PrintStream"), (.object "java/io/InputStream"), .int, .int, .int, (.object "java/lang/SecurityManager"), (.object "java/lang/String"), (.object "java/io/Console"), (.object "java/io/PrintStream"), (.object "java/util/Properties"), (.object "java/lang/String"), (.object "java/lang/ModuleLayer")]
  resolved := Array.replicate 834 none
  statics := none }

def pool18 : Array CpInfo := pool [(9, u "<init>"), (6, .class_ 18), (1, u "java/lang/Object"), (0, u "()V"), (1, .class_ 23), (1, u "jdk/internal/util/ArraysSupport"), (0, u "LOG2_ARRAY_LONG_INDEX_SCALE"), (0, u "I"), (2, u "U"), (0, u "Ljdk/internal/misc/Unsafe;"), (8, u "BIG_ENDIAN"), (0, u "Z"), (8, u "LOG2_BYTE_BIT_SIZE"), (4, u "LOG2_ARRAY_INT_INDEX_SCALE"), (54, u "JLA"), (0, u "Ljdk/internal/access/JavaLangAccess;"), (11, u "LOG2_ARRAY_BOOLEAN_INDEX_SCALE"), (9, u "LOG2_ARRAY_BYTE_INDEX_SCALE"), (5, u "LOG2_ARRAY_CHAR_INDEX_SCALE"), (5, u "LOG2_ARRAY_SHORT_INDEX_SCALE"), (18, u "LOG2_ARRAY_FLOAT_INDEX_SCALE"), (24, u "LOG2_ARRAY_DOUBLE_INDEX_SCALE"), (6, .methodref 195 196), (0, .class_ 197), (0, .nameAndType 198 199), (0, u "java/lang/Math"), (0, u "max"), (0, u "(II)I"), (0, .integer 2147483639), (76, u "T_BOOLEAN"), (2, u "T_CHAR"), (1, u "T_FLOAT"), (1, u "T_DOUBLE"), (1, u "T_BYTE"), (1, u "T_SHORT"), (1, u "T_INT"), (1, u "T_LONG"), (1, u "SOFT_MAX_ARRAY_LENGTH"), (56, u "newLength"), (0, u "(III)I")] 25

def k18m0 : Method := { name := "<init>", desc := "()V", sig := { parameters := [], returnType := none }, accessFlags := 2, code := none }
def k18c1 : Code := { maxStack := 3, maxLocals := 4, code := jdk_48_method_27_code, exceptionTable := #[], attributes := #[] }
def k18m1 : Method := { name := "newLength", desc := "(III)I", sig := { parameters := [.int, .int, .int], returnType := some .int }, accessFlags := 9, code := some k18c1 }
/-- jdk/internal/util/ArraysSupport -/
def k18 : Class := { plain "jdk/internal/util/ArraysSupport" (some 0) with
  accessFlags := 33
  interfaces := #[]
  cf := some (fileOf pool18 21 #[] #[{ accessFlags := 2, nameIndex := 9, descriptorIndex := 19, attributes := #[] }, { accessFlags := 9, nameIndex := 351, descriptorIndex := 352, attributes := #[] }] 33 16 #[] #[{ accessFlags := 24, nameIndex := 28, descriptorIndex := 29, attributes := #[] }, { accessFlags := 26, nameIndex := 38, descriptorIndex := 39, attributes := #[] }, { accessFlags := 25, nameIndex := 121, descriptorIndex := 25, attributes := #[] }, { accessFlags := 25, nameIndex := 131, descriptorIndex := 25, attributes := #[] }, { accessFlags := 25, nameIndex := 137, descriptorIndex := 25, attributes := #[] }, { accessFlags := 25, nameIndex := 143, descriptorIndex := 25, attributes := #[] }, { accessFlags := 25, nameIndex := 53, descriptorIndex := 25, attributes := #[] }, { accessFlags := 25, nameIndex := 24, descriptorIndex := 25, attributes := #[] }, { accessFlags := 25, nameIndex := 162, descriptorIndex := 25, attributes := #[] }, { accessFlags := 25, nameIndex := 187, descriptorIndex := 25, attributes := #[] }, { accessFlags := 26, nameIndex := 48, descriptorIndex := 25, attributes := #[] }, { accessFlags := 25, nameIndex := 277, descriptorIndex := 25, attributes := #[] }, { accessFlags := 25, nameIndex := 280, descriptorIndex := 25, attributes := #[] }, { accessFlags := 25, nameIndex := 282, descriptorIndex := 25, attributes := #[] }, { accessFlags := 25, nameIndex := 284, descriptorIndex := 25, attributes := #[] }, { accessFlags := 25, nameIndex := 286, descriptorIndex := 25, attributes := #[] }, { accessFlags := 25, nameIndex := 288, descriptorIndex := 25, attributes := #[] }, { accessFlags := 25, nameIndex := 290, descriptorIndex := 25, attributes := #[] }, { accessFlags := 25, nameIndex := 292, descriptorIndex := 25, attributes := #[] }, { accessFlags := 26, nameIndex := 108, descriptorIndex := 109, attributes := #[] }, { accessFlags := 25, nameIndex := 294, descriptorIndex := 25, attributes := #[] }])
  fields := #[{ name := "U", type := (.object "jdk/internal/misc/Unsafe"), accessFlags := 24, slot := 0, constantValue := 0 }, { name := "BIG_ENDIAN", type := .boolean, accessFlags := 26, slot := 1, constantValue := 0 }, { name := "LOG2_ARRAY_BOOLEAN_INDEX_SCALE", type := .int, accessFlags := 25, slot := 2, constantValue := 0 }, { name := "LOG2_ARRAY_BYTE_INDEX_SCALE", type := .int, accessFlags := 25, slot := 3, constantValue := 0 }, { name := "LOG2_ARRAY_CHAR_INDEX_SCALE", type := .int, accessFlags := 25, slot := 4, constantValue := 0 }, { name := "LOG2_ARRAY_SHORT_INDEX_SCALE", type := .int, accessFlags := 25, slot := 5, constantValue := 0 }, { name := "LOG2_ARRAY_INT_INDEX_SCALE", type := .int, accessFlags := 25, slot := 6, constantValue := 0 }, { name := "LOG2_ARRAY_LONG_INDEX_SCALE", type := .int, accessFlags := 25, slot := 7, constantValue := 0 }, { name := "LOG2_ARRAY_FLOAT_INDEX_SCALE", type := .int, accessFlags := 25, slot := 8, constantValue := 0 }, { name := "LOG2_ARRAY_DOUBLE_INDEX_SCALE", type := .int, accessFlags := 25, slot := 9, constantValue := 0 }, { name := "LOG2_BYTE_BIT_SIZE", type := .int, accessFlags := 26, slot := 10, constantValue := 0 }, { name := "T_BOOLEAN", type := .int, accessFlags := 25, slot := 11, constantValue := 0 }, { name := "T_CHAR", type := .int, accessFlags := 25, slot := 12, constantValue := 0 }, { name := "T_FLOAT", type := .int, accessFlags := 25, slot := 13, constantValue := 0 }, { name := "T_DOUBLE", type := .int, accessFlags := 25, slot := 14, constantValue := 0 }, { name := "T_BYTE", type := .int, accessFlags := 25, slot := 15, constantValue := 0 }, { name := "T_SHORT", type := .int, accessFlags := 25, slot := 16, constantValue := 0 }, { name := "T_INT", type := .int, accessFlags := 25, slot := 17, constantValue := 0 }, { name := "T_LONG", type := .int, accessFlags := 25, slot := 18, constantValue := 0 }, { name := "JLA", type := (.object "jdk/internal/access/JavaLangAccess"), accessFlags := 26, slot := 19, constantValue := 0 }, { name := "SOFT_MAX_ARRAY_LENGTH", type := .int, accessFlags := 25, slot := 20, constantValue := 0 }]
  methods := #[k18m0, k18m1]
  instanceTypes := #[]
  staticTypes := #[(.object "jdk/internal/misc/Unsafe"), .boolean, .int, .int, .int, .int, .int, .int, .int, .int, .int, .int, .int, .int, .int, .int, .int, .int, .int, (.object "jdk/internal/access/JavaLangAccess"), .int]
  resolved := Array.replicate 378 none
  statics := none }

def pool19 : Array CpInfo := pool [(1, .class_ 2), (0, u "java/lang/Math"), (1, .class_ 6), (1, u "java/lang/Object"), (0, u "<init>"), (0, u "()V"), (89, .class_ 100), (1, u "java/lang/Math$RandomNumberGeneratorHolder"), (71, u "negativeZeroFloatBits"), (0, u "J"), (2, u "negativeZeroDoubleBits"), (21, u "max"), (2, u "min"), (43, u "$assertionsDisabled"), (0, u "Z"), (88, u "(II)I"), (2, u "twoToTheDoubleScaleDown"), (0, u "D"), (4, u "twoToTheDoubleScaleUp"), (9, u "E"), (3, u "PI"), (2, u "TAU"), (2, u "DEGREES_TO_RADIANS"), (0, u "RADIANS_TO_DEGREES")] 94

def k19m0 : Method := { name := "<init>", desc := "()V", sig := { parameters := [], returnType := none }, accessFlags := 2, code := none }
def k19c1 : Code := { maxStack := 2, maxLocals := 2, code := jdk_29_method_65_code, exceptionTable := #[], attributes := #[] }
def k19m1 : Method := { name := "max", desc := "(II)I", sig := { parameters := [.int, .int], returnType := some .int }, accessFlags := 9, code := some k19c1 }
def k19c2 : Code := { maxStack := 2, maxLocals := 2, code := jdk_29_method_69_code, exceptionTable := #[], attributes := #[] }
def k19m2 : Method := { name := "min", desc := "(II)I", sig := { parameters := [.int, .int], returnType := some .int }, accessFlags := 9, code := some k19c2 }
/-- java/lang/Math -/
def k19 : Class := { plain "java/lang/Math" (some 0) with
  accessFlags := 49
  interfaces := #[]
  cf := some (fileOf pool19 1 #[.nestMembers #[98]] #[{ accessFlags := 2, nameIndex := 7, descriptorIndex := 8, attributes := #[] }, { accessFlags := 9, nameIndex := 198, descriptorIndex := 335, attributes := #[] }, { accessFlags := 9, nameIndex := 201, descriptorIndex := 335, attributes := #[] }] 49 4 #[] #[{ accessFlags := 25, nameIndex := 354, descriptorIndex := 339, attributes := #[] }, { accessFlags := 25, nameIndex := 358, descriptorIndex := 339, attributes := #[] }, { accessFlags := 25, nameIndex := 361, descriptorIndex := 339, attributes := #[] }, { accessFlags := 26, nameIndex := 364, descriptorIndex := 339, attributes := #[] }, { accessFlags := 26, nameIndex := 365, descriptorIndex := 339, attributes := #[] }, { accessFlags := 26, nameIndex := 172, descriptorIndex := 173, attributes := #[] }, { accessFlags := 26, nameIndex := 176, descriptorIndex := 173, attributes := #[] }, { accessFlags := 8, nameIndex := 344, descriptorIndex := 339, attributes := #[] }, { accessFlags := 8, nameIndex := 338, descriptorIndex := 339, attributes := #[] }, { accessFlags := 4120, nameIndex := 245, descriptorIndex := 246, attributes := #[] }])
  fields := #[{ name := "E", type := .double, accessFlags := 25, slot := 0, constantValue := 0 }, { name := "PI", type := .double, accessFlags := 25, slot := 1, constantValue := 0 }, { name := "TAU", type := .double, accessFlags := 25, slot := 2, constantValue := 0 }, { name := "DEGREES_TO_RADIANS", type := .double, accessFlags := 26, slot := 3, constantValue := 0 }, { name := "RADIANS_TO_DEGREES", type := .double, accessFlags := 26, slot := 4, constantValue := 0 }, { name := "negativeZeroFloatBits", type := .long, accessFlags := 26, slot := 5, constantValue := 0 }, { name := "negativeZeroDoubleBits", type := .long, accessFlags := 26, slot := 6, constantValue := 0 }, { name := "twoToTheDoubleScaleUp", type := .double, accessFlags := 8, slot := 7, constantValue := 0 }, { name := "twoToTheDoubleScaleDown", type := .double, accessFlags := 8, slot := 8, constantValue := 0 }, { name := "$assertionsDisabled", type := .boolean, accessFlags := 4120, slot := 9, constantValue := 0 }]
  methods := #[k19m0, k19m1, k19m2]
  instanceTypes := #[]
  staticTypes := #[.double, .double, .double, .double, .double, .long, .long, .double, .double, .boolean]
  resolved := Array.replicate 460 none
  statics := none }

/-- the primitive byte -/
def k20 : Class := { plain "byte" none with kind := .primitive 'B', accessFlags := 0x411 }
/-- [B -/
def k21 : Class := { plain "[B" (some 0) with kind := .array 20 .byte, interfaces := #[13, 2], accessFlags := 1041 }

/-- the primitive char -/
def k22 : Class := { plain "char" none with kind := .primitive 'C', accessFlags := 0x411 }
/-- [C -/
def k23 : Class := { plain "[C" (some 0) with kind := .array 22 .char, interfaces := #[13, 2], accessFlags := 1041 }

/-- the primitive int -/
def k24 : Class := { plain "int" none with kind := .primitive 'I', accessFlags := 0x411 }
/-- [I -/
def k25 : Class := { plain "[I" (some 0) with kind := .array 24 .int, interfaces := #[13, 2], accessFlags := 1041 }

def heap : Heap := #[{ cls := 7, slots := #[.long 0, .int 1, .null, .int 0, .null, .int 0, .int 0], vm := .statics 7 },
  { cls := 14, slots := #[.int 0, .int 8, .int 0, .int 1], vm := .statics 14 },
  { cls := 16, slots := #[.null, .null, .null], vm := .statics 16 }]
def classes : Array Class := #[k0, k1, k2, k3, k4, k5, k6, k7, k8, k9, k10, k11, k12, k13, k14, k15, k16, k17, k18, k19, k20, k21, k22, k23, k24, k25]
def interned : List (Array UInt16 × Addr) := []
def slotsUsed : Nat := 14
def theMethod : MethodId := ⟨1, 5⟩
def args0 : Array Value := #[.int 5, .int 7, .int 9, .int 1, .int 2]
def aboutOver (below : List Frame) : State where
  vm := { classes := classes, interned := interned.toArray }
  heap := heap
  slotsUsed := slotsUsed
  threads := #[{ frames := .invoking theMethod args0 :: below }]
def below0 : List Frame := [.native { method := ⟨0, 0⟩, args := #[] }]
def about1 : State := aboutOver below0
def p0 : Program := .bare "" "" ""
def e0 : Env := launch0.env 0 0 0
theorem w_frames : about1.frames = Frame.invoking theMethod args0 :: below0 := rfl
set_option maxRecDepth 65536 in
theorem w_args : argsFit about1.vm theMethod args0 = true := by decide +kernel
set_option maxRecDepth 65536 in
theorem w_heap : heapFits about1 = true := by decide +kernel
set_option maxRecDepth 65536 in
theorem w_runnable : about1.curStatus? = some .runnable := by decide +kernel
set_option maxRecDepth 65536 in
theorem w_alone : about1.alone = true := by decide +kernel
set_option maxRecDepth 65536 in
theorem w_named : about1.methodNamed? x = some theMethod := by decide +kernel
set_option maxRecDepth 65536 in
theorem w_hears : about1.hears theMethod below0 = true := by decide +kernel
set_option maxRecDepth 65536 in
theorem w_ripe : about1.ripe theMethod args0 below0 = true := by decide +kernel
theorem w_running : about1.status = .running := rfl
set_option maxRecDepth 65536 in
theorem w_room : about1.hasRoom e0.platform room_1 = true :=
  launch0.hasRoom_least _ room_1 (by decide +kernel) (by decide +kernel) (by decide +kernel) (by decide +kernel) (by decide +kernel) (by decide +kernel)
theorem allAtoms_all (ts : List Jvm.Cond) (a : Array Jvm.Value) (st : Jvm.State) : (allAtoms ts).before a st = ts.all (fun c => c.before a st) := by
  induction ts with
  | nil => rfl
  | cons c t ih =>
    show (Jvm.Cond.and c (allAtoms t)).before a st = _
    rw [Jvm.Cond.before_and, ih, List.all_cons]
def words1 : List Jvm.Cond := Jvm.Cond.code x code maxLocals ret :: tables_1
/-- a 'code' word, met by the world's own term for the bytes: nothing is compared byte by byte -/
theorem code_word {y : MethodName} {bytes : ByteArray} {mx : Nat} {rt : Option FieldType} {a : Array Value} {s : State} {m : MethodId} {meth : Method} {c : Code} (h1 : s.methodNamed? y = some m) (h2 : s.vm.method? m = some meth) (h3 : meth.code = some c) (h4 : c.code = bytes)
    (h5 : (c.maxLocals == mx && c.exceptionTable.isEmpty && decide (c.maxStack ≤ mostOperands) && decide (meth.sig.returnType = rt) && !meth.locks && decide (parseMethodDescriptor y.desc = some meth.sig)) = true) : (Jvm.Cond.code y bytes mx rt).before a s = true := by
  simp only [Bool.and_eq_true, beq_iff_eq, Bool.not_eq_true', decide_eq_true_eq] at h5
  obtain ⟨⟨⟨⟨⟨g1, g2⟩, g3⟩, g4⟩, g5⟩, g6⟩ := h5
  simp [Cond.before, Cond.holds, Cond.value, h1, h2, h3, h4, g1, g2, g3, g4, g5, g6]
def isCode : Jvm.Cond → Bool
  | .code _ _ _ _ => true
  | _ => false
theorem all_split {L : List Jvm.Cond} {P : Jvm.Cond → Bool} (h1 : L.all (fun c => isCode c || P c) = true) (h2 : ∀ c ∈ L.filter isCode, P c = true) : L.all P = true := by
  refine List.all_eq_true.mpr fun c hc => ?_
  have h := List.all_eq_true.mp h1 c hc
  rcases Bool.eq_false_or_eq_true (isCode c) with hi | hi
  · exact h2 c (List.mem_filter.mpr ⟨hc, hi⟩)
  · simpa [hi] using h
set_option maxRecDepth 65536 in
theorem w_c0 : (Jvm.Cond.code x code maxLocals ret).before args0 about1 = true := code_word (m := ⟨1, 5⟩) (meth := k1m5) (c := k1c5) (by decide +kernel) rfl rfl rfl (by decide +kernel)
set_option maxRecDepth 65536 in
theorem w_c1 : (Jvm.Cond.code ({ cls := "com/example/twice_to_once/twicetoonce/cli/RecordLinesFieldPinLaw", name := "draw", desc := "(I)C" } : Jvm.MethodName) method_2_code (2 : Nat) (Option.some Jvm.ClassFile.FieldType.char)).before args0 about1 = true := code_word (m := ⟨1, 1⟩) (meth := k1m1) (c := k1c1) (by decide +kernel) rfl rfl rfl (by decide +kernel)
set_option maxRecDepth 65536 in
theorem w_c2 : (Jvm.Cond.code ({ cls := "java/lang/String", name := "<init>", desc := "([C)V" } : Jvm.MethodName) jdk_42_method_3_code (2 : Nat) (Option.none : Option Jvm.ClassFile.FieldType)).before args0 about1 = true := code_word (m := ⟨7, 1⟩) (meth := k7m1) (c := k7c1) (by decide +kernel) rfl rfl rfl (by decide +kernel)
set_option maxRecDepth 65536 in
theorem w_c3 : (Jvm.Cond.code ({ cls := "java/lang/String", name := "<init>", desc := "([CIILjava/lang/Void;)V" } : Jvm.MethodName) jdk_42_method_149_code (6 : Nat) (Option.none : Option Jvm.ClassFile.FieldType)).before args0 about1 = true := code_word (m := ⟨7, 6⟩) (meth := k7m6) (c := k7c6) (by decide +kernel) rfl rfl rfl (by decide +kernel)
set_option maxRecDepth 65536 in
theorem w_c4 : (Jvm.Cond.code ({ cls := "java/lang/Object", name := "<init>", desc := "()V" } : Jvm.MethodName) object_method_1_code (1 : Nat) (Option.none : Option Jvm.ClassFile.FieldType)).before args0 about1 = true := code_word (m := ⟨0, 0⟩) (meth := k0m0) (c := k0c0) (by decide +kernel) rfl rfl rfl (by decide +kernel)
set_option maxRecDepth 65536 in
theorem w_c5 : (Jvm.Cond.code ({ cls := "com/example/twice_to_once/twicetoonce/cli/RecordLines", name := "field", desc := "(Ljava/lang/String;)Ljava/lang/String;" } : Jvm.MethodName) prog_1_method_4_code (4 : Nat) (Option.some (Jvm.ClassFile.FieldType.object "java/lang/String"))).before args0 about1 = true := code_word (m := ⟨8, 1⟩) (meth := k8m1) (c := k8c1) (by decide +kernel) rfl rfl rfl (by decide +kernel)
set_option maxRecDepth 65536 in
theorem w_c6 : (Jvm.Cond.code ({ cls := "java/lang/String", name := "length", desc := "()I" } : Jvm.MethodName) jdk_42_method_54_code (1 : Nat) (Option.some Jvm.ClassFile.FieldType.int)).before args0 about1 = true := code_word (m := ⟨7, 3⟩) (meth := k7m3) (c := k7c3) (by decide +kernel) rfl rfl rfl (by decide +kernel)
set_option maxRecDepth 65536 in
theorem w_c7 : (Jvm.Cond.code ({ cls := "java/lang/String", name := "coder", desc := "()B" } : Jvm.MethodName) jdk_42_method_152_code (1 : Nat) (Option.some Jvm.ClassFile.FieldType.byte)).before args0 about1 = true := code_word (m := ⟨7, 8⟩) (meth := k7m8) (c := k7c8) (by decide +kernel) rfl rfl rfl (by decide +kernel)
set_option maxRecDepth 65536 in
theorem w_c8 : (Jvm.Cond.code ({ cls := "java/lang/StringBuilder", name := "<init>", desc := "(I)V" } : Jvm.MethodName) jdk_67_method_2_code (2 : Nat) (Option.none : Option Jvm.ClassFile.FieldType)).before args0 about1 = true := code_word (m := ⟨11, 1⟩) (meth := k11m1) (c := k11c1) (by decide +kernel) rfl rfl rfl (by decide +kernel)
set_option maxRecDepth 65536 in
theorem w_c9 : (Jvm.Cond.code ({ cls := "java/lang/AbstractStringBuilder", name := "<init>", desc := "(I)V" } : Jvm.MethodName) jdk_68_method_2_code (2 : Nat) (Option.none : Option Jvm.ClassFile.FieldType)).before args0 about1 = true := code_word (m := ⟨10, 1⟩) (meth := k10m1) (c := k10c1) (by decide +kernel) rfl rfl rfl (by decide +kernel)
set_option maxRecDepth 65536 in
theorem w_c10 : (Jvm.Cond.code ({ cls := "java/lang/StringBuilder", name := "toString", desc := "()Ljava/lang/String;" } : Jvm.MethodName) jdk_67_method_42_code (1 : Nat) (Option.some (Jvm.ClassFile.FieldType.object "java/lang/String"))).before args0 about1 = true := code_word (m := ⟨11, 4⟩) (meth := k11m4) (c := k11c4) (by decide +kernel) rfl rfl rfl (by decide +kernel)
set_option maxRecDepth 65536 in
theorem w_c11 : (Jvm.Cond.code ({ cls := "java/lang/String", name := "<init>", desc := "(Ljava/lang/StringBuilder;)V" } : Jvm.MethodName) jdk_42_method_53_code (2 : Nat) (Option.none : Option Jvm.ClassFile.FieldType)).before args0 about1 = true := code_word (m := ⟨7, 2⟩) (meth := k7m2) (c := k7c2) (by decide +kernel) rfl rfl rfl (by decide +kernel)
set_option maxRecDepth 65536 in
theorem w_c12 : (Jvm.Cond.code ({ cls := "java/lang/String", name := "<init>", desc := "(Ljava/lang/AbstractStringBuilder;Ljava/lang/Void;)V" } : Jvm.MethodName) jdk_42_method_150_code (5 : Nat) (Option.none : Option Jvm.ClassFile.FieldType)).before args0 about1 = true := code_word (m := ⟨7, 7⟩) (meth := k7m7) (c := k7c7) (by decide +kernel) rfl rfl rfl (by decide +kernel)
set_option maxRecDepth 65536 in
theorem w_c13 : (Jvm.Cond.code ({ cls := "java/lang/AbstractStringBuilder", name := "getValue", desc := "()[B" } : Jvm.MethodName) jdk_68_method_64_code (1 : Nat) (Option.some (Jvm.ClassFile.FieldType.array Jvm.ClassFile.FieldType.byte))).before args0 about1 = true := code_word (m := ⟨10, 8⟩) (meth := k10m8) (c := k10c8) (by decide +kernel) rfl rfl rfl (by decide +kernel)
set_option maxRecDepth 65536 in
theorem w_c14 : (Jvm.Cond.code ({ cls := "java/lang/StringBuilder", name := "length", desc := "()I" } : Jvm.MethodName) jdk_67_method_93_code (1 : Nat) (Option.some Jvm.ClassFile.FieldType.int)).before args0 about1 = true := code_word (m := ⟨11, 5⟩) (meth := k11m5) (c := k11c5) (by decide +kernel) rfl rfl rfl (by decide +kernel)
set_option maxRecDepth 65536 in
theorem w_c15 : (Jvm.Cond.code ({ cls := "java/lang/AbstractStringBuilder", name := "length", desc := "()I" } : Jvm.MethodName) jdk_68_method_6_code (1 : Nat) (Option.some Jvm.ClassFile.FieldType.int)).before args0 about1 = true := code_word (m := ⟨10, 2⟩) (meth := k10m2) (c := k10c2) (by decide +kernel) rfl rfl rfl (by decide +kernel)
set_option maxRecDepth 65536 in
theorem w_c16 : (Jvm.Cond.code ({ cls := "java/lang/AbstractStringBuilder", name := "isLatin1", desc := "()Z" } : Jvm.MethodName) jdk_68_method_68_code (1 : Nat) (Option.some Jvm.ClassFile.FieldType.boolean)).before args0 about1 = true := code_word (m := ⟨10, 9⟩) (meth := k10m9) (c := k10c9) (by decide +kernel) rfl rfl rfl (by decide +kernel)
set_option maxRecDepth 65536 in
theorem w_c17 : (Jvm.Cond.code ({ cls := "java/util/Arrays", name := "copyOfRange", desc := "([BII)[B" } : Jvm.MethodName) jdk_65_method_132_code (3 : Nat) (Option.some (Jvm.ClassFile.FieldType.array Jvm.ClassFile.FieldType.byte))).before args0 about1 = true := code_word (m := ⟨12, 3⟩) (meth := k12m3) (c := k12c3) (by decide +kernel) rfl rfl rfl (by decide +kernel)
set_option maxRecDepth 65536 in
theorem w_c18 : (Jvm.Cond.code ({ cls := "com/example/twice_to_once/twicetoonce/cli/RecordLinesFieldPinLaw", name := "at", desc := "(Ljava/lang/String;[CII)Z" } : Jvm.MethodName) method_5_code (4 : Nat) (Option.some Jvm.ClassFile.FieldType.boolean)).before args0 about1 = true := code_word (m := ⟨1, 4⟩) (meth := k1m4) (c := k1c4) (by decide +kernel) rfl rfl rfl (by decide +kernel)
set_option maxRecDepth 65536 in
theorem w_c19 : (Jvm.Cond.code ({ cls := "java/lang/StringUTF16", name := "compress", desc := "([CII)[B" } : Jvm.MethodName) jdk_52_method_16_code (6 : Nat) (Option.some (Jvm.ClassFile.FieldType.array Jvm.ClassFile.FieldType.byte))).before args0 about1 = true := code_word (m := ⟨14, 8⟩) (meth := k14m8) (c := k14c8) (by decide +kernel) rfl rfl rfl (by decide +kernel)
set_option maxRecDepth 65536 in
theorem w_c20 : (Jvm.Cond.code ({ cls := "java/lang/StringUTF16", name := "compress", desc := "([CI[BII)I" } : Jvm.MethodName) jdk_52_method_21_code (7 : Nat) (Option.some Jvm.ClassFile.FieldType.int)).before args0 about1 = true := code_word (m := ⟨14, 9⟩) (meth := k14m9) (c := k14c9) (by decide +kernel) rfl rfl rfl (by decide +kernel)
set_option maxRecDepth 65536 in
theorem w_c21 : (Jvm.Cond.code ({ cls := "java/lang/StringUTF16", name := "coderFromArrayLen", desc := "([BI)B" } : Jvm.MethodName) jdk_52_method_15_code (2 : Nat) (Option.some Jvm.ClassFile.FieldType.byte)).before args0 about1 = true := code_word (m := ⟨14, 7⟩) (meth := k14m7) (c := k14c7) (by decide +kernel) rfl rfl rfl (by decide +kernel)
set_option maxRecDepth 65536 in
theorem w_c22 : (Jvm.Cond.code ({ cls := "com/example/twice_to_once/twicetoonce/cli/RecordLinesFieldPinLaw", name := "put", desc := "([CIC)I" } : Jvm.MethodName) method_4_code (4 : Nat) (Option.some Jvm.ClassFile.FieldType.int)).before args0 about1 = true := code_word (m := ⟨1, 3⟩) (meth := k1m3) (c := k1c3) (by decide +kernel) rfl rfl rfl (by decide +kernel)
set_option maxRecDepth 65536 in
theorem w_c23 : (Jvm.Cond.code ({ cls := "com/example/twice_to_once/twicetoonce/cli/RecordLinesFieldPinLaw", name := "escOf", desc := "(C)C" } : Jvm.MethodName) method_3_code (1 : Nat) (Option.some Jvm.ClassFile.FieldType.char)).before args0 about1 = true := code_word (m := ⟨1, 2⟩) (meth := k1m2) (c := k1c2) (by decide +kernel) rfl rfl rfl (by decide +kernel)
set_option maxRecDepth 65536 in
theorem w_c24 : (Jvm.Cond.code ({ cls := "java/lang/String", name := "charAt", desc := "(I)C" } : Jvm.MethodName) jdk_42_method_56_code (2 : Nat) (Option.some Jvm.ClassFile.FieldType.char)).before args0 about1 = true := code_word (m := ⟨7, 4⟩) (meth := k7m4) (c := k7c4) (by decide +kernel) rfl rfl rfl (by decide +kernel)
set_option maxRecDepth 65536 in
theorem w_c25 : (Jvm.Cond.code ({ cls := "java/lang/String", name := "isLatin1", desc := "()Z" } : Jvm.MethodName) jdk_42_method_154_code (1 : Nat) (Option.some Jvm.ClassFile.FieldType.boolean)).before args0 about1 = true := code_word (m := ⟨7, 9⟩) (meth := k7m9) (c := k7c9) (by decide +kernel) rfl rfl rfl (by decide +kernel)
set_option maxRecDepth 65536 in
theorem w_c26 : (Jvm.Cond.code ({ cls := "java/lang/StringLatin1", name := "charAt", desc := "([BI)C" } : Jvm.MethodName) jdk_43_method_2_code (2 : Nat) (Option.some Jvm.ClassFile.FieldType.char)).before args0 about1 = true := code_word (m := ⟨15, 1⟩) (meth := k15m1) (c := k15c1) (by decide +kernel) rfl rfl rfl (by decide +kernel)
set_option maxRecDepth 65536 in
theorem w_c27 : (Jvm.Cond.code ({ cls := "java/lang/String", name := "checkIndex", desc := "(II)V" } : Jvm.MethodName) jdk_42_method_155_code (2 : Nat) (Option.none : Option Jvm.ClassFile.FieldType)).before args0 about1 = true := code_word (m := ⟨7, 10⟩) (meth := k7m10) (c := k7c10) (by decide +kernel) rfl rfl rfl (by decide +kernel)
set_option maxRecDepth 65536 in
theorem w_c28 : (Jvm.Cond.code ({ cls := "jdk/internal/util/Preconditions", name := "checkIndex", desc := "(IILjava/util/function/BiFunction;)I" } : Jvm.MethodName) jdk_41_method_11_code (3 : Nat) (Option.some Jvm.ClassFile.FieldType.int)).before args0 about1 = true := code_word (m := ⟨16, 1⟩) (meth := k16m1) (c := k16c1) (by decide +kernel) rfl rfl rfl (by decide +kernel)
set_option maxRecDepth 65536 in
theorem w_c29 : (Jvm.Cond.code ({ cls := "java/lang/StringBuilder", name := "append", desc := "(C)Ljava/lang/StringBuilder;" } : Jvm.MethodName) jdk_67_method_14_code (2 : Nat) (Option.some (Jvm.ClassFile.FieldType.object "java/lang/StringBuilder"))).before args0 about1 = true := code_word (m := ⟨11, 3⟩) (meth := k11m3) (c := k11c3) (by decide +kernel) rfl rfl rfl (by decide +kernel)
set_option maxRecDepth 65536 in
theorem w_c30 : (Jvm.Cond.code ({ cls := "java/lang/AbstractStringBuilder", name := "append", desc := "(C)Ljava/lang/AbstractStringBuilder;" } : Jvm.MethodName) jdk_68_method_31_code (2 : Nat) (Option.some (Jvm.ClassFile.FieldType.object "java/lang/AbstractStringBuilder"))).before args0 about1 = true := code_word (m := ⟨10, 7⟩) (meth := k10m7) (c := k10c7) (by decide +kernel) rfl rfl rfl (by decide +kernel)
set_option maxRecDepth 65536 in
theorem w_c31 : (Jvm.Cond.code ({ cls := "java/lang/AbstractStringBuilder", name := "ensureCapacityInternal", desc := "(I)V" } : Jvm.MethodName) jdk_68_method_9_code (3 : Nat) (Option.none : Option Jvm.ClassFile.FieldType)).before args0 about1 = true := code_word (m := ⟨10, 3⟩) (meth := k10m3) (c := k10c3) (by decide +kernel) rfl rfl rfl (by decide +kernel)
set_option maxRecDepth 65536 in
theorem w_c32 : (Jvm.Cond.code ({ cls := "java/lang/StringLatin1", name := "canEncode", desc := "(C)Z" } : Jvm.MethodName) jdk_43_method_3_code (1 : Nat) (Option.some Jvm.ClassFile.FieldType.boolean)).before args0 about1 = true := code_word (m := ⟨15, 2⟩) (meth := k15m2) (c := k15c2) (by decide +kernel) rfl rfl rfl (by decide +kernel)
set_option maxRecDepth 65536 in
theorem w_c33 : (Jvm.Cond.code ({ cls := "java/lang/StringBuilder", name := "append", desc := "(Ljava/lang/String;)Ljava/lang/StringBuilder;" } : Jvm.MethodName) jdk_67_method_7_code (2 : Nat) (Option.some (Jvm.ClassFile.FieldType.object "java/lang/StringBuilder"))).before args0 about1 = true := code_word (m := ⟨11, 2⟩) (meth := k11m2) (c := k11c2) (by decide +kernel) rfl rfl rfl (by decide +kernel)
set_option maxRecDepth 65536 in
theorem w_c34 : (Jvm.Cond.code ({ cls := "java/lang/AbstractStringBuilder", name := "append", desc := "(Ljava/lang/String;)Ljava/lang/AbstractStringBuilder;" } : Jvm.MethodName) jdk_68_method_22_code (3 : Nat) (Option.some (Jvm.ClassFile.FieldType.object "java/lang/AbstractStringBuilder"))).before args0 about1 = true := code_word (m := ⟨10, 6⟩) (meth := k10m6) (c := k10c6) (by decide +kernel) rfl rfl rfl (by decide +kernel)
set_option maxRecDepth 65536 in
theorem w_c35 : (Jvm.Cond.code ({ cls := "java/lang/AbstractStringBuilder", name := "putStringAt", desc := "(ILjava/lang/String;)V" } : Jvm.MethodName) jdk_68_method_73_code (3 : Nat) (Option.none : Option Jvm.ClassFile.FieldType)).before args0 about1 = true := code_word (m := ⟨10, 11⟩) (meth := k10m11) (c := k10c11) (by decide +kernel) rfl rfl rfl (by decide +kernel)
set_option maxRecDepth 65536 in
theorem w_c36 : (Jvm.Cond.code ({ cls := "java/lang/AbstractStringBuilder", name := "inflateIfNeededFor", desc := "(Ljava/lang/String;)V" } : Jvm.MethodName) jdk_68_method_71_code (2 : Nat) (Option.none : Option Jvm.ClassFile.FieldType)).before args0 about1 = true := code_word (m := ⟨10, 10⟩) (meth := k10m10) (c := k10c10) (by decide +kernel) rfl rfl rfl (by decide +kernel)
set_option maxRecDepth 65536 in
theorem w_c37 : (Jvm.Cond.code ({ cls := "java/lang/String", name := "getBytes", desc := "([BIB)V" } : Jvm.MethodName) jdk_42_method_147_code (4 : Nat) (Option.none : Option Jvm.ClassFile.FieldType)).before args0 about1 = true := code_word (m := ⟨7, 5⟩) (meth := k7m5) (c := k7c5) (by decide +kernel) rfl rfl rfl (by decide +kernel)
set_option maxRecDepth 65536 in
theorem w_c38 : (Jvm.Cond.code ({ cls := "java/lang/AbstractStringBuilder", name := "newCapacity", desc := "(I)I" } : Jvm.MethodName) jdk_68_method_10_code (6 : Nat) (Option.some Jvm.ClassFile.FieldType.int)).before args0 about1 = true := code_word (m := ⟨10, 4⟩) (meth := k10m4) (c := k10c4) (by decide +kernel) rfl rfl rfl (by decide +kernel)
set_option maxRecDepth 65536 in
theorem w_c39 : (Jvm.Cond.code ({ cls := "jdk/internal/util/ArraysSupport", name := "newLength", desc := "(III)I" } : Jvm.MethodName) jdk_48_method_27_code (4 : Nat) (Option.some Jvm.ClassFile.FieldType.int)).before args0 about1 = true := code_word (m := ⟨18, 1⟩) (meth := k18m1) (c := k18c1) (by decide +kernel) rfl rfl rfl (by decide +kernel)
set_option maxRecDepth 65536 in
theorem w_c40 : (Jvm.Cond.code ({ cls := "java/lang/Math", name := "max", desc := "(II)I" } : Jvm.MethodName) jdk_29_method_65_code (2 : Nat) (Option.some Jvm.ClassFile.FieldType.int)).before args0 about1 = true := code_word (m := ⟨19, 1⟩) (meth := k19m1) (c := k19c1) (by decide +kernel) rfl rfl rfl (by decide +kernel)
set_option maxRecDepth 65536 in
theorem w_c41 : (Jvm.Cond.code ({ cls := "java/util/Arrays", name := "copyOf", desc := "([BI)[B" } : Jvm.MethodName) jdk_65_method_121_code (3 : Nat) (Option.some (Jvm.ClassFile.FieldType.array Jvm.ClassFile.FieldType.byte))).before args0 about1 = true := code_word (m := ⟨12, 1⟩) (meth := k12m1) (c := k12c1) (by decide +kernel) rfl rfl rfl (by decide +kernel)
set_option maxRecDepth 65536 in
theorem w_c42 : (Jvm.Cond.code ({ cls := "java/lang/Math", name := "min", desc := "(II)I" } : Jvm.MethodName) jdk_29_method_69_code (2 : Nat) (Option.some Jvm.ClassFile.FieldType.int)).before args0 about1 = true := code_word (m := ⟨19, 2⟩) (meth := k19m2) (c := k19c2) (by decide +kernel) rfl rfl rfl (by decide +kernel)
set_option maxRecDepth 65536 in
theorem w_c43 : (Jvm.Cond.code ({ cls := "java/util/Arrays", name := "copyOfRangeByte", desc := "([BII)[B" } : Jvm.MethodName) jdk_65_method_133_code (5 : Nat) (Option.some (Jvm.ClassFile.FieldType.array Jvm.ClassFile.FieldType.byte))).before args0 about1 = true := code_word (m := ⟨12, 4⟩) (meth := k12m4) (c := k12c4) (by decide +kernel) rfl rfl rfl (by decide +kernel)
set_option maxRecDepth 65536 in
theorem w_c44 : (Jvm.Cond.code ({ cls := "java/util/Arrays", name := "checkLength", desc := "(II)V" } : Jvm.MethodName) jdk_65_method_131_code (2 : Nat) (Option.none : Option Jvm.ClassFile.FieldType)).before args0 about1 = true := code_word (m := ⟨12, 2⟩) (meth := k12m2) (c := k12c2) (by decide +kernel) rfl rfl rfl (by decide +kernel)
set_option maxRecDepth 65536 in
theorem w_c45 : (Jvm.Cond.code ({ cls := "java/lang/StringUTF16", name := "toBytes", desc := "([CII)[B" } : Jvm.MethodName) jdk_52_method_14_code (5 : Nat) (Option.some (Jvm.ClassFile.FieldType.array Jvm.ClassFile.FieldType.byte))).before args0 about1 = true := code_word (m := ⟨14, 6⟩) (meth := k14m6) (c := k14c6) (by decide +kernel) rfl rfl rfl (by decide +kernel)
set_option maxRecDepth 65536 in
theorem w_c46 : (Jvm.Cond.code ({ cls := "java/lang/StringUTF16", name := "newBytesFor", desc := "(I)[B" } : Jvm.MethodName) jdk_52_method_2_code (1 : Nat) (Option.some (Jvm.ClassFile.FieldType.array Jvm.ClassFile.FieldType.byte))).before args0 about1 = true := code_word (m := ⟨14, 1⟩) (meth := k14m1) (c := k14c1) (by decide +kernel) rfl rfl rfl (by decide +kernel)
set_option maxRecDepth 65536 in
theorem w_c47 : (Jvm.Cond.code ({ cls := "java/lang/StringUTF16", name := "newBytesLength", desc := "(I)I" } : Jvm.MethodName) jdk_52_method_3_code (1 : Nat) (Option.some Jvm.ClassFile.FieldType.int)).before args0 about1 = true := code_word (m := ⟨14, 2⟩) (meth := k14m2) (c := k14c2) (by decide +kernel) rfl rfl rfl (by decide +kernel)
set_option maxRecDepth 65536 in
theorem w_c48 : (Jvm.Cond.code ({ cls := "java/lang/StringUTF16", name := "putChar", desc := "([BII)V" } : Jvm.MethodName) jdk_52_method_4_code (3 : Nat) (Option.none : Option Jvm.ClassFile.FieldType)).before args0 about1 = true := code_word (m := ⟨14, 3⟩) (meth := k14m3) (c := k14c3) (by decide +kernel) rfl rfl rfl (by decide +kernel)
set_option maxRecDepth 65536 in
theorem w_c49 : (Jvm.Cond.code ({ cls := "java/lang/StringUTF16", name := "getChar", desc := "([BI)C" } : Jvm.MethodName) jdk_52_method_5_code (2 : Nat) (Option.some Jvm.ClassFile.FieldType.char)).before args0 about1 = true := code_word (m := ⟨14, 4⟩) (meth := k14m4) (c := k14c4) (by decide +kernel) rfl rfl rfl (by decide +kernel)
set_option maxRecDepth 65536 in
theorem w_c50 : (Jvm.Cond.code ({ cls := "java/lang/StringUTF16", name := "charAt", desc := "([BI)C" } : Jvm.MethodName) jdk_52_method_83_code (2 : Nat) (Option.some Jvm.ClassFile.FieldType.char)).before args0 about1 = true := code_word (m := ⟨14, 11⟩) (meth := k14m11) (c := k14c11) (by decide +kernel) rfl rfl rfl (by decide +kernel)
set_option maxRecDepth 65536 in
theorem w_c51 : (Jvm.Cond.code ({ cls := "java/lang/StringUTF16", name := "checkIndex", desc := "(I[B)V" } : Jvm.MethodName) jdk_52_method_91_code (2 : Nat) (Option.none : Option Jvm.ClassFile.FieldType)).before args0 about1 = true := code_word (m := ⟨14, 13⟩) (meth := k14m13) (c := k14c13) (by decide +kernel) rfl rfl rfl (by decide +kernel)
set_option maxRecDepth 65536 in
theorem w_c52 : (Jvm.Cond.code ({ cls := "java/lang/StringUTF16", name := "length", desc := "([B)I" } : Jvm.MethodName) jdk_52_method_6_code (1 : Nat) (Option.some Jvm.ClassFile.FieldType.int)).before args0 about1 = true := code_word (m := ⟨14, 5⟩) (meth := k14m5) (c := k14c5) (by decide +kernel) rfl rfl rfl (by decide +kernel)
set_option maxRecDepth 65536 in
theorem w_c53 : (Jvm.Cond.code ({ cls := "java/lang/AbstractStringBuilder", name := "inflate", desc := "()V" } : Jvm.MethodName) jdk_68_method_11_code (2 : Nat) (Option.none : Option Jvm.ClassFile.FieldType)).before args0 about1 = true := code_word (m := ⟨10, 5⟩) (meth := k10m5) (c := k10c5) (by decide +kernel) rfl rfl rfl (by decide +kernel)
set_option maxRecDepth 65536 in
theorem w_c54 : (Jvm.Cond.code ({ cls := "java/lang/StringLatin1", name := "inflate", desc := "([BI[BII)V" } : Jvm.MethodName) jdk_43_method_50_code (5 : Nat) (Option.none : Option Jvm.ClassFile.FieldType)).before args0 about1 = true := code_word (m := ⟨15, 3⟩) (meth := k15m3) (c := k15c3) (by decide +kernel) rfl rfl rfl (by decide +kernel)
set_option maxRecDepth 65536 in
theorem w_c55 : (Jvm.Cond.code ({ cls := "java/lang/StringUTF16", name := "inflate", desc := "([BI[BII)V" } : Jvm.MethodName) jdk_52_method_86_code (6 : Nat) (Option.none : Option Jvm.ClassFile.FieldType)).before args0 about1 = true := code_word (m := ⟨14, 12⟩) (meth := k14m12) (c := k14c12) (by decide +kernel) rfl rfl rfl (by decide +kernel)
set_option maxRecDepth 65536 in
theorem w_c56 : (Jvm.Cond.code ({ cls := "java/lang/StringUTF16", name := "checkBoundsOffCount", desc := "(II[B)V" } : Jvm.MethodName) jdk_52_method_94_code (3 : Nat) (Option.none : Option Jvm.ClassFile.FieldType)).before args0 about1 = true := code_word (m := ⟨14, 14⟩) (meth := k14m14) (c := k14c14) (by decide +kernel) rfl rfl rfl (by decide +kernel)
set_option maxRecDepth 65536 in
theorem w_c57 : (Jvm.Cond.code ({ cls := "java/lang/String", name := "checkBoundsOffCount", desc := "(III)I" } : Jvm.MethodName) jdk_42_method_157_code (3 : Nat) (Option.some Jvm.ClassFile.FieldType.int)).before args0 about1 = true := code_word (m := ⟨7, 11⟩) (meth := k7m11) (c := k7c11) (by decide +kernel) rfl rfl rfl (by decide +kernel)
set_option maxRecDepth 65536 in
theorem w_c58 : (Jvm.Cond.code ({ cls := "jdk/internal/util/Preconditions", name := "checkFromIndexSize", desc := "(IIILjava/util/function/BiFunction;)I" } : Jvm.MethodName) jdk_41_method_13_code (4 : Nat) (Option.some Jvm.ClassFile.FieldType.int)).before args0 about1 = true := code_word (m := ⟨16, 2⟩) (meth := k16m2) (c := k16c2) (by decide +kernel) rfl rfl rfl (by decide +kernel)
set_option maxRecDepth 65536 in
theorem w_c59 : (Jvm.Cond.code ({ cls := "java/lang/StringUTF16", name := "putCharSB", desc := "([BII)V" } : Jvm.MethodName) jdk_52_method_71_code (3 : Nat) (Option.none : Option Jvm.ClassFile.FieldType)).before args0 about1 = true := code_word (m := ⟨14, 10⟩) (meth := k14m10) (c := k14c10) (by decide +kernel) rfl rfl rfl (by decide +kernel)
def codes1 : List Jvm.Cond := [Jvm.Cond.code x code maxLocals ret, Jvm.Cond.code ({ cls := "com/example/twice_to_once/twicetoonce/cli/RecordLinesFieldPinLaw", name := "draw", desc := "(I)C" } : Jvm.MethodName) method_2_code (2 : Nat) (Option.some Jvm.ClassFile.FieldType.char), Jvm.Cond.code ({ cls := "java/lang/String", name := "<init>", desc := "([C)V" } : Jvm.MethodName) jdk_42_method_3_code (2 : Nat) (Option.none : Option Jvm.ClassFile.FieldType), Jvm.Cond.code ({ cls := "java/lang/String", name := "<init>", desc := "([CIILjava/lang/Void;)V" } : Jvm.MethodName) jdk_42_method_149_code (6 : Nat) (Option.none : Option Jvm.ClassFile.FieldType), Jvm.Cond.code ({ cls := "java/lang/Object", name := "<init>", desc := "()V" } : Jvm.MethodName) object_method_1_code (1 : Nat) (Option.none : Option Jvm.ClassFile.FieldType), Jvm.Cond.code ({ cls := "com/example/twice_to_once/twicetoonce/cli/RecordLines", name := "field", desc := "(Ljava/lang/String;)Ljava/lang/String;" } : Jvm.MethodName) prog_1_method_4_code (4 : Nat) (Option.some (Jvm.ClassFile.FieldType.object "java/lang/String")), Jvm.Cond.code ({ cls := "java/lang/String", name := "length", desc := "()I" } : Jvm.MethodName) jdk_42_method_54_code (1 : Nat) (Option.some Jvm.ClassFile.FieldType.int), Jvm.Cond.code ({ cls := "java/lang/String", name := "coder", desc := "()B" } : Jvm.MethodName) jdk_42_method_152_code (1 : Nat) (Option.some Jvm.ClassFile.FieldType.byte), Jvm.Cond.code ({ cls := "java/lang/StringBuilder", name := "<init>", desc := "(I)V" } : Jvm.MethodName) jdk_67_method_2_code (2 : Nat) (Option.none : Option Jvm.ClassFile.FieldType), Jvm.Cond.code ({ cls := "java/lang/AbstractStringBuilder", name := "<init>", desc := "(I)V" } : Jvm.MethodName) jdk_68_method_2_code (2 : Nat) (Option.none : Option Jvm.ClassFile.FieldType), Jvm.Cond.code ({ cls := "java/lang/StringBuilder", name := "toString", desc := "()Ljava/lang/String;" } : Jvm.MethodName) jdk_67_method_42_code (1 : Nat) (Option.some (Jvm.ClassFile.FieldType.object "java/lang/String")), Jvm.Cond.code ({ cls := "java/lang/String", name := "<init>", desc := "(Ljava/lang/StringBuilder;)V" } : Jvm.MethodName) jdk_42_method_53_code (2 : Nat) (Option.none : Option Jvm.ClassFile.FieldType), Jvm.Cond.code ({ cls := "java/lang/String", name := "<init>", desc := "(Ljava/lang/AbstractStringBuilder;Ljava/lang/Void;)V" } : Jvm.MethodName) jdk_42_method_150_code (5 : Nat) (Option.none : Option Jvm.ClassFile.FieldType), Jvm.Cond.code ({ cls := "java/lang/AbstractStringBuilder", name := "getValue", desc := "()[B" } : Jvm.MethodName) jdk_68_method_64_code (1 : Nat) (Option.some (Jvm.ClassFile.FieldType.array Jvm.ClassFile.FieldType.byte)), Jvm.Cond.code ({ cls := "java/lang/StringBuilder", name := "length", desc := "()I" } : Jvm.MethodName) jdk_67_method_93_code (1 : Nat) (Option.some Jvm.ClassFile.FieldType.int), Jvm.Cond.code ({ cls := "java/lang/AbstractStringBuilder", name := "length", desc := "()I" } : Jvm.MethodName) jdk_68_method_6_code (1 : Nat) (Option.some Jvm.ClassFile.FieldType.int), Jvm.Cond.code ({ cls := "java/lang/AbstractStringBuilder", name := "isLatin1", desc := "()Z" } : Jvm.MethodName) jdk_68_method_68_code (1 : Nat) (Option.some Jvm.ClassFile.FieldType.boolean), Jvm.Cond.code ({ cls := "java/util/Arrays", name := "copyOfRange", desc := "([BII)[B" } : Jvm.MethodName) jdk_65_method_132_code (3 : Nat) (Option.some (Jvm.ClassFile.FieldType.array Jvm.ClassFile.FieldType.byte)), Jvm.Cond.code ({ cls := "com/example/twice_to_once/twicetoonce/cli/RecordLinesFieldPinLaw", name := "at", desc := "(Ljava/lang/String;[CII)Z" } : Jvm.MethodName) method_5_code (4 : Nat) (Option.some Jvm.ClassFile.FieldType.boolean), Jvm.Cond.code ({ cls := "java/lang/StringUTF16", name := "compress", desc := "([CII)[B" } : Jvm.MethodName) jdk_52_method_16_code (6 : Nat) (Option.some (Jvm.ClassFile.FieldType.array Jvm.ClassFile.FieldType.byte)), Jvm.Cond.code ({ cls := "java/lang/StringUTF16", name := "compress", desc := "([CI[BII)I" } : Jvm.MethodName) jdk_52_method_21_code (7 : Nat) (Option.some Jvm.ClassFile.FieldType.int), Jvm.Cond.code ({ cls := "java/lang/StringUTF16", name := "coderFromArrayLen", desc := "([BI)B" } : Jvm.MethodName) jdk_52_method_15_code (2 : Nat) (Option.some Jvm.ClassFile.FieldType.byte), Jvm.Cond.code ({ cls := "com/example/twice_to_once/twicetoonce/cli/RecordLinesFieldPinLaw", name := "put", desc := "([CIC)I" } : Jvm.MethodName) method_4_code (4 : Nat) (Option.some Jvm.ClassFile.FieldType.int), Jvm.Cond.code ({ cls := "com/example/twice_to_once/twicetoonce/cli/RecordLinesFieldPinLaw", name := "escOf", desc := "(C)C" } : Jvm.MethodName) method_3_code (1 : Nat) (Option.some Jvm.ClassFile.FieldType.char), Jvm.Cond.code ({ cls := "java/lang/String", name := "charAt", desc := "(I)C" } : Jvm.MethodName) jdk_42_method_56_code (2 : Nat) (Option.some Jvm.ClassFile.FieldType.char), Jvm.Cond.code ({ cls := "java/lang/String", name := "isLatin1", desc := "()Z" } : Jvm.MethodName) jdk_42_method_154_code (1 : Nat) (Option.some Jvm.ClassFile.FieldType.boolean), Jvm.Cond.code ({ cls := "java/lang/StringLatin1", name := "charAt", desc := "([BI)C" } : Jvm.MethodName) jdk_43_method_2_code (2 : Nat) (Option.some Jvm.ClassFile.FieldType.char), Jvm.Cond.code ({ cls := "java/lang/String", name := "checkIndex", desc := "(II)V" } : Jvm.MethodName) jdk_42_method_155_code (2 : Nat) (Option.none : Option Jvm.ClassFile.FieldType), Jvm.Cond.code ({ cls := "jdk/internal/util/Preconditions", name := "checkIndex", desc := "(IILjava/util/function/BiFunction;)I" } : Jvm.MethodName) jdk_41_method_11_code (3 : Nat) (Option.some Jvm.ClassFile.FieldType.int), Jvm.Cond.code ({ cls := "java/lang/StringBuilder", name := "append", desc := "(C)Ljava/lang/StringBuilder;" } : Jvm.MethodName) jdk_67_method_14_code (2 : Nat) (Option.some (Jvm.ClassFile.FieldType.object "java/lang/StringBuilder")), Jvm.Cond.code ({ cls := "java/lang/AbstractStringBuilder", name := "append", desc := "(C)Ljava/lang/AbstractStringBuilder;" } : Jvm.MethodName) jdk_68_method_31_code (2 : Nat) (Option.some (Jvm.ClassFile.FieldType.object "java/lang/AbstractStringBuilder")), Jvm.Cond.code ({ cls := "java/lang/AbstractStringBuilder", name := "ensureCapacityInternal", desc := "(I)V" } : Jvm.MethodName) jdk_68_method_9_code (3 : Nat) (Option.none : Option Jvm.ClassFile.FieldType), Jvm.Cond.code ({ cls := "java/lang/StringLatin1", name := "canEncode", desc := "(C)Z" } : Jvm.MethodName) jdk_43_method_3_code (1 : Nat) (Option.some Jvm.ClassFile.FieldType.boolean), Jvm.Cond.code ({ cls := "java/lang/StringBuilder", name := "append", desc := "(Ljava/lang/String;)Ljava/lang/StringBuilder;" } : Jvm.MethodName) jdk_67_method_7_code (2 : Nat) (Option.some (Jvm.ClassFile.FieldType.object "java/lang/StringBuilder")), Jvm.Cond.code ({ cls := "java/lang/AbstractStringBuilder", name := "append", desc := "(Ljava/lang/String;)Ljava/lang/AbstractStringBuilder;" } : Jvm.MethodName) jdk_68_method_22_code (3 : Nat) (Option.some (Jvm.ClassFile.FieldType.object "java/lang/AbstractStringBuilder")), Jvm.Cond.code ({ cls := "java/lang/AbstractStringBuilder", name := "putStringAt", desc := "(ILjava/lang/String;)V" } : Jvm.MethodName) jdk_68_method_73_code (3 : Nat) (Option.none : Option Jvm.ClassFile.FieldType), Jvm.Cond.code ({ cls := "java/lang/AbstractStringBuilder", name := "inflateIfNeededFor", desc := "(Ljava/lang/String;)V" } : Jvm.MethodName) jdk_68_method_71_code (2 : Nat) (Option.none : Option Jvm.ClassFile.FieldType), Jvm.Cond.code ({ cls := "java/lang/String", name := "getBytes", desc := "([BIB)V" } : Jvm.MethodName) jdk_42_method_147_code (4 : Nat) (Option.none : Option Jvm.ClassFile.FieldType), Jvm.Cond.code ({ cls := "java/lang/AbstractStringBuilder", name := "newCapacity", desc := "(I)I" } : Jvm.MethodName) jdk_68_method_10_code (6 : Nat) (Option.some Jvm.ClassFile.FieldType.int), Jvm.Cond.code ({ cls := "jdk/internal/util/ArraysSupport", name := "newLength", desc := "(III)I" } : Jvm.MethodName) jdk_48_method_27_code (4 : Nat) (Option.some Jvm.ClassFile.FieldType.int), Jvm.Cond.code ({ cls := "java/lang/Math", name := "max", desc := "(II)I" } : Jvm.MethodName) jdk_29_method_65_code (2 : Nat) (Option.some Jvm.ClassFile.FieldType.int), Jvm.Cond.code ({ cls := "java/util/Arrays", name := "copyOf", desc := "([BI)[B" } : Jvm.MethodName) jdk_65_method_121_code (3 : Nat) (Option.some (Jvm.ClassFile.FieldType.array Jvm.ClassFile.FieldType.byte)), Jvm.Cond.code ({ cls := "java/lang/Math", name := "min", desc := "(II)I" } : Jvm.MethodName) jdk_29_method_69_code (2 : Nat) (Option.some Jvm.ClassFile.FieldType.int), Jvm.Cond.code ({ cls := "java/util/Arrays", name := "copyOfRangeByte", desc := "([BII)[B" } : Jvm.MethodName) jdk_65_method_133_code (5 : Nat) (Option.some (Jvm.ClassFile.FieldType.array Jvm.ClassFile.FieldType.byte)), Jvm.Cond.code ({ cls := "java/util/Arrays", name := "checkLength", desc := "(II)V" } : Jvm.MethodName) jdk_65_method_131_code (2 : Nat) (Option.none : Option Jvm.ClassFile.FieldType), Jvm.Cond.code ({ cls := "java/lang/StringUTF16", name := "toBytes", desc := "([CII)[B" } : Jvm.MethodName) jdk_52_method_14_code (5 : Nat) (Option.some (Jvm.ClassFile.FieldType.array Jvm.ClassFile.FieldType.byte)), Jvm.Cond.code ({ cls := "java/lang/StringUTF16", name := "newBytesFor", desc := "(I)[B" } : Jvm.MethodName) jdk_52_method_2_code (1 : Nat) (Option.some (Jvm.ClassFile.FieldType.array Jvm.ClassFile.FieldType.byte)), Jvm.Cond.code ({ cls := "java/lang/StringUTF16", name := "newBytesLength", desc := "(I)I" } : Jvm.MethodName) jdk_52_method_3_code (1 : Nat) (Option.some Jvm.ClassFile.FieldType.int), Jvm.Cond.code ({ cls := "java/lang/StringUTF16", name := "putChar", desc := "([BII)V" } : Jvm.MethodName) jdk_52_method_4_code (3 : Nat) (Option.none : Option Jvm.ClassFile.FieldType), Jvm.Cond.code ({ cls := "java/lang/StringUTF16", name := "getChar", desc := "([BI)C" } : Jvm.MethodName) jdk_52_method_5_code (2 : Nat) (Option.some Jvm.ClassFile.FieldType.char), Jvm.Cond.code ({ cls := "java/lang/StringUTF16", name := "charAt", desc := "([BI)C" } : Jvm.MethodName) jdk_52_method_83_code (2 : Nat) (Option.some Jvm.ClassFile.FieldType.char), Jvm.Cond.code ({ cls := "java/lang/StringUTF16", name := "checkIndex", desc := "(I[B)V" } : Jvm.MethodName) jdk_52_method_91_code (2 : Nat) (Option.none : Option Jvm.ClassFile.FieldType), Jvm.Cond.code ({ cls := "java/lang/StringUTF16", name := "length", desc := "([B)I" } : Jvm.MethodName) jdk_52_method_6_code (1 : Nat) (Option.some Jvm.ClassFile.FieldType.int), Jvm.Cond.code ({ cls := "java/lang/AbstractStringBuilder", name := "inflate", desc := "()V" } : Jvm.MethodName) jdk_68_method_11_code (2 : Nat) (Option.none : Option Jvm.ClassFile.FieldType), Jvm.Cond.code ({ cls := "java/lang/StringLatin1", name := "inflate", desc := "([BI[BII)V" } : Jvm.MethodName) jdk_43_method_50_code (5 : Nat) (Option.none : Option Jvm.ClassFile.FieldType), Jvm.Cond.code ({ cls := "java/lang/StringUTF16", name := "inflate", desc := "([BI[BII)V" } : Jvm.MethodName) jdk_52_method_86_code (6 : Nat) (Option.none : Option Jvm.ClassFile.FieldType), Jvm.Cond.code ({ cls := "java/lang/StringUTF16", name := "checkBoundsOffCount", desc := "(II[B)V" } : Jvm.MethodName) jdk_52_method_94_code (3 : Nat) (Option.none : Option Jvm.ClassFile.FieldType), Jvm.Cond.code ({ cls := "java/lang/String", name := "checkBoundsOffCount", desc := "(III)I" } : Jvm.MethodName) jdk_42_method_157_code (3 : Nat) (Option.some Jvm.ClassFile.FieldType.int), Jvm.Cond.code ({ cls := "jdk/internal/util/Preconditions", name := "checkFromIndexSize", desc := "(IIILjava/util/function/BiFunction;)I" } : Jvm.MethodName) jdk_41_method_13_code (4 : Nat) (Option.some Jvm.ClassFile.FieldType.int), Jvm.Cond.code ({ cls := "java/lang/StringUTF16", name := "putCharSB", desc := "([BII)V" } : Jvm.MethodName) jdk_52_method_71_code (3 : Nat) (Option.none : Option Jvm.ClassFile.FieldType)]
set_option maxRecDepth 65536 in
theorem codes_eq : words1.filter isCode = codes1 := rfl
theorem w_codes : ∀ c ∈ words1.filter isCode, c.before args0 about1 = true := by
  rw [codes_eq]
  intro c hc
  simp only [codes1, List.mem_cons, List.not_mem_nil, or_false] at hc
  rcases hc with rfl | rfl | rfl | rfl | rfl | rfl | rfl | rfl | rfl | rfl | rfl | rfl | rfl | rfl | rfl | rfl | rfl | rfl | rfl | rfl | rfl | rfl | rfl | rfl | rfl | rfl | rfl | rfl | rfl | rfl | rfl | rfl | rfl | rfl | rfl | rfl | rfl | rfl | rfl | rfl | rfl | rfl | rfl | rfl | rfl | rfl | rfl | rfl | rfl | rfl | rfl | rfl | rfl | rfl | rfl | rfl | rfl | rfl | rfl | rfl
  · exact w_c0
  · exact w_c1
  · exact w_c2
  · exact w_c3
  · exact w_c4
  · exact w_c5
  · exact w_c6
  · exact w_c7
  · exact w_c8
  · exact w_c9
  · exact w_c10
  · exact w_c11
  · exact w_c12
  · exact w_c13
  · exact w_c14
  · exact w_c15
  · exact w_c16
  · exact w_c17
  · exact w_c18
  · exact w_c19
  · exact w_c20
  · exact w_c21
  · exact w_c22
  · exact w_c23
  · exact w_c24
  · exact w_c25
  · exact w_c26
  · exact w_c27
  · exact w_c28
  · exact w_c29
  · exact w_c30
  · exact w_c31
  · exact w_c32
  · exact w_c33
  · exact w_c34
  · exact w_c35
  · exact w_c36
  · exact w_c37
  · exact w_c38
  · exact w_c39
  · exact w_c40
  · exact w_c41
  · exact w_c42
  · exact w_c43
  · exact w_c44
  · exact w_c45
  · exact w_c46
  · exact w_c47
  · exact w_c48
  · exact w_c49
  · exact w_c50
  · exact w_c51
  · exact w_c52
  · exact w_c53
  · exact w_c54
  · exact w_c55
  · exact w_c56
  · exact w_c57
  · exact w_c58
  · exact w_c59
set_option maxRecDepth 65536 in
theorem w_t1 : (words1.take 24).all (fun c => isCode c || c.before args0 about1) = true := by decide +kernel
set_option maxRecDepth 65536 in
theorem w_t2 : ((words1.drop 24).take 24).all (fun c => isCode c || c.before args0 about1) = true := by decide +kernel
set_option maxRecDepth 65536 in
theorem w_t3 : (((words1.drop 24).drop 24).take 24).all (fun c => isCode c || c.before args0 about1) = true := by decide +kernel
set_option maxRecDepth 65536 in
theorem w_t4 : ((((words1.drop 24).drop 24).drop 24).take 24).all (fun c => isCode c || c.before args0 about1) = true := by decide +kernel
set_option maxRecDepth 65536 in
theorem w_t5 : (((((words1.drop 24).drop 24).drop 24).drop 24).take 24).all (fun c => isCode c || c.before args0 about1) = true := by decide +kernel
set_option maxRecDepth 65536 in
theorem w_t6 : ((((((words1.drop 24).drop 24).drop 24).drop 24).drop 24).take 24).all (fun c => isCode c || c.before args0 about1) = true := by decide +kernel
set_option maxRecDepth 65536 in
theorem w_t7 : (((((((words1.drop 24).drop 24).drop 24).drop 24).drop 24).drop 24).take 24).all (fun c => isCode c || c.before args0 about1) = true := by decide +kernel
set_option maxRecDepth 65536 in
theorem w_t8 : ((((((((words1.drop 24).drop 24).drop 24).drop 24).drop 24).drop 24).drop 24).take 24).all (fun c => isCode c || c.before args0 about1) = true := by decide +kernel
set_option maxRecDepth 65536 in
theorem w_t9 : (((((((((words1.drop 24).drop 24).drop 24).drop 24).drop 24).drop 24).drop 24).drop 24).take 24).all (fun c => isCode c || c.before args0 about1) = true := by decide +kernel
set_option maxRecDepth 65536 in
theorem w_t10 : ((((((((((words1.drop 24).drop 24).drop 24).drop 24).drop 24).drop 24).drop 24).drop 24).drop 24).take 24).all (fun c => isCode c || c.before args0 about1) = true := by decide +kernel
set_option maxRecDepth 65536 in
theorem w_t11 : (((((((((((words1.drop 24).drop 24).drop 24).drop 24).drop 24).drop 24).drop 24).drop 24).drop 24).drop 24).take 24).all (fun c => isCode c || c.before args0 about1) = true := by decide +kernel
set_option maxRecDepth 65536 in
theorem w_t12 : (((((((((((words1.drop 24).drop 24).drop 24).drop 24).drop 24).drop 24).drop 24).drop 24).drop 24).drop 24).drop 24).all (fun c => isCode c || c.before args0 about1) = true := by decide +kernel
theorem w_tables : (allAtoms (Jvm.Cond.code x code maxLocals ret :: tables_1)).before args0 about1 = true := by
  rw [allAtoms_all]
  show words1.all (fun c => c.before args0 about1) = true
  refine all_split ?_ w_codes
  rw [← List.take_append_drop 24 words1, List.all_append, w_t1, ← List.take_append_drop 24 (words1.drop 24), List.all_append, w_t2, ← List.take_append_drop 24 ((words1.drop 24).drop 24), List.all_append, w_t3, ← List.take_append_drop 24 (((words1.drop 24).drop 24).drop 24), List.all_append, w_t4, ← List.take_append_drop 24 ((((words1.drop 24).drop 24).drop 24).drop 24), List.all_append, w_t5, ← List.take_append_drop 24 (((((words1.drop 24).drop 24).drop 24).drop 24).drop 24), List.all_append, w_t6, ← List.take_append_drop 24 ((((((words1.drop 24).drop 24).drop 24).drop 24).drop 24).drop 24), List.all_append, w_t7, ← List.take_append_drop 24 (((((((words1.drop 24).drop 24).drop 24).drop 24).drop 24).drop 24).drop 24), List.all_append, w_t8, ← List.take_append_drop 24 ((((((((words1.drop 24).drop 24).drop 24).drop 24).drop 24).drop 24).drop 24).drop 24), List.all_append, w_t9, ← List.take_append_drop 24 (((((((((words1.drop 24).drop 24).drop 24).drop 24).drop 24).drop 24).drop 24).drop 24).drop 24), List.all_append, w_t10, ← List.take_append_drop 24 ((((((((((words1.drop 24).drop 24).drop 24).drop 24).drop 24).drop 24).drop 24).drop 24).drop 24).drop 24), List.all_append, w_t11, w_t12]
  rfl
set_option maxRecDepth 65536 in
theorem w_rest : rest_1_c.before args0 about1 = true := by decide +kernel
set_option maxRecDepth 65536 in
theorem w_case : (Jvm.Cond.and given_1 narrow_1).before args0 about1 = true := by decide +kernel
set_option maxRecDepth 65536 in
theorem w_consts : constsHeld consts_1 about1 := Jvm.Lit.constsHeldB_iff.mp (by decide +kernel)
theorem w_applies : (headSpec (Jvm.Cond.code x code maxLocals ret :: tables_1) room_1).applies x e0.platform about1 = true :=
  (Spec.applies_iff w_frames).mpr ⟨w_running, w_runnable, w_alone, w_named, w_hears, w_ripe, w_room, w_tables⟩
theorem atStart : AtStart classFile x code maxLocals ret World_1 tables_1 room_1 Calls_1 rest_1 Pre_1 launch0 p0 e0 about1 theMethod args0 below0 :=
  ⟨lists_1, trivial, launch0.admits_env _ _ _, launch0.least_env, fairChoices_fair.cas, fairChoices_fair.clock, w_frames, w_args, w_heap, w_applies, ⟨w_consts, trivial⟩, w_rest, w_case⟩
end start1
theorem witness_1 : WitnessClaimed_1 := ⟨start1.p0, start1.e0, start1.about1, start1.theMethod, start1.args0, start1.below0, start1.atStart⟩
end Jvm.Pilot.@@N@@
