import JvmDerived
import JvmDerived.Pilot.@@N@@Statement
import JvmDerived.Pilot.@@N@@Code
set_option linter.unusedVariables false
set_option linter.unusedSimpArgs false
namespace Jvm.Own
open Sem ClassFile Op Lib
/-- what is known of the frames below (here: nothing is asked) -/
def Kn (_ : Vm) (_ : List Frame) : Prop := True
theorem Kn.alike {vm vm' : Vm} {fs : List Frame} (_ : Kn vm fs) (_ : vm.Alike vm') : Kn vm' fs := trivial
theorem Kn.push {vm : Vm} {fs : List Frame} (_ : Kn vm fs) {g : JFrame} {meth : Method} (_ : vm.method? g.method = some meth) : Kn vm (.java g :: fs) := trivial
end Jvm.Own
namespace Jvm.RoadKit
theorem Keep.mono {h h' : Heap} {ws ws' : List Addr} (K : Keep h h' ws) (q : ∀ x ∈ ws, x ∈ ws') : Keep h h' ws' := ⟨K.1, fun x c h1 h2 => K.2.1 x c h1 fun z => h2 (q x z), K.2.2⟩
end Jvm.RoadKit
namespace Jvm.Own
open Sem ClassFile Op Lib Jvm.Stand Jvm.Free Jvm.LawKit Jvm.RoadKit
/-! A walk in continuation form, over the library's Stand, RoadKit and the cold laws (RW10): 'Run' says: from here the invocation ends as Q says. -/
abbrev Lits := Option (List (String × Addr))
/-- the intern table: the start's pairs, and pairs whose text and place are among Ls (none: nothing is said) -/
def Itn (Z : State) (vm : Vm) (Ls : Lits) : Prop := ∀ lt, Ls = some lt → ∃ more : Array (Array UInt16 × Addr), vm.interned = Z.vm.interned ++ more ∧ ∀ q ∈ more, ∃ t ∈ lt, utf16ToString? q.1 = some t.1 ∧ q.2 = t.2
theorem Itn.start (Z : State) : Itn Z Z.vm (some []) := fun lt hl => ⟨#[], by simp, fun q hq => by simp at hq⟩
theorem Itn.nothing (Z : State) (vm : Vm) : Itn Z vm none := fun lt hl => nomatch hl
theorem Itn.eq {Z : State} {vm vm' : Vm} {Ls : Lits} (I : Itn Z vm Ls) (h : vm'.interned = vm.interned) : Itn Z vm' Ls := fun lt hl => by
  obtain ⟨more, h1, h2⟩ := I lt hl
  exact ⟨more, h.trans h1, h2⟩
def Done (Z : State) (n0 : Nat) (R : Room) (s : State) (Q : Option Value → Heap → Lits → Prop) (o : Outcome) (u : State) : Prop :=
  ∃ (v : Option Value) (L : List Loc) (Ls : Lits), o = .returned v ∧ Q v u.heap Ls ∧ Old Z n0 u.heap ∧ Itn Z u.vm Ls ∧ Fr n0 L ∧ ReturnedEndW s o u L R.cells R.slots
def WS (Z : State) (n0 : Nat) (p : Program) (l : Launch) (e : Env) (R : Room) (s : State) (own : String) (m : MethodId) (args : Array Value) (below : List Frame) (meth : Method) (c : Code) (h : Heap) (k n : Nat) (Ls : Lits) (T : State) : Prop :=
  ∃ (vm0 : Vm) (locs : List Loc) (k0 : Nat), Stand p l e R (s.setVm vm0) m args below meth c T locs k n ∧ T.heap = h ∧ s.Since vm0 k0 ∧ k0 ≤ h.size ∧ Z.Warmed39 (s.setVm vm0).vm ∧ (s.setVm vm0).vm.findClass own = some m.cls ∧ Fr n0 locs ∧ Old Z n0 h ∧ Itn Z vm0 Ls ∧ Kn s.vm below
def Run (Z : State) (n0 : Nat) (p : Program) (l : Launch) (e : Env) (R : Room) (s : State) (own : String) (m : MethodId) (args : Array Value) (below : List Frame) (meth : Method) (c : Code) (Q : Option Value → Heap → Lits → Prop) (h : Heap) (k n : Nat) (Ls : Lits) (pc : Nat) (L : List Slot) (st : List Value) : Prop :=
  ∀ T, WS Z n0 p l e R s own m args below meth c h k n Ls T → ∃ u o, Steps p.tables e below (T.setTop (mkF m pc L.toArray st)) u ∧ u.status = .running ∧ Ended u below o ∧ Done Z n0 R s Q o u
/-- what the method is -/
def Fx (p : Program) (c : Code) (meth : Method) (bytes : ByteArray) (ml : Nat) (ret : Option FieldType) (nm : String) : Prop :=
  p.tables.exec = Jvm.exec ∧ c.code = bytes ∧ c.maxLocals = ml ∧ meth.sig.returnType = ret ∧ meth.locks = false ∧ meth.name = nm
abbrev Dc (bytes : ByteArray) (pc : Nat) (i : Instr) (len nx : Nat) : Prop := decode bytes pc = .ok (i, len) ∧ pc + len = nx
abbrev RV (Q : Value → Heap → Lits → Prop) : Option Value → Heap → Lits → Prop := fun v h Ls => ∃ w, v = some w ∧ Q w h Ls
abbrev RN (Q : Heap → Lits → Prop) : Option Value → Heap → Lits → Prop := fun v h Ls => v = none ∧ Q h Ls
def Con (l : Launch) (Z : State) (n0 : Nat) (y : MethodName) (bytes : ByteArray) (ml : Nat) (ret : Option FieldType) (rm : Room) (as : List Value) (h : Heap) (Ls : Lits) (ws : List Cond) (Q : Option Value → Heap → Lits → Prop) : Prop :=
  MetFree l y (head1 (Cond.code y bytes ml ret :: ws) rm) (fun a U => a = as.toArray ∧ Z.Warmed39 U.vm ∧ U.heap = h ∧ Itn Z U.vm Ls) (fun _ _ below U _ => Kn U.vm below) (fun _ U o U' => Done Z n0 rm U Q o U')
def okSlot : Slot → Bool
  | .unset => true
  | .val v => v.category == 1
  | _ => false
theorem okSlot.one {o : Slot} (h : okSlot o = true) : o = .unset ∨ ∃ w, o = .val w ∧ w.category = 1 := by
  cases o with
  | unset => exact Or.inl rfl
  | val v => exact Or.inr ⟨v, rfl, by simpa [okSlot] using h⟩
  | second => simp [okSlot] at h
section Laws
variable {Z : State} {n0 : Nat} {p : Program} {l : Launch} {e : Env} {R : Room} {s : State} {own : String} {m : MethodId} {args : Array Value} {below : List Frame} {meth : Method} {c : Code} {Q : Option Value → Heap → Lits → Prop} {h : Heap} {k n : Nat} {Ls : Lits} {pc nx : Nat} {L : List Slot} {st : List Value}
variable {bytes : ByteArray} {ml : Nat} {ret : Option FieldType} {nm : String} {a0 : Array Value}
theorem Con.of_run {y : MethodName} {rm : Room} {as : List Value} {ws : List Cond} (hpl : plainFor y = true) (hO : Old Z n0 h)
    (body : ∀ (p : Program) (e : Env) (s : State) (m : MethodId) (below : List Frame) (meth : Method) (c : Code), Fx p c meth bytes ml ret y.name → s.heap = h → ∃ L0, entryFrame m as.toArray ml = mkF m 0 L0.toArray [] ∧ Run Z n0 p l e rm s y.cls m as.toArray below meth c Q h 0 0 Ls 0 L0 []) :
    Con l Z n0 y bytes ml ret rm as h Ls ws Q := by
  refine MetFree.of_bodySF hpl hisR ?_
  intro p e s m args below meth c s₁ Bd hml0 hP hK
  obtain ⟨rfl, hZ, hh, hI⟩ := hP
  have hnm := (name_of_methodNamed Bd.named Bd.method).1
  have X0 : Stand p l e rm s m as.toArray below meth c s₁ [] 0 0 := Stand.of_body Bd
  have e0 : s₁.heap = h := by rw [← hh, Bd.state]; rfl
  obtain ⟨L0, ef, hrun⟩ := body p e s m below meth c ⟨Bd.exec, Bd.bytes, hml0, Bd.returns, Bd.notSynchronized, hnm⟩ hh
  obtain ⟨u, o, st, r1, r2, r3⟩ := hrun s₁ ⟨s.vm, [], h.size, X0, e0, State.WarmedH.since (State.WarmedH.refl s) _, Nat.le_refl _, hZ, findClass_of_methodNamed Bd.named, Fr.nil n0, hO, hI, hK⟩
  exact ⟨u, o, castTop ef st, r1, r2, r3⟩
theorem Run.pure {pc' : Nat} {L' : List Slot} {st' : List Value} (H : ∀ T u, At T m c below → Steps p.tables e below (T.setTop (mkF m pc' L'.toArray st')) u → Steps p.tables e below (T.setTop (mkF m pc L.toArray st)) u)
    (K : Run Z n0 p l e R s own m args below meth c Q h k n Ls pc' L' st') : Run Z n0 p l e R s own m args below meth c Q h k n Ls pc L st := fun T W => by
  obtain ⟨u, o, a, r⟩ := K T W
  obtain ⟨vm0, locs, k0, X, -⟩ := W
  exact ⟨u, o, H T u X.here a, r⟩
theorem Run.still {pc' : Nat} {L' : List Slot} {st' : List Value} (H : ∀ T vm0 locs, Stand p l e R (s.setVm vm0) m args below meth c T locs k n → T.heap = h → Z.Warmed39 (s.setVm vm0).vm → (s.setVm vm0).vm.findClass own = some m.cls → ∀ u, Steps p.tables e below (T.setTop (mkF m pc' L'.toArray st')) u → Steps p.tables e below (T.setTop (mkF m pc L.toArray st)) u)
    (K : Run Z n0 p l e R s own m args below meth c Q h k n Ls pc' L' st') : Run Z n0 p l e R s own m args below meth c Q h k n Ls pc L st := fun T W => by
  obtain ⟨u, o, a, r⟩ := K T W
  obtain ⟨vm0, locs, k0, X, eT, -, -, hZ, hown, -⟩ := W
  exact ⟨u, o, H T vm0 locs X eT hZ hown u a, r⟩
theorem getL {L : List Slot} {i : Nat} {x : Slot} (h : L[i]? = some x) : L.toArray[i]? = some x := by simpa using h
theorem setL {L : List Slot} {i : Nat} {v : Value} (ho : (L[i]?.map okSlot) = some true) (hv : v.category = 1) : storeLocals L.toArray i v = some (L.set i (.val v)).toArray := by
  cases hq : L[i]? with
  | none => simp [hq] at ho
  | some o =>
    rw [XS.store1 (getL hq) (okSlot.one (by simpa [hq] using ho)) hv]
    simp
theorem hbD (F : Fx p c meth bytes ml ret nm) {i : Instr} {len : Nat} (d : Dc bytes pc i len nx) : decode c.code pc = .ok (i, len) := by rw [F.2.1]; exact d.1
/-! single steps -/
theorem Run.iloadN (F : Fx p c meth bytes ml ret nm) {i : Fin 4} {v : Int32} (d : Dc bytes pc (.iload_n i) 1 nx) (hl : L[i.val]? = some (.val (.int v)))
    (K : Run Z n0 p l e R s own m args below meth c Q h k n Ls nx L (.int v :: st)) : Run Z n0 p l e R s own m args below meth c Q h k n Ls pc L st := by
  have hd := hbD F d; obtain ⟨-, rfl⟩ := d
  exact Run.pure (fun T u hA s => XS.iloadN (g := mkF m pc L.toArray st) hA F.1 rfl hd (getL hl) s) K
theorem Run.iload (F : Fx p c meth bytes ml ret nm) {i : Nat} {v : Int32} (d : Dc bytes pc (.iload i) 2 nx) (hl : L[i]? = some (.val (.int v)))
    (K : Run Z n0 p l e R s own m args below meth c Q h k n Ls nx L (.int v :: st)) : Run Z n0 p l e R s own m args below meth c Q h k n Ls pc L st := by
  have hd := hbD F d; obtain ⟨-, rfl⟩ := d
  exact Run.pure (fun T u hA s => XS.iload (g := mkF m pc L.toArray st) hA F.1 rfl hd (getL hl) s) K
theorem Run.aloadN (F : Fx p c meth bytes ml ret nm) {i : Fin 4} {v : Value} (d : Dc bytes pc (.aload_n i) 1 nx) (hl : L[i.val]? = some (.val v)) (hv : v.isRef = true)
    (K : Run Z n0 p l e R s own m args below meth c Q h k n Ls nx L (v :: st)) : Run Z n0 p l e R s own m args below meth c Q h k n Ls pc L st := by
  have hd := hbD F d; obtain ⟨-, rfl⟩ := d
  exact Run.pure (fun T u hA s => XS.aloadN (g := mkF m pc L.toArray st) hA F.1 rfl hd (getL hl) hv s) K
theorem Run.aload (F : Fx p c meth bytes ml ret nm) {i : Nat} {v : Value} (d : Dc bytes pc (.aload i) 2 nx) (hl : L[i]? = some (.val v)) (hv : v.isRef = true)
    (K : Run Z n0 p l e R s own m args below meth c Q h k n Ls nx L (v :: st)) : Run Z n0 p l e R s own m args below meth c Q h k n Ls pc L st := by
  have hd := hbD F d; obtain ⟨-, rfl⟩ := d
  exact Run.pure (fun T u hA s => XS.aload (g := mkF m pc L.toArray st) hA F.1 rfl hd (getL hl) hv s) K
theorem Run.istoreN (F : Fx p c meth bytes ml ret nm) {i : Fin 4} {v : Int32} (d : Dc bytes pc (.istore_n i) 1 nx) (ho : (L[i.val]?.map okSlot) = some true)
    (K : Run Z n0 p l e R s own m args below meth c Q h k n Ls nx (L.set i.val (.val (.int v))) st) : Run Z n0 p l e R s own m args below meth c Q h k n Ls pc L (.int v :: st) := by
  have hd := hbD F d; obtain ⟨-, rfl⟩ := d
  exact Run.pure (fun T u hA s => XS.istoreN (g := mkF m pc L.toArray (.int v :: st)) hA F.1 rfl hd rfl (setL ho rfl) s) K
theorem Run.istore (F : Fx p c meth bytes ml ret nm) {i : Nat} {v : Int32} (d : Dc bytes pc (.istore i) 2 nx) (ho : (L[i]?.map okSlot) = some true)
    (K : Run Z n0 p l e R s own m args below meth c Q h k n Ls nx (L.set i (.val (.int v))) st) : Run Z n0 p l e R s own m args below meth c Q h k n Ls pc L (.int v :: st) := by
  have hd := hbD F d; obtain ⟨-, rfl⟩ := d
  exact Run.pure (fun T u hA s => XS.istore (g := mkF m pc L.toArray (.int v :: st)) hA F.1 rfl hd rfl (setL ho rfl) s) K
theorem cat_ref {v : Value} (hv : v.isRef = true) : v.category = 1 := by rcases ref_cases hv with rfl | ⟨a, rfl⟩ <;> rfl
theorem Run.astoreN (F : Fx p c meth bytes ml ret nm) {i : Fin 4} {v : Value} (d : Dc bytes pc (.astore_n i) 1 nx) (ho : (L[i.val]?.map okSlot) = some true) (hv : v.isRef = true)
    (K : Run Z n0 p l e R s own m args below meth c Q h k n Ls nx (L.set i.val (.val v)) st) : Run Z n0 p l e R s own m args below meth c Q h k n Ls pc L (v :: st) := by
  have hd := hbD F d; obtain ⟨-, rfl⟩ := d
  exact Run.pure (fun T u hA s => XS.astoreN (g := mkF m pc L.toArray (v :: st)) hA F.1 rfl hd rfl hv (setL ho (cat_ref hv)) s) K
theorem Run.astore (F : Fx p c meth bytes ml ret nm) {i : Nat} {v : Value} (d : Dc bytes pc (.astore i) 2 nx) (ho : (L[i]?.map okSlot) = some true) (hv : v.isRef = true)
    (K : Run Z n0 p l e R s own m args below meth c Q h k n Ls nx (L.set i (.val v)) st) : Run Z n0 p l e R s own m args below meth c Q h k n Ls pc L (v :: st) := by
  have hd := hbD F d; obtain ⟨-, rfl⟩ := d
  exact Run.pure (fun T u hA s => XS.astore (g := mkF m pc L.toArray (v :: st)) hA F.1 rfl hd rfl hv (setL ho (cat_ref hv)) s) K
theorem Run.iconst (F : Fx p c meth bytes ml ret nm) {i : Int} {z : Int32} (d : Dc bytes pc (.iconst i) 1 nx) (hz : Int32.ofInt i = z)
    (K : Run Z n0 p l e R s own m args below meth c Q h k n Ls nx L (.int z :: st)) : Run Z n0 p l e R s own m args below meth c Q h k n Ls pc L st := by
  have hd := hbD F d; obtain ⟨-, rfl⟩ := d; subst hz
  exact Run.pure (fun T u hA s => XS.iconst (g := mkF m pc L.toArray st) hA F.1 rfl hd s) K
theorem Run.bipush (F : Fx p c meth bytes ml ret nm) {i : Int} {z : Int32} (d : Dc bytes pc (.bipush i) 2 nx) (hz : (Int8.ofInt i).toInt32 = z)
    (K : Run Z n0 p l e R s own m args below meth c Q h k n Ls nx L (.int z :: st)) : Run Z n0 p l e R s own m args below meth c Q h k n Ls pc L st := by
  have hd := hbD F d; obtain ⟨-, rfl⟩ := d; subst hz
  exact Run.pure (fun T u hA s => XS.bipush (g := mkF m pc L.toArray st) hA F.1 rfl hd s) K
theorem Run.sipush (F : Fx p c meth bytes ml ret nm) {i : Int} {z : Int32} (d : Dc bytes pc (.sipush i) 3 nx) (hz : (Int16.ofInt i).toInt32 = z)
    (K : Run Z n0 p l e R s own m args below meth c Q h k n Ls nx L (.int z :: st)) : Run Z n0 p l e R s own m args below meth c Q h k n Ls pc L st := by
  have hd := hbD F d; obtain ⟨-, rfl⟩ := d; subst hz
  exact Run.pure (fun T u hA s => XS.sipush (g := mkF m pc L.toArray st) hA F.1 rfl hd s) K
theorem Run.aconstNull (F : Fx p c meth bytes ml ret nm) (d : Dc bytes pc .aconst_null 1 nx)
    (K : Run Z n0 p l e R s own m args below meth c Q h k n Ls nx L (.null :: st)) : Run Z n0 p l e R s own m args below meth c Q h k n Ls pc L st := by
  have hd := hbD F d; obtain ⟨-, rfl⟩ := d
  exact Run.pure (fun T u hA s => XS.aconstNull (g := mkF m pc L.toArray st) hA F.1 rfl hd s) K
theorem Run.iadd (F : Fx p c meth bytes ml ret nm) {x y : Int32} (d : Dc bytes pc .iadd 1 nx) (K : Run Z n0 p l e R s own m args below meth c Q h k n Ls nx L (.int (x + y) :: st)) : Run Z n0 p l e R s own m args below meth c Q h k n Ls pc L (.int y :: .int x :: st) := by
  have hd := hbD F d; obtain ⟨-, rfl⟩ := d
  exact Run.pure (fun T u hA s => XS.iadd (g := mkF m pc L.toArray (.int y :: .int x :: st)) hA F.1 rfl hd rfl s) K
theorem Run.isub (F : Fx p c meth bytes ml ret nm) {x y : Int32} (d : Dc bytes pc .isub 1 nx) (K : Run Z n0 p l e R s own m args below meth c Q h k n Ls nx L (.int (x - y) :: st)) : Run Z n0 p l e R s own m args below meth c Q h k n Ls pc L (.int y :: .int x :: st) := by
  have hd := hbD F d; obtain ⟨-, rfl⟩ := d
  exact Run.pure (fun T u hA s => XS.isub (g := mkF m pc L.toArray (.int y :: .int x :: st)) hA F.1 rfl hd rfl s) K
theorem Run.imul (F : Fx p c meth bytes ml ret nm) {x y : Int32} (d : Dc bytes pc .imul 1 nx) (K : Run Z n0 p l e R s own m args below meth c Q h k n Ls nx L (.int (x * y) :: st)) : Run Z n0 p l e R s own m args below meth c Q h k n Ls pc L (.int y :: .int x :: st) := by
  have hd := hbD F d; obtain ⟨-, rfl⟩ := d
  exact Run.pure (fun T u hA s => XS.imul (g := mkF m pc L.toArray (.int y :: .int x :: st)) hA F.1 rfl hd rfl s) K
theorem Run.iand (F : Fx p c meth bytes ml ret nm) {x y : Int32} (d : Dc bytes pc .iand 1 nx) (K : Run Z n0 p l e R s own m args below meth c Q h k n Ls nx L (.int (x &&& y) :: st)) : Run Z n0 p l e R s own m args below meth c Q h k n Ls pc L (.int y :: .int x :: st) := by
  have hd := hbD F d; obtain ⟨-, rfl⟩ := d
  exact Run.pure (fun T u hA s => XS.iand (g := mkF m pc L.toArray (.int y :: .int x :: st)) hA F.1 rfl hd rfl s) K
theorem Run.ior (F : Fx p c meth bytes ml ret nm) {x y : Int32} (d : Dc bytes pc .ior 1 nx) (K : Run Z n0 p l e R s own m args below meth c Q h k n Ls nx L (.int (x ||| y) :: st)) : Run Z n0 p l e R s own m args below meth c Q h k n Ls pc L (.int y :: .int x :: st) := by
  have hd := hbD F d; obtain ⟨-, rfl⟩ := d
  exact Run.pure (fun T u hA s => XT.ior (g := mkF m pc L.toArray (.int y :: .int x :: st)) hA F.1 rfl hd rfl s) K
theorem Run.ixor (F : Fx p c meth bytes ml ret nm) {x y : Int32} (d : Dc bytes pc .ixor 1 nx) (K : Run Z n0 p l e R s own m args below meth c Q h k n Ls nx L (.int (x ^^^ y) :: st)) : Run Z n0 p l e R s own m args below meth c Q h k n Ls pc L (.int y :: .int x :: st) := by
  have hd := hbD F d; obtain ⟨-, rfl⟩ := d
  exact Run.pure (fun T u hA s => XT.ixor (g := mkF m pc L.toArray (.int y :: .int x :: st)) hA F.1 rfl hd rfl s) K
theorem Run.ishr (F : Fx p c meth bytes ml ret nm) {x y : Int32} (d : Dc bytes pc .ishr 1 nx) (K : Run Z n0 p l e R s own m args below meth c Q h k n Ls nx L (.int (x >>> (y &&& 31)) :: st)) : Run Z n0 p l e R s own m args below meth c Q h k n Ls pc L (.int y :: .int x :: st) := by
  have hd := hbD F d; obtain ⟨-, rfl⟩ := d
  exact Run.pure (fun T u hA s => XT.ishr (g := mkF m pc L.toArray (.int y :: .int x :: st)) hA F.1 rfl hd rfl s) K
theorem Run.ishl (F : Fx p c meth bytes ml ret nm) {x y : Int32} (d : Dc bytes pc .ishl 1 nx) (K : Run Z n0 p l e R s own m args below meth c Q h k n Ls nx L (.int (x <<< (y &&& 31)) :: st)) : Run Z n0 p l e R s own m args below meth c Q h k n Ls pc L (.int y :: .int x :: st) := by
  have hd := hbD F d; obtain ⟨-, rfl⟩ := d
  exact Run.pure (fun T u hA s => XT.ishl (g := mkF m pc L.toArray (.int y :: .int x :: st)) hA F.1 rfl hd rfl s) K
theorem Run.iushr (F : Fx p c meth bytes ml ret nm) {x y : Int32} (d : Dc bytes pc .iushr 1 nx) (K : Run Z n0 p l e R s own m args below meth c Q h k n Ls nx L (.int (XT.ushr x y) :: st)) : Run Z n0 p l e R s own m args below meth c Q h k n Ls pc L (.int y :: .int x :: st) := by
  have hd := hbD F d; obtain ⟨-, rfl⟩ := d
  exact Run.pure (fun T u hA s => XT.iushr (g := mkF m pc L.toArray (.int y :: .int x :: st)) hA F.1 rfl hd rfl s) K
theorem Run.idiv (F : Fx p c meth bytes ml ret nm) {x y : Int32} (d : Dc bytes pc .idiv 1 nx) (hy : y ≠ 0) (K : Run Z n0 p l e R s own m args below meth c Q h k n Ls nx L (.int (x / y) :: st)) : Run Z n0 p l e R s own m args below meth c Q h k n Ls pc L (.int y :: .int x :: st) := by
  have hd := hbD F d; obtain ⟨-, rfl⟩ := d
  exact Run.pure (fun T u hA s => XS.idiv (g := mkF m pc L.toArray (.int y :: .int x :: st)) hA F.1 rfl hd rfl hy s) K
theorem Run.irem (F : Fx p c meth bytes ml ret nm) {x y : Int32} (d : Dc bytes pc .irem 1 nx) (hy : y ≠ 0) (K : Run Z n0 p l e R s own m args below meth c Q h k n Ls nx L (.int (x % y) :: st)) : Run Z n0 p l e R s own m args below meth c Q h k n Ls pc L (.int y :: .int x :: st) := by
  have hd := hbD F d; obtain ⟨-, rfl⟩ := d
  exact Run.still (fun T vm0 locs X eT hZ hown u s => iremM (g := mkF m pc L.toArray (.int y :: .int x :: st)) X F.1 rfl hd rfl hy s) K
theorem Run.ineg (F : Fx p c meth bytes ml ret nm) {x : Int32} (d : Dc bytes pc .ineg 1 nx) (K : Run Z n0 p l e R s own m args below meth c Q h k n Ls nx L (.int (-x) :: st)) : Run Z n0 p l e R s own m args below meth c Q h k n Ls pc L (.int x :: st) := by
  have hd := hbD F d; obtain ⟨-, rfl⟩ := d
  exact Run.pure (fun T u hA s => XS.ineg (g := mkF m pc L.toArray (.int x :: st)) hA F.1 rfl hd rfl s) K
abbrev chr (x : Int32) : Int32 := x.toUInt32.toUInt16.toUInt32.toInt32
theorem Run.i2c (F : Fx p c meth bytes ml ret nm) {x : Int32} (d : Dc bytes pc .i2c 1 nx) (K : Run Z n0 p l e R s own m args below meth c Q h k n Ls nx L (.int (chr x) :: st)) : Run Z n0 p l e R s own m args below meth c Q h k n Ls pc L (.int x :: st) := by
  have hd := hbD F d; obtain ⟨-, rfl⟩ := d
  exact Run.pure (fun T u hA s => XT.i2c (g := mkF m pc L.toArray (.int x :: st)) hA F.1 rfl hd rfl s) K
theorem Run.i2b (F : Fx p c meth bytes ml ret nm) {x : Int32} (d : Dc bytes pc .i2b 1 nx) (K : Run Z n0 p l e R s own m args below meth c Q h k n Ls nx L (.int (x.toInt8.toInt32) :: st)) : Run Z n0 p l e R s own m args below meth c Q h k n Ls pc L (.int x :: st) := by
  have hd := hbD F d; obtain ⟨-, rfl⟩ := d
  exact Run.pure (fun T u hA s => XT.i2b (g := mkF m pc L.toArray (.int x :: st)) hA F.1 rfl hd rfl s) K
theorem Run.dup (F : Fx p c meth bytes ml ret nm) {x : Value} (d : Dc bytes pc .dup 1 nx) (hc : x.category = 1) (K : Run Z n0 p l e R s own m args below meth c Q h k n Ls nx L (x :: x :: st)) : Run Z n0 p l e R s own m args below meth c Q h k n Ls pc L (x :: st) := by
  have hd := hbD F d; obtain ⟨-, rfl⟩ := d
  exact Run.pure (fun T u hA s => XS.dup (g := mkF m pc L.toArray (x :: st)) hA F.1 rfl hd rfl hc s) K
theorem Run.dup2 (F : Fx p c meth bytes ml ret nm) {x y : Value} (d : Dc bytes pc .dup2 1 nx) (hc : x.category = 1) (hc' : y.category = 1) (K : Run Z n0 p l e R s own m args below meth c Q h k n Ls nx L (x :: y :: x :: y :: st)) : Run Z n0 p l e R s own m args below meth c Q h k n Ls pc L (x :: y :: st) := by
  have hd := hbD F d; obtain ⟨-, rfl⟩ := d
  exact Run.pure (fun T u hA s => XT.dup2 (g := mkF m pc L.toArray (x :: y :: st)) hA F.1 rfl hd rfl hc hc' s) K
theorem Run.dupX1 (F : Fx p c meth bytes ml ret nm) {x y : Value} (d : Dc bytes pc .dup_x1 1 nx) (hc : x.category = 1) (hc' : y.category = 1) (K : Run Z n0 p l e R s own m args below meth c Q h k n Ls nx L (x :: y :: x :: st)) : Run Z n0 p l e R s own m args below meth c Q h k n Ls pc L (x :: y :: st) := by
  have hd := hbD F d; obtain ⟨-, rfl⟩ := d
  exact Run.pure (fun T u hA s => XT.dupX1 (g := mkF m pc L.toArray (x :: y :: st)) hA F.1 rfl hd rfl hc hc' s) K
theorem Run.pop (F : Fx p c meth bytes ml ret nm) {x : Value} (d : Dc bytes pc .pop 1 nx) (hc : x.category = 1) (K : Run Z n0 p l e R s own m args below meth c Q h k n Ls nx L st) : Run Z n0 p l e R s own m args below meth c Q h k n Ls pc L (x :: st) := by
  have hd := hbD F d; obtain ⟨-, rfl⟩ := d
  exact Run.pure (fun T u hA s => XT.pop (g := mkF m pc L.toArray (x :: st)) hA F.1 rfl hd rfl hc s) K
theorem Run.iinc (F : Fx p c meth bytes ml ret nm) {i : Nat} {cst : Int} {z x : Int32} (d : Dc bytes pc (.iinc i cst) 3 nx) (hz : Int32.ofInt cst = z) (hl : L[i]? = some (.val (.int x)))
    (K : Run Z n0 p l e R s own m args below meth c Q h k n Ls nx (L.set i (.val (.int (x + z)))) st) : Run Z n0 p l e R s own m args below meth c Q h k n Ls pc L st := by
  have hd := hbD F d; obtain ⟨-, rfl⟩ := d; subst hz
  exact Run.pure (fun T u hA s => XS.iinc (g := mkF m pc L.toArray st) hA F.1 rfl hd (getL hl) (setL (by rw [hl]; rfl) rfl) s) K
theorem Run.goto (F : Fx p c meth bytes ml ret nm) {o : Int} {t : Nat} (d : Dc bytes pc (.goto o) 3 nx) (ht : (pc : Int) + o = (t : Int))
    (K : Run Z n0 p l e R s own m args below meth c Q h k n Ls t L st) : Run Z n0 p l e R s own m args below meth c Q h k n Ls pc L st := by
  have hd := hbD F d
  exact Run.pure (fun T u hA s => XS.goto (g := mkF m pc L.toArray st) hA F.1 rfl (pc' := t) rfl hd (by rw [ht]; exact Int.natCast_nonneg _) (by rw [ht]; rfl) s) K
theorem Run.ifYes (F : Fx p c meth bytes ml ret nm) {cd : ClassFile.Cond} {x : Int32} {o : Int} {t : Nat} (d : Dc bytes pc (.ifCond cd o) 3 nx) (ht : (pc : Int) + o = (t : Int)) (hc : ifCond.holds cd x = true)
    (K : Run Z n0 p l e R s own m args below meth c Q h k n Ls t L st) : Run Z n0 p l e R s own m args below meth c Q h k n Ls pc L (.int x :: st) := by
  have hd := hbD F d
  exact Run.pure (fun T u hA s => XS.ifYes (g := mkF m pc L.toArray (.int x :: st)) hA F.1 rfl (pc' := t) rfl hd rfl hc (by rw [ht]; exact Int.natCast_nonneg _) (by rw [ht]; rfl) s) K
theorem Run.ifNo (F : Fx p c meth bytes ml ret nm) {cd : ClassFile.Cond} {x : Int32} {o : Int} (d : Dc bytes pc (.ifCond cd o) 3 nx) (hc : ifCond.holds cd x = false)
    (K : Run Z n0 p l e R s own m args below meth c Q h k n Ls nx L st) : Run Z n0 p l e R s own m args below meth c Q h k n Ls pc L (.int x :: st) := by
  have hd := hbD F d; obtain ⟨-, rfl⟩ := d
  exact Run.pure (fun T u hA s => XS.ifNo (g := mkF m pc L.toArray (.int x :: st)) hA F.1 rfl hd rfl hc s) K
theorem Run.if_ (F : Fx p c meth bytes ml ret nm) {cd : ClassFile.Cond} {x : Int32} {o : Int} {t : Nat} (d : Dc bytes pc (.ifCond cd o) 3 nx) (ht : (pc : Int) + o = (t : Int))
    (K1 : ifCond.holds cd x = true → Run Z n0 p l e R s own m args below meth c Q h k n Ls t L st) (K2 : ifCond.holds cd x = false → Run Z n0 p l e R s own m args below meth c Q h k n Ls nx L st) : Run Z n0 p l e R s own m args below meth c Q h k n Ls pc L (.int x :: st) := by
  cases hc : ifCond.holds cd x with
  | true => exact Run.ifYes F d ht hc (K1 hc)
  | false => exact Run.ifNo F d hc (K2 hc)
theorem Run.icmpYes (F : Fx p c meth bytes ml ret nm) {cd : ClassFile.Cond} {x y : Int32} {o : Int} {t : Nat} (d : Dc bytes pc (.if_icmp cd o) 3 nx) (ht : (pc : Int) + o = (t : Int)) (hc : if_icmp.holds cd x y = true)
    (K : Run Z n0 p l e R s own m args below meth c Q h k n Ls t L st) : Run Z n0 p l e R s own m args below meth c Q h k n Ls pc L (.int y :: .int x :: st) := by
  have hd := hbD F d
  exact Run.pure (fun T u hA s => XS.icmpYes (g := mkF m pc L.toArray (.int y :: .int x :: st)) hA F.1 rfl (pc' := t) rfl hd rfl hc (by rw [ht]; exact Int.natCast_nonneg _) (by rw [ht]; rfl) s) K
theorem Run.icmpNo (F : Fx p c meth bytes ml ret nm) {cd : ClassFile.Cond} {x y : Int32} {o : Int} (d : Dc bytes pc (.if_icmp cd o) 3 nx) (hc : if_icmp.holds cd x y = false)
    (K : Run Z n0 p l e R s own m args below meth c Q h k n Ls nx L st) : Run Z n0 p l e R s own m args below meth c Q h k n Ls pc L (.int y :: .int x :: st) := by
  have hd := hbD F d; obtain ⟨-, rfl⟩ := d
  exact Run.pure (fun T u hA s => XS.icmpNo (g := mkF m pc L.toArray (.int y :: .int x :: st)) hA F.1 rfl hd rfl hc s) K
theorem Run.icmp (F : Fx p c meth bytes ml ret nm) {cd : ClassFile.Cond} {x y : Int32} {o : Int} {t : Nat} (d : Dc bytes pc (.if_icmp cd o) 3 nx) (ht : (pc : Int) + o = (t : Int))
    (K1 : if_icmp.holds cd x y = true → Run Z n0 p l e R s own m args below meth c Q h k n Ls t L st) (K2 : if_icmp.holds cd x y = false → Run Z n0 p l e R s own m args below meth c Q h k n Ls nx L st) : Run Z n0 p l e R s own m args below meth c Q h k n Ls pc L (.int y :: .int x :: st) := by
  cases hc : if_icmp.holds cd x y with
  | true => exact Run.icmpYes F d ht hc (K1 hc)
  | false => exact Run.icmpNo F d hc (K2 hc)
theorem Run.ifnullYes (F : Fx p c meth bytes ml ret nm) {o : Int} {t : Nat} (d : Dc bytes pc (.ifnull o) 3 nx) (ht : (pc : Int) + o = (t : Int))
    (K : Run Z n0 p l e R s own m args below meth c Q h k n Ls t L st) : Run Z n0 p l e R s own m args below meth c Q h k n Ls pc L (.null :: st) := by
  have hd := hbD F d
  exact Run.pure (fun T u hA s => XS.ifnullYes (g := mkF m pc L.toArray (.null :: st)) hA F.1 rfl (pc' := t) rfl hd rfl (by rw [ht]; exact Int.natCast_nonneg _) (by rw [ht]; rfl) s) K
theorem Run.ifnullNo (F : Fx p c meth bytes ml ret nm) {o : Int} {b : Nat} (d : Dc bytes pc (.ifnull o) 3 nx)
    (K : Run Z n0 p l e R s own m args below meth c Q h k n Ls nx L st) : Run Z n0 p l e R s own m args below meth c Q h k n Ls pc L (.ref b :: st) := by
  have hd := hbD F d; obtain ⟨-, rfl⟩ := d
  exact Run.pure (fun T u hA s => XS.ifnullNo (g := mkF m pc L.toArray (.ref b :: st)) hA F.1 rfl hd rfl s) K
theorem Run.ifnonnullYes (F : Fx p c meth bytes ml ret nm) {o : Int} {t : Nat} {b : Nat} (d : Dc bytes pc (.ifnonnull o) 3 nx) (ht : (pc : Int) + o = (t : Int))
    (K : Run Z n0 p l e R s own m args below meth c Q h k n Ls t L st) : Run Z n0 p l e R s own m args below meth c Q h k n Ls pc L (.ref b :: st) := by
  have hd := hbD F d
  exact Run.pure (fun T u hA s => XT.ifnonnullYes (g := mkF m pc L.toArray (.ref b :: st)) hA F.1 rfl (pc' := t) rfl hd rfl (by rw [ht]; exact Int.natCast_nonneg _) (by rw [ht]; rfl) s) K
theorem Run.ifnonnullNo (F : Fx p c meth bytes ml ret nm) {o : Int} (d : Dc bytes pc (.ifnonnull o) 3 nx)
    (K : Run Z n0 p l e R s own m args below meth c Q h k n Ls nx L st) : Run Z n0 p l e R s own m args below meth c Q h k n Ls pc L (.null :: st) := by
  have hd := hbD F d; obtain ⟨-, rfl⟩ := d
  exact Run.pure (fun T u hA s => XT.ifnonnullNo (g := mkF m pc L.toArray (.null :: st)) hA F.1 rfl hd rfl s) K
theorem Run.acmpYes (F : Fx p c meth bytes ml ret nm) {cd : ACond} {x y : Value} {o : Int} {t : Nat} {b : Bool} (d : Dc bytes pc (.if_acmp cd o) 3 nx) (ht : (pc : Int) + o = (t : Int)) (hx : x.isRef = true) (hy : y.isRef = true) (hq : decide (x = y) = b) (hb : acV cd b = true)
    (K : Run Z n0 p l e R s own m args below meth c Q h k n Ls t L st) : Run Z n0 p l e R s own m args below meth c Q h k n Ls pc L (y :: x :: st) := by
  have hd := hbD F d
  exact Run.still (fun T vm0 locs X eT hZ hown u s => Jvm.RoadKit.acmp (g := mkF m pc L.toArray (y :: x :: st)) X F.1 rfl hx hy (pc0 := pc) (pc' := t) (same := b) rfl hd rfl hq (by rw [ht]; exact Int.natCast_nonneg _) (by rw [if_pos hb, ht]; rfl) s) K
theorem Run.acmpNo (F : Fx p c meth bytes ml ret nm) {cd : ACond} {x y : Value} {o : Int} {t : Nat} {b : Bool} (d : Dc bytes pc (.if_acmp cd o) 3 nx) (ht : (pc : Int) + o = (t : Int)) (hx : x.isRef = true) (hy : y.isRef = true) (hq : decide (x = y) = b) (hb : acV cd b = false)
    (K : Run Z n0 p l e R s own m args below meth c Q h k n Ls nx L st) : Run Z n0 p l e R s own m args below meth c Q h k n Ls pc L (y :: x :: st) := by
  have hd := hbD F d; obtain ⟨-, rfl⟩ := d
  exact Run.still (fun T vm0 locs X eT hZ hown u s => Jvm.RoadKit.acmp (g := mkF m pc L.toArray (y :: x :: st)) X F.1 rfl hx hy (pc0 := pc) (pc' := pc + 3) (same := b) rfl hd rfl hq (by rw [ht]; exact Int.natCast_nonneg _) (by rw [if_neg (by simp [hb])]) s) K
theorem Run.ldcInt (F : Fx p c meth bytes ml ret nm) {i : Nat} {v : Int32} (w : (Cond.constant own i v).before a0 Z = true) (d : Dc bytes pc (.ldc i) 2 nx)
    (K : Run Z n0 p l e R s own m args below meth c Q h k n Ls nx L (.int v :: st)) : Run Z n0 p l e R s own m args below meth c Q h k n Ls pc L st := by
  have hd := hbD F d; obtain ⟨-, rfl⟩ := d
  exact Run.still (fun T vm0 locs X eT hZ hown u s => X.ldcInt F.1 hown (mvT hZ w) (g := mkF m pc L.toArray st) rfl hd u s) K
theorem Run.ldcwInt (F : Fx p c meth bytes ml ret nm) {i : Nat} {v : Int32} (w : (Cond.constant own i v).before a0 Z = true) (d : Dc bytes pc (.ldc_w i) 3 nx)
    (K : Run Z n0 p l e R s own m args below meth c Q h k n Ls nx L (.int v :: st)) : Run Z n0 p l e R s own m args below meth c Q h k n Ls pc L st := by
  have hd := hbD F d; obtain ⟨-, rfl⟩ := d
  exact Run.still (fun T vm0 locs X eT hZ hown u s => X.ldcwInt F.1 hown (mvT hZ w) (g := mkF m pc L.toArray st) rfl hd u s) K
/-! arrays -/
/-- the array at a holds vs -/
def Av (Z : State) (h : Heap) (a : Nat) (ty : FieldType) (vs : List Value) : Prop := ∃ c : Cell, Arr Z h a c ty ∧ c.slots.toList = vs ∧ vs.length < 2 ^ 31 ∧ ∀ v ∈ vs, fits ty v = true
theorem Av.lt {a : Nat} {ty : FieldType} {vs : List Value} (A : Av Z h a ty vs) : a < h.size := by obtain ⟨c, A, -⟩ := A; exact A.lt
theorem Av.keep {h' : Heap} {ws : List Addr} {a : Nat} {ty : FieldType} {vs : List Value} (A : Av Z h a ty vs) (K : Keep h h' ws) (q : a ∉ ws) : Av Z h' a ty vs := by
  obtain ⟨c, A, r⟩ := A; exact ⟨c, ⟨K.2.1 a c A.1 q, A.2⟩, r⟩
theorem Av.len {a : Nat} {ty : FieldType} {vs : List Value} (A : Av Z h a ty vs) : vs.length < 2 ^ 31 := by obtain ⟨c, -, -, r, -⟩ := A; exact r
theorem Av.fit {a : Nat} {ty : FieldType} {vs : List Value} (A : Av Z h a ty vs) : ∀ v ∈ vs, fits ty v = true := by obtain ⟨c, -, -, -, r⟩ := A; exact r
theorem Run.arrlen (F : Fx p c meth bytes ml ret nm) {a : Nat} {ty : FieldType} {vs : List Value} (A : Av Z h a ty vs) (d : Dc bytes pc .arraylength 1 nx)
    (K : Run Z n0 p l e R s own m args below meth c Q h k n Ls nx L (.int (Int32.ofNat vs.length) :: st)) : Run Z n0 p l e R s own m args below meth c Q h k n Ls pc L (.ref a :: st) := by
  have hd := hbD F d; obtain ⟨-, rfl⟩ := d
  obtain ⟨cl, A, rfl, -⟩ := A
  refine Run.still (fun T vm0 locs X eT hZ hown u s => X.arraylength F.1 (by rw [eT]; exact A.1) (State.isArrayOf_alike hZ.alike A.2.1) (g := mkF m pc L.toArray (.ref a :: st)) rfl rfl hd u ?_) K
  have q : cl.slots.toList.length = cl.slots.size := by simp
  rw [q] at s
  exact s
theorem inB {vs : List Value} {j : Int32} {i : Nat} {cl : Cell} (e : cl.slots.toList = vs) (hj : ¬ j < 0) (hi : j.toNatClampNeg = i) (hlt : i < vs.length) : ¬ (j < 0 ∨ cl.slots.size ≤ j.toNatClampNeg) := by
  subst e
  have q : cl.slots.toList.length = cl.slots.size := by simp
  rintro (y | y)
  · exact hj y
  · omega
theorem atB {vs : List Value} {j : Int32} {i : Nat} {cl : Cell} {v : Value} (e : cl.slots.toList = vs) (hi : j.toNatClampNeg = i) (hv : vs[i]? = some v) : cl.slots[j.toNatClampNeg]? = some v := by
  subst e hi; simpa using hv
theorem Run.caload (F : Fx p c meth bytes ml ret nm) {a : Nat} {vs : List Value} {j : Int32} {i : Nat} {v : Value} (A : Av Z h a .char vs) (hj : ¬ j < 0) (hi : j.toNatClampNeg = i) (hv : vs[i]? = some v) (d : Dc bytes pc .caload 1 nx)
    (K : Run Z n0 p l e R s own m args below meth c Q h k n Ls nx L (v :: st)) : Run Z n0 p l e R s own m args below meth c Q h k n Ls pc L (.int j :: .ref a :: st) := by
  have hd := hbD F d; obtain ⟨-, rfl⟩ := d
  obtain ⟨cl, A, q, -⟩ := A
  exact Run.still (fun T vm0 locs X eT hZ hown u s => X.caload F.1 (by rw [eT]; exact A.1) (State.isArrayOf_alike hZ.alike A.2.1) A.2.2 (inB q hj hi (List.getElem?_eq_some_iff.mp hv).1) (atB q hi hv) (g := mkF m pc L.toArray (.int j :: .ref a :: st)) rfl rfl hd u s) K
theorem Run.baload (F : Fx p c meth bytes ml ret nm) {a : Nat} {vs : List Value} {j : Int32} {i : Nat} {v : Value} (A : Av Z h a .byte vs) (hj : ¬ j < 0) (hi : j.toNatClampNeg = i) (hv : vs[i]? = some v) (d : Dc bytes pc .baload 1 nx)
    (K : Run Z n0 p l e R s own m args below meth c Q h k n Ls nx L (v :: st)) : Run Z n0 p l e R s own m args below meth c Q h k n Ls pc L (.int j :: .ref a :: st) := by
  have hd := hbD F d; obtain ⟨-, rfl⟩ := d
  obtain ⟨cl, A, q, -⟩ := A
  exact Run.still (fun T vm0 locs X eT hZ hown u s => X.baloadBytes F.1 (by rw [eT]; exact A.1) (State.isArrayOf_alike hZ.alike A.2.1) A.2.2 (inB q hj hi (List.getElem?_eq_some_iff.mp hv).1) (atB q hi hv) (g := mkF m pc L.toArray (.int j :: .ref a :: st)) rfl rfl hd u s) K
theorem Run.iaload (F : Fx p c meth bytes ml ret nm) {a : Nat} {vs : List Value} {j : Int32} {i : Nat} {v : Value} (A : Av Z h a .int vs) (hj : ¬ j < 0) (hi : j.toNatClampNeg = i) (hv : vs[i]? = some v) (d : Dc bytes pc .iaload 1 nx)
    (K : Run Z n0 p l e R s own m args below meth c Q h k n Ls nx L (v :: st)) : Run Z n0 p l e R s own m args below meth c Q h k n Ls pc L (.int j :: .ref a :: st) := by
  have hd := hbD F d; obtain ⟨-, rfl⟩ := d
  obtain ⟨cl, A, q, -⟩ := A
  exact Run.still (fun T vm0 locs X eT hZ hown u s => X.iaload F.1 (by rw [eT]; exact A.1) (State.isArrayOf_alike hZ.alike A.2.1) A.2.2 (inB q hj hi (List.getElem?_eq_some_iff.mp hv).1) (atB q hi hv) (g := mkF m pc L.toArray (.int j :: .ref a :: st)) rfl rfl hd u s) K
theorem Run.aaload (F : Fx p c meth bytes ml ret nm) {a : Nat} {ty : FieldType} {vs : List Value} {j : Int32} {i : Nat} {v : Value} (A : Av Z h a ty vs) (ht : ty.isReference = true) (hj : ¬ j < 0) (hi : j.toNatClampNeg = i) (hv : vs[i]? = some v) (d : Dc bytes pc .aaload 1 nx)
    (K : Run Z n0 p l e R s own m args below meth c Q h k n Ls nx L (v :: st)) : Run Z n0 p l e R s own m args below meth c Q h k n Ls pc L (.int j :: .ref a :: st) := by
  have hd := hbD F d; obtain ⟨-, rfl⟩ := d
  obtain ⟨cl, A, q, -⟩ := A
  exact Run.still (fun T vm0 locs X eT hZ hown u s => X.aaload F.1 (by rw [eT]; exact A.1) (State.isArrayOf_alike hZ.alike A.2.1) ht A.2.2 (inB q hj hi (List.getElem?_eq_some_iff.mp hv).1) (atB q hi hv) (g := mkF m pc L.toArray (.int j :: .ref a :: st)) rfl rfl hd u s) K
/-- a write: what it leaves of the walk's bearings -/
theorem WS.wrote {vm0 : Vm} {locs : List Loc} {k0 : Nat} {h' : Heap} {a : Nat} {sl : Nat} {v : Value} {T' : State} (X' : Stand p l e R (s.setVm vm0) m args below meth c T' (locs ++ [⟨a, sl⟩]) k n) (e' : T'.heap = h') (W : Wr h h' a sl v) (g : n0 ≤ a)
    (hS : s.Since vm0 k0) (hk : k0 ≤ h.size) (hZ : Z.Warmed39 (s.setVm vm0).vm) (hown : (s.setVm vm0).vm.findClass own = some m.cls) (N : Fr n0 locs) (hO : Old Z n0 h) (I : Itn Z vm0 Ls) (kn : Kn s.vm below) : WS Z n0 p l e R s own m args below meth c h' k n Ls T' :=
  ⟨vm0, _, k0, X', e', hS, by rw [W.size]; exact hk, hZ, hown, Fr.snoc X' N g, hO.wr W g, I, kn⟩
theorem Av.set {h' : Heap} {a : Nat} {ty : FieldType} {vs : List Value} {j : Int32} {i : Nat} {v : Value} (A : Av Z h a ty vs) (hi : j.toNatClampNeg = i) (hf : fits ty v = true) (W : Wr h h' a j.toNatClampNeg v) : Av Z h' a ty (vs.set i v) := by
  obtain ⟨cl, A, rfl, q2, q3⟩ := A
  subst hi
  refine ⟨_, A.same W, by simp [Cell.setSlot], by simpa using q2, fun w hw => ?_⟩
  rcases List.mem_or_eq_of_mem_set hw with y | y
  · exact q3 w y
  · exact y ▸ hf
theorem Run.castore (F : Fx p c meth bytes ml ret nm) {a : Nat} {vs : List Value} {j x y : Int32} {i : Nat} (A : Av Z h a .char vs) (g : n0 ≤ a) (hj : ¬ j < 0) (hi : j.toNatClampNeg = i) (hlt : i < vs.length) (hy : nar .char x = y) (d : Dc bytes pc .castore 1 nx)
    (K : ∀ h', Wr h h' a i (.int y) → Keep h h' [a] → h'.size = h.size → Av Z h' a .char (vs.set i (.int y)) → Run Z n0 p l e R s own m args below meth c Q h' k n Ls nx L st) : Run Z n0 p l e R s own m args below meth c Q h k n Ls pc L (.int x :: .int j :: .ref a :: st) := fun T W => by
  have hd := hbD F d; obtain ⟨-, rfl⟩ := d
  obtain ⟨vm0, locs, k0, X, eT, hS, hk, hZ, hown, N, hO, I, kn⟩ := W
  have A' := A
  obtain ⟨cl, A1, q, -⟩ := A
  obtain ⟨T', h', X', e', W', st'⟩ := stC X F.1 hZ eT A1 (j := j) (x := x) (inB q hj hi hlt) (g := mkF m pc L.toArray (.int x :: .int j :: .ref a :: st)) rfl rfl hd
  rw [hy] at W'
  obtain ⟨u, o, r1, r⟩ := K h' (hi ▸ W') (Keep.of_wr W') W'.size (A'.set hi (hy ▸ fits_nar_char x) W') T' (WS.wrote X' e' W' g hS hk hZ hown N hO I kn)
  exact ⟨u, o, st' _ r1, r⟩
theorem Run.bastore (F : Fx p c meth bytes ml ret nm) {a : Nat} {vs : List Value} {j x y : Int32} {i : Nat} (A : Av Z h a .byte vs) (g : n0 ≤ a) (hj : ¬ j < 0) (hi : j.toNatClampNeg = i) (hlt : i < vs.length) (hy : nar .byte x = y) (d : Dc bytes pc .bastore 1 nx)
    (K : ∀ h', Wr h h' a i (.int y) → Keep h h' [a] → h'.size = h.size → Av Z h' a .byte (vs.set i (.int y)) → Run Z n0 p l e R s own m args below meth c Q h' k n Ls nx L st) : Run Z n0 p l e R s own m args below meth c Q h k n Ls pc L (.int x :: .int j :: .ref a :: st) := fun T W => by
  have hd := hbD F d; obtain ⟨-, rfl⟩ := d
  obtain ⟨vm0, locs, k0, X, eT, hS, hk, hZ, hown, N, hO, I, kn⟩ := W
  have A' := A
  obtain ⟨cl, A1, q, -⟩ := A
  obtain ⟨T', h', X', e', W', st'⟩ := stB X F.1 hZ eT A1 (j := j) (x := x) (inB q hj hi hlt) (g := mkF m pc L.toArray (.int x :: .int j :: .ref a :: st)) rfl rfl hd
  rw [hy] at W'
  obtain ⟨u, o, r1, r⟩ := K h' (hi ▸ W') (Keep.of_wr W') W'.size (A'.set hi (hy ▸ fits_nar_byte x) W') T' (WS.wrote X' e' W' g hS hk hZ hown N hO I kn)
  exact ⟨u, o, st' _ r1, r⟩
theorem Run.iastore (F : Fx p c meth bytes ml ret nm) {a : Nat} {vs : List Value} {j x : Int32} {i : Nat} (A : Av Z h a .int vs) (g : n0 ≤ a) (hj : ¬ j < 0) (hi : j.toNatClampNeg = i) (hlt : i < vs.length) (d : Dc bytes pc .iastore 1 nx)
    (K : ∀ h', Wr h h' a i (.int x) → Keep h h' [a] → h'.size = h.size → Av Z h' a .int (vs.set i (.int x)) → Run Z n0 p l e R s own m args below meth c Q h' k n Ls nx L st) : Run Z n0 p l e R s own m args below meth c Q h k n Ls pc L (.int x :: .int j :: .ref a :: st) := fun T W => by
  have hd := hbD F d; obtain ⟨-, rfl⟩ := d
  obtain ⟨vm0, locs, k0, X, eT, hS, hk, hZ, hown, N, hO, I, kn⟩ := W
  have A' := A
  obtain ⟨cl, A1, q, -⟩ := A
  obtain ⟨T', h', X', e', W', st'⟩ := stI X F.1 hZ eT A1 (j := j) (x := x) (inB q hj hi hlt) (g := mkF m pc L.toArray (.int x :: .int j :: .ref a :: st)) rfl rfl hd
  obtain ⟨u, o, r1, r⟩ := K h' (hi ▸ W') (Keep.of_wr W') W'.size (A'.set hi rfl W') T' (WS.wrote X' e' W' g hS hk hZ hown N hO I kn)
  exact ⟨u, o, st' _ r1, r⟩
theorem Keep.ofExt {h h' : Heap} (E : Ext h h') : Keep h h' [] := (Keep.refl h []).ext E
theorem Run.newarray (F : Fx p c meth bytes ml ret nm) {aty : ArrayType} {z : Int32} {len : Nat} (w : (Cond.arrayClass (newarray.typeOf aty)).before a0 Z = true) (hz : ¬ z < 0) (hlen : z.toNatClampNeg = len) (cap : Nat) (hcap : len ≤ cap) (hb : Nat.ble (cap * 8) 536870912 = true) (hc : k + 1 ≤ R.cells) (hl : n + cap ≤ R.slots) (d : Dc bytes pc (.newarray aty) 2 nx)
    (K : ∀ h' a, a = h.size → Keep h h' [] → a < h'.size → Av Z h' a (newarray.typeOf aty) (List.replicate len (defaultValue (newarray.typeOf aty))) → Run Z n0 p l e R s own m args below meth c Q h' (k + 1) (n + cap) Ls nx L (.ref a :: st)) : Run Z n0 p l e R s own m args below meth c Q h k n Ls pc L (.int z :: st) := fun T W => by
  have hd := hbD F d; obtain ⟨-, rfl⟩ := d
  obtain ⟨vm0, locs, k0, X, eT, hS, hk, hZ, hown, N, hO, I, kn⟩ := W
  subst hlen
  obtain ⟨T', h', cA, X', e', E', A', st'⟩ := newP X F.1 hZ w eT (g := mkF m pc L.toArray (.int z :: st)) rfl hd rfl hz hcap (Nat.le_of_ble_eq_true hb) hc hl
  obtain ⟨u, o, r1, r⟩ := K h' h.size rfl (Keep.ofExt E') A'.lt ⟨_, A', by simp [newA], by simpa using (back32 hz).2, fun v hv => by rw [List.eq_of_mem_replicate hv]; cases aty <;> rfl⟩ T' ⟨vm0, locs, k0, X', e', hS, Nat.le_trans hk E'.1, hZ, hown, N, hO.ext E', I, kn⟩
  exact ⟨u, o, st' _ r1, r⟩
/-! objects -/
theorem Run.getfield (F : Fx p c meth bytes ml ret nm) {R0 O f ds host : String} {i : Nat} {a : Nat} {v : Value} (w : (Cond.fieldLink own i R0 f ds).before a0 Z = true ∨ (Cond.fieldLinkNest own i R0 f ds host).before a0 Z = true) (via : Via Z R0 O f ds) (Fd : Fld Z h a O f ds v) (d : Dc bytes pc (.getfield i) 3 nx)
    (K : Run Z n0 p l e R s own m args below meth c Q h k n Ls nx L (v :: st)) : Run Z n0 p l e R s own m args below meth c Q h k n Ls pc L (.ref a :: st) := fun T W => by
  have hd := hbD F d; obtain ⟨-, rfl⟩ := d
  obtain ⟨vm0, locs, k0, X, eT, hS, hk, hZ, hown, N, hO, I, kn⟩ := W
  obtain ⟨T', X', e', st'⟩ := getF X F.1 hZ hown w via eT Fd (g := mkF m pc L.toArray (.ref a :: st)) rfl rfl hd
  obtain ⟨u, o, r1, r⟩ := K T' ⟨vm0, locs, k0, X', e', hS, hk, hZ, hown, N, hO, I, kn⟩
  exact ⟨u, o, st' _ r1, r⟩
theorem Run.getstatic (F : Fx p c meth bytes ml ret nm) {R0 O f ds : String} {i : Nat} {v : Value} (w : (Cond.fieldLink own i R0 f ds).before a0 Z = true) (via : Via Z R0 O f ds) (Fd : Sta Z Z.heap O f ds v) (d : Dc bytes pc (.getstatic i) 3 nx)
    (K : Run Z n0 p l e R s own m args below meth c Q h k n Ls nx L (v :: st)) : Run Z n0 p l e R s own m args below meth c Q h k n Ls pc L st := fun T W => by
  have hd := hbD F d; obtain ⟨-, rfl⟩ := d
  obtain ⟨vm0, locs, k0, X, eT, hS, hk, hZ, hown, N, hO, I, kn⟩ := W
  obtain ⟨T', X', e', st'⟩ := getS X F.1 hZ (host := "") hown w via eT (Fd.ext hO.2) (g := mkF m pc L.toArray st) rfl hd
  obtain ⟨u, o, r1, r⟩ := K T' ⟨vm0, locs, k0, X', e', hS, hk, hZ, hown, N, hO, I, kn⟩
  exact ⟨u, o, st' _ r1, r⟩
theorem Run.putfield (F : Fx p c meth bytes ml ret nm) {R0 O f ds C : String} {i kk : Nat} {a : Nat} {v v' old : Value} {ty : FieldType} (w : (Cond.fieldLink own i R0 f ds).before a0 Z = true) (via : Via Z R0 O f ds) (Fd : Fld Z h a O f ds old) (E : Exa Z h a C) (g : n0 ≤ a)
    (Lw : (Cond.lays C O f ds).before a0 Z = true ∨ ((Cond.laysFinal C O f ds).before a0 Z = true ∧ own = O ∧ nm = "<init>")) (wi : (Cond.instantiable C kk).before a0 Z = true) (hty : parseFieldDescriptor ds = some ty) (hn : narrow ty v = v') (hf : fits ty v' = true) (d : Dc bytes pc (.putfield i) 3 nx)
    (K : ∀ h', Wr h h' a (Jvm.RoadKit.slotOf Z O f ds) v' → Keep h h' [a] → h'.size = h.size → Fld Z h' a O f ds v' → Run Z n0 p l e R s own m args below meth c Q h' k n Ls nx L st) : Run Z n0 p l e R s own m args below meth c Q h k n Ls pc L (v :: .ref a :: st) := fun T W => by
  have hd := hbD F d; obtain ⟨-, rfl⟩ := d
  obtain ⟨vm0, locs, k0, X, eT, hS, hk, hZ, hown, N, hO, I, kn⟩ := W
  have Lw' : (Cond.lays C O f ds).before a0 Z = true ∨ ((Cond.laysFinal C O f ds).before a0 Z = true ∧ own = O ∧ meth.name = "<init>") := by rw [F.2.2.2.2.2]; exact Lw
  obtain ⟨T', h', X', e', W', st'⟩ := putFN X F.1 hZ hown w via eT Fd E Lw' wi hty hn hf (g := mkF m pc L.toArray (v :: .ref a :: st)) rfl rfl hd
  obtain ⟨u, o, r1, r⟩ := K h' W' (Keep.of_wr W') W'.size (Fd.same W') T' (WS.wrote X' e' W' g hS hk hZ hown N hO I kn)
  exact ⟨u, o, st' _ r1, r⟩
theorem Run.new (F : Fx p c meth bytes ml ret nm) {C : String} {i sz : Nat} (w : (Cond.classLink own i C).before a0 Z = true) (wi : (Cond.instantiable C sz).before a0 Z = true) (wz : (Cond.initialized C).before a0 Z = true) (hc : k + 1 ≤ R.cells) (hl : n + sz ≤ R.slots) (d : Dc bytes pc (.new i) 3 nx)
    (K : ∀ h' a, a = h.size → Keep h h' [] → a < h'.size → Exa Z h' a C → (∀ {O f ds : String} {ty : FieldType}, Laid Z a0 C O f ds → parseFieldDescriptor ds = some ty → Fld Z h' a O f ds (defaultValue ty)) → Unt h' a → Run Z n0 p l e R s own m args below meth c Q h' (k + 1) (n + sz) Ls nx L (.ref a :: st)) : Run Z n0 p l e R s own m args below meth c Q h k n Ls pc L st := fun T W => by
  have hd := hbD F d; obtain ⟨-, rfl⟩ := d
  obtain ⟨vm0, locs, k0, X, eT, hS, hk, hZ, hown, N, hO, I, kn⟩ := W
  obtain ⟨T', h', X', e', E', A', D', U', st'⟩ := newO X F.1 hZ hown w wi wz eT (g := mkF m pc L.toArray st) rfl hd hc hl
  obtain ⟨u, o, r1, r⟩ := K h' h.size rfl (Keep.ofExt E') A'.lt A' D' U' T' ⟨vm0, locs, k0, X', e', hS, Nat.le_trans hk E'.1, hZ, hown, N, hO.ext E', I, kn⟩
  exact ⟨u, o, st' _ r1, r⟩
theorem Run.checkcast (F : Fx p c meth bytes ml ret nm) {C : String} {i : Nat} {a : Nat} (w : (Cond.classLink own i C).before a0 Z = true) (E : Ins Z h a C true) (d : Dc bytes pc (.checkcast i) 3 nx)
    (K : Run Z n0 p l e R s own m args below meth c Q h k n Ls nx L (.ref a :: st)) : Run Z n0 p l e R s own m args below meth c Q h k n Ls pc L (.ref a :: st) := fun T W => by
  have hd := hbD F d; obtain ⟨-, rfl⟩ := d
  obtain ⟨vm0, locs, k0, X, eT, hS, hk, hZ, hown, N, hO, I, kn⟩ := W
  obtain ⟨T', X', e', st'⟩ := castY X F.1 hZ hown w eT E (g := mkF m pc L.toArray (.ref a :: st)) rfl rfl hd
  obtain ⟨u, o, r1, r⟩ := K T' ⟨vm0, locs, k0, X', e', hS, hk, hZ, hown, N, hO, I, kn⟩
  exact ⟨u, o, st' _ r1, r⟩
theorem Run.checkcastNull (F : Fx p c meth bytes ml ret nm) {i : Nat} (d : Dc bytes pc (.checkcast i) 3 nx)
    (K : Run Z n0 p l e R s own m args below meth c Q h k n Ls nx L (.null :: st)) : Run Z n0 p l e R s own m args below meth c Q h k n Ls pc L (.null :: st) := by
  have hd := hbD F d; obtain ⟨-, rfl⟩ := d
  exact Run.still (fun T vm0 locs X eT hZ hown u s => X.checkcastNull F.1 (g := mkF m pc L.toArray (.null :: st)) rfl rfl hd u s) K
theorem Run.instYes (F : Fx p c meth bytes ml ret nm) {C : String} {i : Nat} {a : Nat} (w : (Cond.classLink own i C).before a0 Z = true) (E : Ins Z h a C true) (d : Dc bytes pc (.instanceof i) 3 nx)
    (K : Run Z n0 p l e R s own m args below meth c Q h k n Ls nx L (.int 1 :: st)) : Run Z n0 p l e R s own m args below meth c Q h k n Ls pc L (.ref a :: st) := fun T W => by
  have hd := hbD F d; obtain ⟨-, rfl⟩ := d
  obtain ⟨vm0, locs, k0, X, eT, hS, hk, hZ, hown, N, hO, I, kn⟩ := W
  obtain ⟨T', X', e', st'⟩ := instY X F.1 hZ hown w eT E (g := mkF m pc L.toArray (.ref a :: st)) rfl rfl hd
  obtain ⟨u, o, r1, r⟩ := K T' ⟨vm0, locs, k0, X', e', hS, hk, hZ, hown, N, hO, I, kn⟩
  exact ⟨u, o, st' _ r1, r⟩
theorem Run.instNull (F : Fx p c meth bytes ml ret nm) {i : Nat} (d : Dc bytes pc (.instanceof i) 3 nx)
    (K : Run Z n0 p l e R s own m args below meth c Q h k n Ls nx L (.int 0 :: st)) : Run Z n0 p l e R s own m args below meth c Q h k n Ls pc L (.null :: st) := by
  have hd := hbD F d; obtain ⟨-, rfl⟩ := d
  exact Run.still (fun T vm0 locs X eT hZ hown u s => X.instanceofNull F.1 (g := mkF m pc L.toArray (.null :: st)) rfl rfl hd u s) K
theorem Run.objInit (F : Fx p c meth bytes ml ret nm) {i : Nat} {a : Nat} (w1 : (Cond.methodLink own i Lib.objectInit).before a0 Z = true) (w2 : (Cond.instanceMethod Lib.objectInit).before a0 Z = true) (w3 : (Cond.code Lib.objectInit ⟨#[0xb1]⟩ 1 none).before a0 Z = true)
    (hsz : L.length = ml) (hf : Nat.ble 1 R.frames = true) (hl : Nat.ble ((st.map fun v => v.category).sum + 12) R.locals = true) (d : Dc bytes pc (.invokespecial i) 3 nx)
    (K : Run Z n0 p l e R s own m args below meth c Q h k n Ls nx L st) : Run Z n0 p l e R s own m args below meth c Q h k n Ls pc L (.ref a :: st) := fun T W => by
  have hd := hbD F d; obtain ⟨-, rfl⟩ := d
  obtain ⟨vm0, locs, k0, X, eT, hS, hk, hZ, hown, N, hO, I, kn⟩ := W
  obtain ⟨T', X', e', st'⟩ := initO X F.1 hZ hown w1 w2 w3 eT (g := mkF m pc L.toArray (.ref a :: st)) rfl (by show L.toArray.size = _; rw [F.2.2.1, ← hsz]; simp) rfl hd (Nat.le_of_ble_eq_true hf) (W := (st.map fun v => v.category).sum) (by show 2 * 0 + _ ≤ _; omega) (Nat.le_of_ble_eq_true hl)
  obtain ⟨u, o, r1, r⟩ := K T' ⟨vm0, locs, k0, X', e', hS, hk, hZ, hown, N, hO, I, kn⟩
  exact ⟨u, o, st' _ r1, r⟩
/-! returns -/
theorem Run.ended {v : Option Value} (hv : meth.sig.returnType = none → v = none) (hlk : meth.locks = false) (hc : k ≤ R.cells) (hl : n ≤ R.slots) (hQ : Q v h Ls)
    (H : ∀ T vm0 locs, Stand p l e R (s.setVm vm0) m args below meth c T locs k n → ∀ fs, (∀ (f : JFrame) (acts : List Action), f.method = m → f.locked = none → f.entered = [] → (doReturn e (T.setTop f) acts v).1 = T.setFrames fs) → Steps p.tables e below (T.setTop (mkF m pc L.toArray st)) (T.setFrames fs)) :
    Run Z n0 p l e R s own m args below meth c Q h k n Ls pc L st := fun T W => by
  obtain ⟨vm0, locs, k0, X, eT, hS, hk, hZ, hown, N, hO, I, kn⟩ := W
  have hi : T.vm.interned = vm0.interned := X.warmed.interned_eq
  obtain ⟨fs, h1, h2, h3, h4⟩ := X.leaveW hS (by rw [eT]; exact hk) hv hlk
  refine ⟨_, _, H T vm0 locs X fs h1, h2, h3, v, locs, Ls, rfl, ?_, ?_, I.eq hi, N, h4.1, h4.2.1, h4.2.2.1, h4.2.2.2.mono hc hl⟩
  · show Q v T.heap Ls; rw [eT]; exact hQ
  · show Old Z n0 T.heap; rw [eT]; exact hO
theorem Run.ireturn {t : FieldType} (F : Fx p c meth bytes ml (some t) nm) {z : Int32} {Q : Value → Heap → Lits → Prop} (ht : t = .int ∨ t = .boolean ∨ t = .byte ∨ t = .char ∨ t = .short) (hn : narrow t (.int z) = .int z) (hc : k ≤ R.cells) (hl : n ≤ R.slots) (d : Dc bytes pc .ireturn 1 nx) (hQ : Q (.int z) h Ls) :
    Run Z n0 p l e R s own m args below meth c (RV Q) h k n Ls pc L (.int z :: st) :=
  Run.ended (v := some (.int z)) (fun q => by rw [F.2.2.2.1] at q; cases q) F.2.2.2.2.1 hc hl ⟨_, rfl, hQ⟩ fun T vm0 locs X fs hr => retOut X F.1 F.2.2.2.1 hn (Or.inl ⟨rfl, ht, _, rfl⟩) (hbD F d) hr
theorem Run.areturn {t : FieldType} (F : Fx p c meth bytes ml (some t) nm) {v : Value} {Q : Value → Heap → Lits → Prop} (ht : t.isReference = true) (hv : v.isRef = true) (hc : k ≤ R.cells) (hl : n ≤ R.slots) (d : Dc bytes pc .areturn 1 nx) (hQ : Q v h Ls) :
    Run Z n0 p l e R s own m args below meth c (RV Q) h k n Ls pc L (v :: st) :=
  Run.ended (v := some v) (fun q => by rw [F.2.2.2.1] at q; cases q) F.2.2.2.2.1 hc hl ⟨_, rfl, hQ⟩ fun T vm0 locs X fs hr => retOut X F.1 F.2.2.2.1 (by rcases ref_cases hv with rfl | ⟨a, rfl⟩ <;> cases t <;> simp [FieldType.isReference] at ht <;> rfl) (Or.inr (Or.inr (Or.inr (Or.inr ⟨rfl, ht, hv⟩)))) (hbD F d) hr
theorem Run.return_ (F : Fx p c meth bytes ml none nm) {Q : Heap → Lits → Prop} (hc : k ≤ R.cells) (hl : n ≤ R.slots) (d : Dc bytes pc .return_ 1 nx) (hQ : Q h Ls) :
    Run Z n0 p l e R s own m args below meth c (RN Q) h k n Ls pc L [] :=
  Run.ended (v := none) (fun q => rfl) F.2.2.2.2.1 hc hl ⟨rfl, hQ⟩ fun T vm0 locs X fs hr => X.returnOut F.1 F.2.2.2.1 (hbD F d) hr
/-! calls -/
theorem Con.back {y : MethodName} {by' : ByteArray} {ml' : Nat} {ret' : Option FieldType} {rm : Room} {as : List Value} {Qy : Option Value → Heap → Lits → Prop} {len W : Nat} (C : Con l Z n0 y by' ml' ret' rm as h Ls [] Qy) (hZ : Z.Warmed39 s.vm) (I : Itn Z s.vm Ls) (kn : Kn s.vm below)
    (wc : (Cond.code y by' ml' ret').before a0 Z = true) (wz : (Cond.initialized y.cls).before a0 Z = true) (hf : rm.frames + 1 ≤ R.frames) (hl : W + (ml' + 11) + rm.locals ≤ R.locals) :
    BackS l R p e below s args y len W (fun A a => a = as.toArray ∧ A.U.heap = h ∧ A.cells + rm.cells ≤ R.cells ∧ A.slots + rm.slots ≤ R.slots)
      (fun A _ v B => ∃ L Ls', Qy v B.U.heap Ls' ∧ Old Z n0 B.U.heap ∧ Itn Z B.U.vm Ls' ∧ Fr n0 L ∧ B.locs = A.locs ++ L ∧ B.cells = A.cells + rm.cells ∧ B.slots = A.slots + rm.slots) :=
  BackS.of_freeWG (bytes := by') (maxL := ml') (ret := ret') (E := fun _ _ o t L k n => k = rm.cells ∧ n = rm.slots ∧ ∃ v Ls', o = .returned v ∧ Qy v t.heap Ls' ∧ Old Z n0 t.heap ∧ Itn Z t.vm Ls' ∧ Fr n0 L) C hf hl
    (fun m meth c A a Y hp => have hU : Z.Warmed39 A.U.vm := wtrans hZ Y.warmed
      ⟨by show (Cond.and _ .tt).before a A.U = true; rw [Cond.before_and, mv hU wc]; rfl, mv hU wc, mv hU wz, hp.2.2.1, hp.2.2.2⟩)
    (fun m meth c A a g mk Y hp => ⟨hp.1, wtrans hZ Y.warmed, hp.2.1, I.eq Y.warmed.interned_eq⟩)
    (fun m meth c A a g mk Y hp hg => by
      have e1 : (A.U.setTop g).frames = .java g :: below := by rw [State.frames_setTop' _ Y.here.top, Y.tail]
      rw [e1]
      exact (kn.alike Y.warmed.alike).push (by rw [hg]; exact Y.method'))
    (fun _ _ _ _ ⟨v, L, Ls', h1, h2, h3, h4, h5, h6⟩ => ⟨L, _, _, h6, rfl, rfl, v, Ls', h1, h2, h3, h4, h5⟩)
    (fun m meth c A a g mk v t L k n Y hp _ _ ⟨e1, e2, v', Ls', e3, e4, e5, e6, e7⟩ => by cases e3; subst e1 e2; exact ⟨L, Ls', e4, e5, e6, e7, rfl, rfl, rfl⟩)
theorem hyOf {C : String} (h : (C == "java/lang/invoke/MethodHandle" || C == "java/lang/invoke/VarHandle") = false) : C ≠ "java/lang/invoke/MethodHandle" ∧ C ≠ "java/lang/invoke/VarHandle" := by simpa using h
theorem Run.callStatic (F : Fx p c meth bytes ml ret nm) {i : Nat} {y : MethodName} {by' : ByteArray} {ml' : Nat} {ret' : Option FieldType} {rm : Room} {as : List Value} {Qy : Option Value → Heap → Lits → Prop} {sig : MethodDescriptor}
    (wl : (Cond.methodLink own i y).before a0 Z = true) (ws : (Cond.static y).before a0 Z = true) (wz : (Cond.initialized y.cls).before a0 Z = true) (wc : (Cond.code y by' ml' ret').before a0 Z = true)
    (C : Con l Z n0 y by' ml' ret' rm as h Ls [] Qy) (hy : (y.cls == "java/lang/invoke/MethodHandle" || y.cls == "java/lang/invoke/VarHandle") = false) (hsig : parseMethodDescriptor y.desc = some sig) (hlen : as.length = sig.parameters.length) (hsz : L.length = ml)
    (hf : Nat.ble (rm.frames + 1) R.frames = true) (hl : Nat.ble ((st.map fun v => v.category).sum + (ml' + 11) + rm.locals) R.locals = true) (hc : k + rm.cells ≤ R.cells) (hs : n + rm.slots ≤ R.slots) {st0 : List Value} (hst : st0 = as.reverse ++ st) (d : Dc bytes pc (.invokestatic i) 3 nx)
    (K : ∀ v h' Ls', Qy v h' Ls' → Old Z n0 h' → h.size ≤ h'.size → Run Z n0 p l e R s own m args below meth c Q h' (k + rm.cells) (n + rm.slots) Ls' nx L (v.toList ++ st)) : Run Z n0 p l e R s own m args below meth c Q h k n Ls pc L st0 := fun T W => by
  have hd := hbD F d; obtain ⟨-, rfl⟩ := d
  obtain ⟨vm0, locs, k0, X, eT, hS, hk, hZ, hown, N, hO, I, kn⟩ := W
  subst hst
  obtain ⟨v, vm1, B, -, X', hS', hg, ⟨L1, Ls', q1, q2, q3, q4, q5, q6, q7⟩, st'⟩ := callSS X F.1 hown (mvT hZ wl) (mvT hZ ws) (mvT hZ wz) (mvT hZ wc) (hyOf hy) (C.back hZ I (kn.alike hS.1.alike) wc wz (Nat.le_of_ble_eq_true hf) (Nat.le_of_ble_eq_true hl)) (g := mkF m pc L.toArray (as.reverse ++ st)) rfl (by show L.toArray.size = _; rw [F.2.2.1, ← hsz]; simp) (argsL := as) (rest := st) (lenOf hsig hlen) rfl (by show 2 * 0 + _ ≤ _; omega) hd (fun _ _ => ⟨rfl, eT, hc, hs⟩)
  dsimp only [Pt.U, Pt.locs, Pt.cells, Pt.slots] at X' hS' hg q1 q2 q3 q5 q6 q7 st'
  rw [q5, q6, q7] at X'
  rw [eT] at hg
  obtain ⟨u, o, r1, r⟩ := K v _ Ls' q1 q2 hg B.1 ⟨B.1.vm, _, _, X', rfl, hS.trans hS' (Nat.le_trans hk hg), Nat.le_refl _, State.Warmed39.trans hZ hS'.1, (hS'.1.alike.findClass _ _).trans hown, N.app q4, q2, q3, kn⟩
  exact ⟨u, o, st'.trans r1, r⟩
theorem Run.callInit (F : Fx p c meth bytes ml ret nm) {i : Nat} {y : MethodName} {by' : ByteArray} {ml' : Nat} {rm : Room} {a : Nat} {as : List Value} {Qy : Option Value → Heap → Lits → Prop} {sig : MethodDescriptor}
    (wl : (Cond.methodLink own i y).before a0 Z = true) (ws : (Cond.instanceMethod y).before a0 Z = true) (wz : (Cond.initialized y.cls).before a0 Z = true) (wc : (Cond.code y by' ml' none).before a0 Z = true)
    (C : Con l Z n0 y by' ml' none rm (.ref a :: as) h Ls [] Qy) (hi : y.name = "<init>") (hy : (y.cls == "java/lang/invoke/MethodHandle" || y.cls == "java/lang/invoke/VarHandle") = false) (hsig : parseMethodDescriptor y.desc = some sig) (hlen : as.length = sig.parameters.length) (hsz : L.length = ml)
    (hf : Nat.ble (rm.frames + 1) R.frames = true) (hl : Nat.ble ((st.map fun v => v.category).sum + (ml' + 11) + rm.locals) R.locals = true) (hc : k + rm.cells ≤ R.cells) (hs : n + rm.slots ≤ R.slots) {st0 : List Value} (hst : st0 = as.reverse ++ .ref a :: st) (d : Dc bytes pc (.invokespecial i) 3 nx)
    (K : ∀ v h' Ls', Qy v h' Ls' → Old Z n0 h' → h.size ≤ h'.size → Run Z n0 p l e R s own m args below meth c Q h' (k + rm.cells) (n + rm.slots) Ls' nx L (v.toList ++ st)) : Run Z n0 p l e R s own m args below meth c Q h k n Ls pc L st0 := fun T W => by
  have hd := hbD F d; obtain ⟨-, rfl⟩ := d
  obtain ⟨vm0, locs, k0, X, eT, hS, hk, hZ, hown, N, hO, I, kn⟩ := W
  subst hst
  obtain ⟨v, vm1, B, -, X', hS', hg, ⟨L1, Ls', q1, q2, q3, q4, q5, q6, q7⟩, st'⟩ := X.specialBackS F.1 hi hown (mvT hZ wl) (mvT hZ ws) (mvT hZ wc) (hyOf hy) (C.back hZ I (kn.alike hS.1.alike) wc wz (Nat.le_of_ble_eq_true hf) (Nat.le_of_ble_eq_true hl)) (g := mkF m pc L.toArray (as.reverse ++ .ref a :: st)) rfl (by show L.toArray.size = _; rw [F.2.2.1, ← hsz]; simp) (Steps.refl _) (a := a) (argsL := as) (rest := st) (lenOf hsig hlen) rfl (by show 2 * 0 + _ ≤ _; omega) hd (fun _ _ => ⟨rfl, eT, hc, hs⟩)
  dsimp only [Pt.U, Pt.locs, Pt.cells, Pt.slots] at X' hS' hg q1 q2 q3 q5 q6 q7 st'
  rw [q5, q6, q7] at X'
  rw [eT] at hg
  obtain ⟨u, o, r1, r⟩ := K v _ Ls' q1 q2 hg B.1 ⟨B.1.vm, _, _, X', rfl, hS.trans hS' (Nat.le_trans hk hg), Nat.le_refl _, State.Warmed39.trans hZ hS'.1, (hS'.1.alike.findClass _ _).trans hown, N.app q4, q2, q3, kn⟩
  exact ⟨u, o, st'.trans r1, r⟩
theorem Run.callVirtual (F : Fx p c meth bytes ml ret nm) {i : Nat} {y z : MethodName} {K0 : String} {by' : ByteArray} {ml' : Nat} {ret' : Option FieldType} {rm : Room} {a : Nat} {as : List Value} {Qy : Option Value → Heap → Lits → Prop} {sig : MethodDescriptor}
    (wl : (Cond.methodLink own i y).before a0 Z = true) (wd : (Cond.declares y).before a0 Z = true) (nf : ∀ U : State, Z.Warmed39 U.vm → NotFace U y) (wsel : (Cond.selects K0 y z).before a0 Z = true) (ws : (Cond.instanceMethod z).before a0 Z = true) (wz : (Cond.initialized z.cls).before a0 Z = true) (wc : (Cond.code z by' ml' ret').before a0 Z = true) (E : Exa Z h a K0)
    (C : Con l Z n0 z by' ml' ret' rm (.ref a :: as) h Ls [] Qy) (hy : (y.cls == "java/lang/invoke/MethodHandle" || y.cls == "java/lang/invoke/VarHandle") = false) (hsig : parseMethodDescriptor y.desc = some sig) (hlen : as.length = sig.parameters.length) (hsz : L.length = ml)
    (hf : Nat.ble (rm.frames + 1) R.frames = true) (hl : Nat.ble ((st.map fun v => v.category).sum + (ml' + 11) + rm.locals) R.locals = true) (hc : k + rm.cells ≤ R.cells) (hs : n + rm.slots ≤ R.slots) {st0 : List Value} (hst : st0 = as.reverse ++ .ref a :: st) (d : Dc bytes pc (.invokevirtual i) 3 nx)
    (K : ∀ v h' Ls', Qy v h' Ls' → Old Z n0 h' → h.size ≤ h'.size → Run Z n0 p l e R s own m args below meth c Q h' (k + rm.cells) (n + rm.slots) Ls' nx L (v.toList ++ st)) : Run Z n0 p l e R s own m args below meth c Q h k n Ls pc L st0 := fun T W => by
  have hd := hbD F d; obtain ⟨-, rfl⟩ := d
  obtain ⟨vm0, locs, k0, X, eT, hS, hk, hZ, hown, N, hO, I, kn⟩ := W
  subst hst
  obtain ⟨cq, kq, qa, qb, qc⟩ := isOf hZ eT E
  obtain ⟨v, vm1, B, -, X', hS', hg, ⟨L1, Ls', q1, q2, q3, q4, q5, q6, q7⟩, st'⟩ := X.virtualBackS F.1 hown (mvT hZ wl) (mvT hZ wd) (nf _ hZ) (mvT hZ wsel) (mvT hZ ws) (hyOf hy) (C.back hZ I (kn.alike hS.1.alike) wc wz (Nat.le_of_ble_eq_true hf) (Nat.le_of_ble_eq_true hl)) qa qc (g := mkF m pc L.toArray (as.reverse ++ .ref a :: st)) rfl (by show L.toArray.size = _; rw [F.2.2.1, ← hsz]; simp) (Steps.refl _) (argsL := as) (rest := st) (lenOf hsig hlen) rfl (by show 2 * 0 + _ ≤ _; omega) hd (fun _ _ => ⟨rfl, eT, hc, hs⟩)
  dsimp only [Pt.U, Pt.locs, Pt.cells, Pt.slots] at X' hS' hg q1 q2 q3 q5 q6 q7 st'
  rw [q5, q6, q7] at X'
  rw [eT] at hg
  obtain ⟨u, o, r1, r⟩ := K v _ Ls' q1 q2 hg B.1 ⟨B.1.vm, _, _, X', rfl, hS.trans hS' (Nat.le_trans hk hg), Nat.le_refl _, State.Warmed39.trans hZ hS'.1, (hS'.1.alike.findClass _ _).trans hown, N.app q4, q2, q3, kn⟩
  exact ⟨u, o, st'.trans r1, r⟩
end Laws
end Jvm.Own
namespace Jvm.Own
open Sem ClassFile Op Lib Jvm.Stand Jvm.Free Jvm.LawKit Jvm.RoadKit
def b2i (b : Bool) : Int32 := if b then 1 else 0
theorem ic_lt (x y : Int32) : if_icmp.holds .lt x y = decide (x.toInt < y.toInt) := by simp [if_icmp.holds, Int32.lt_iff_toInt_lt]
theorem ic_ge (x y : Int32) : if_icmp.holds .ge x y = decide (y.toInt ≤ x.toInt) := by simp [if_icmp.holds, Int32.le_iff_toInt_le]
theorem ic_gt (x y : Int32) : if_icmp.holds .gt x y = decide (y.toInt < x.toInt) := by simp [if_icmp.holds, Int32.lt_iff_toInt_lt]
theorem ic_le (x y : Int32) : if_icmp.holds .le x y = decide (x.toInt ≤ y.toInt) := by simp [if_icmp.holds, Int32.le_iff_toInt_le]
theorem ic_eq (x y : Int32) : if_icmp.holds .eq x y = decide (x.toInt = y.toInt) := by
  by_cases q : x = y
  · subst q; simp [if_icmp.holds]
  · have : x.toInt ≠ y.toInt := fun e => q (Int32.toInt_inj.mp e)
    simp [if_icmp.holds, q, this]
theorem ic_ne (x y : Int32) : if_icmp.holds .ne x y = decide (x.toInt ≠ y.toInt) := by
  by_cases q : x = y
  · simp [if_icmp.holds, q]
  · have : x.toInt ≠ y.toInt := fun e => q (Int32.toInt_inj.mp e)
    simp [if_icmp.holds, q, this]
section Branch
variable {Z : State} {n0 : Nat} {p : Program} {l : Launch} {e : Env} {R : Room} {s : State} {own : String} {m : MethodId} {args : Array Value} {below : List Frame} {meth : Method} {c : Code} {Q : Option Value → Heap → Lits → Prop} {h : Heap} {k n : Nat} {Ls : Lits} {pc nx : Nat} {L : List Slot} {st : List Value}
variable {bytes : ByteArray} {ml : Nat} {ret : Option FieldType} {nm : String} {a0 : Array Value}

theorem Run.icmp_lt (F : Fx p c meth bytes ml ret nm) {x y : Int32} {o : Int} {t : Nat} (d : Dc bytes pc (.if_icmp .lt o) 3 nx) (ht : (pc : Int) + o = (t : Int)) {xi yi : Int} (hx : x.toInt = xi) (hy : y.toInt = yi)
    (K1 : xi < yi → Run Z n0 p l e R s own m args below meth c Q h k n Ls t L st) (K2 : yi ≤ xi → Run Z n0 p l e R s own m args below meth c Q h k n Ls nx L st) : Run Z n0 p l e R s own m args below meth c Q h k n Ls pc L (.int y :: .int x :: st) := by
  subst hx hy
  refine Run.icmp F d ht (fun q => K1 ?_) (fun q => K2 ?_)
  · rw [ic_lt] at q; exact of_decide_eq_true q
  · rw [ic_lt] at q; have := of_decide_eq_false q; omega
theorem Run.icmp_ge (F : Fx p c meth bytes ml ret nm) {x y : Int32} {o : Int} {t : Nat} (d : Dc bytes pc (.if_icmp .ge o) 3 nx) (ht : (pc : Int) + o = (t : Int)) {xi yi : Int} (hx : x.toInt = xi) (hy : y.toInt = yi)
    (K1 : yi ≤ xi → Run Z n0 p l e R s own m args below meth c Q h k n Ls t L st) (K2 : xi < yi → Run Z n0 p l e R s own m args below meth c Q h k n Ls nx L st) : Run Z n0 p l e R s own m args below meth c Q h k n Ls pc L (.int y :: .int x :: st) := by
  subst hx hy
  refine Run.icmp F d ht (fun q => K1 ?_) (fun q => K2 ?_)
  · rw [ic_ge] at q; exact of_decide_eq_true q
  · rw [ic_ge] at q; have := of_decide_eq_false q; omega
theorem Run.icmp_gt (F : Fx p c meth bytes ml ret nm) {x y : Int32} {o : Int} {t : Nat} (d : Dc bytes pc (.if_icmp .gt o) 3 nx) (ht : (pc : Int) + o = (t : Int)) {xi yi : Int} (hx : x.toInt = xi) (hy : y.toInt = yi)
    (K1 : yi < xi → Run Z n0 p l e R s own m args below meth c Q h k n Ls t L st) (K2 : xi ≤ yi → Run Z n0 p l e R s own m args below meth c Q h k n Ls nx L st) : Run Z n0 p l e R s own m args below meth c Q h k n Ls pc L (.int y :: .int x :: st) := by
  subst hx hy
  refine Run.icmp F d ht (fun q => K1 ?_) (fun q => K2 ?_)
  · rw [ic_gt] at q; exact of_decide_eq_true q
  · rw [ic_gt] at q; have := of_decide_eq_false q; omega
theorem Run.icmp_le (F : Fx p c meth bytes ml ret nm) {x y : Int32} {o : Int} {t : Nat} (d : Dc bytes pc (.if_icmp .le o) 3 nx) (ht : (pc : Int) + o = (t : Int)) {xi yi : Int} (hx : x.toInt = xi) (hy : y.toInt = yi)
    (K1 : xi ≤ yi → Run Z n0 p l e R s own m args below meth c Q h k n Ls t L st) (K2 : yi < xi → Run Z n0 p l e R s own m args below meth c Q h k n Ls nx L st) : Run Z n0 p l e R s own m args below meth c Q h k n Ls pc L (.int y :: .int x :: st) := by
  subst hx hy
  refine Run.icmp F d ht (fun q => K1 ?_) (fun q => K2 ?_)
  · rw [ic_le] at q; exact of_decide_eq_true q
  · rw [ic_le] at q; have := of_decide_eq_false q; omega
theorem Run.icmp_eq (F : Fx p c meth bytes ml ret nm) {x y : Int32} {o : Int} {t : Nat} (d : Dc bytes pc (.if_icmp .eq o) 3 nx) (ht : (pc : Int) + o = (t : Int)) {xi yi : Int} (hx : x.toInt = xi) (hy : y.toInt = yi)
    (K1 : xi = yi → Run Z n0 p l e R s own m args below meth c Q h k n Ls t L st) (K2 : xi ≠ yi → Run Z n0 p l e R s own m args below meth c Q h k n Ls nx L st) : Run Z n0 p l e R s own m args below meth c Q h k n Ls pc L (.int y :: .int x :: st) := by
  subst hx hy
  refine Run.icmp F d ht (fun q => K1 ?_) (fun q => K2 ?_)
  · rw [ic_eq] at q; exact of_decide_eq_true q
  · rw [ic_eq] at q; have := of_decide_eq_false q; omega
theorem Run.icmp_ne (F : Fx p c meth bytes ml ret nm) {x y : Int32} {o : Int} {t : Nat} (d : Dc bytes pc (.if_icmp .ne o) 3 nx) (ht : (pc : Int) + o = (t : Int)) {xi yi : Int} (hx : x.toInt = xi) (hy : y.toInt = yi)
    (K1 : xi ≠ yi → Run Z n0 p l e R s own m args below meth c Q h k n Ls t L st) (K2 : xi = yi → Run Z n0 p l e R s own m args below meth c Q h k n Ls nx L st) : Run Z n0 p l e R s own m args below meth c Q h k n Ls pc L (.int y :: .int x :: st) := by
  subst hx hy
  refine Run.icmp F d ht (fun q => K1 ?_) (fun q => K2 ?_)
  · rw [ic_ne] at q; exact of_decide_eq_true q
  · rw [ic_ne] at q; have := of_decide_eq_false q; omega
theorem Run.if_lt (F : Fx p c meth bytes ml ret nm) {x : Int32} {o : Int} {t : Nat} (d : Dc bytes pc (.ifCond .lt o) 3 nx) (ht : (pc : Int) + o = (t : Int)) {xi : Int} (hx : x.toInt = xi)
    (K1 : xi < 0 → Run Z n0 p l e R s own m args below meth c Q h k n Ls t L st) (K2 : 0 ≤ xi → Run Z n0 p l e R s own m args below meth c Q h k n Ls nx L st) : Run Z n0 p l e R s own m args below meth c Q h k n Ls pc L (.int x :: st) := by
  subst hx
  have z : (0 : Int32).toInt = 0 := rfl
  refine Run.if_ F d ht (fun q => K1 ?_) (fun q => K2 ?_)
  · rw [if0, ic_lt, z] at q; exact of_decide_eq_true q
  · rw [if0, ic_lt, z] at q; have := of_decide_eq_false q; omega
theorem Run.if_ge (F : Fx p c meth bytes ml ret nm) {x : Int32} {o : Int} {t : Nat} (d : Dc bytes pc (.ifCond .ge o) 3 nx) (ht : (pc : Int) + o = (t : Int)) {xi : Int} (hx : x.toInt = xi)
    (K1 : 0 ≤ xi → Run Z n0 p l e R s own m args below meth c Q h k n Ls t L st) (K2 : xi < 0 → Run Z n0 p l e R s own m args below meth c Q h k n Ls nx L st) : Run Z n0 p l e R s own m args below meth c Q h k n Ls pc L (.int x :: st) := by
  subst hx
  have z : (0 : Int32).toInt = 0 := rfl
  refine Run.if_ F d ht (fun q => K1 ?_) (fun q => K2 ?_)
  · rw [if0, ic_ge, z] at q; exact of_decide_eq_true q
  · rw [if0, ic_ge, z] at q; have := of_decide_eq_false q; omega
theorem Run.if_gt (F : Fx p c meth bytes ml ret nm) {x : Int32} {o : Int} {t : Nat} (d : Dc bytes pc (.ifCond .gt o) 3 nx) (ht : (pc : Int) + o = (t : Int)) {xi : Int} (hx : x.toInt = xi)
    (K1 : 0 < xi → Run Z n0 p l e R s own m args below meth c Q h k n Ls t L st) (K2 : xi ≤ 0 → Run Z n0 p l e R s own m args below meth c Q h k n Ls nx L st) : Run Z n0 p l e R s own m args below meth c Q h k n Ls pc L (.int x :: st) := by
  subst hx
  have z : (0 : Int32).toInt = 0 := rfl
  refine Run.if_ F d ht (fun q => K1 ?_) (fun q => K2 ?_)
  · rw [if0, ic_gt, z] at q; exact of_decide_eq_true q
  · rw [if0, ic_gt, z] at q; have := of_decide_eq_false q; omega
theorem Run.if_le (F : Fx p c meth bytes ml ret nm) {x : Int32} {o : Int} {t : Nat} (d : Dc bytes pc (.ifCond .le o) 3 nx) (ht : (pc : Int) + o = (t : Int)) {xi : Int} (hx : x.toInt = xi)
    (K1 : xi ≤ 0 → Run Z n0 p l e R s own m args below meth c Q h k n Ls t L st) (K2 : 0 < xi → Run Z n0 p l e R s own m args below meth c Q h k n Ls nx L st) : Run Z n0 p l e R s own m args below meth c Q h k n Ls pc L (.int x :: st) := by
  subst hx
  have z : (0 : Int32).toInt = 0 := rfl
  refine Run.if_ F d ht (fun q => K1 ?_) (fun q => K2 ?_)
  · rw [if0, ic_le, z] at q; exact of_decide_eq_true q
  · rw [if0, ic_le, z] at q; have := of_decide_eq_false q; omega
theorem Run.if_eq (F : Fx p c meth bytes ml ret nm) {x : Int32} {o : Int} {t : Nat} (d : Dc bytes pc (.ifCond .eq o) 3 nx) (ht : (pc : Int) + o = (t : Int)) {xi : Int} (hx : x.toInt = xi)
    (K1 : xi = 0 → Run Z n0 p l e R s own m args below meth c Q h k n Ls t L st) (K2 : xi ≠ 0 → Run Z n0 p l e R s own m args below meth c Q h k n Ls nx L st) : Run Z n0 p l e R s own m args below meth c Q h k n Ls pc L (.int x :: st) := by
  subst hx
  have z : (0 : Int32).toInt = 0 := rfl
  refine Run.if_ F d ht (fun q => K1 ?_) (fun q => K2 ?_)
  · rw [if0, ic_eq, z] at q; exact of_decide_eq_true q
  · rw [if0, ic_eq, z] at q; have := of_decide_eq_false q; omega
theorem Run.if_ne (F : Fx p c meth bytes ml ret nm) {x : Int32} {o : Int} {t : Nat} (d : Dc bytes pc (.ifCond .ne o) 3 nx) (ht : (pc : Int) + o = (t : Int)) {xi : Int} (hx : x.toInt = xi)
    (K1 : xi ≠ 0 → Run Z n0 p l e R s own m args below meth c Q h k n Ls t L st) (K2 : xi = 0 → Run Z n0 p l e R s own m args below meth c Q h k n Ls nx L st) : Run Z n0 p l e R s own m args below meth c Q h k n Ls pc L (.int x :: st) := by
  subst hx
  have z : (0 : Int32).toInt = 0 := rfl
  refine Run.if_ F d ht (fun q => K1 ?_) (fun q => K2 ?_)
  · rw [if0, ic_ne, z] at q; exact of_decide_eq_true q
  · rw [if0, ic_ne, z] at q; have := of_decide_eq_false q; omega
theorem Run.ifB_eq (F : Fx p c meth bytes ml ret nm) {b : Bool} {o : Int} {t : Nat} (d : Dc bytes pc (.ifCond .eq o) 3 nx) (ht : (pc : Int) + o = (t : Int))
    (K1 : b = false → Run Z n0 p l e R s own m args below meth c Q h k n Ls t L st) (K2 : b = true → Run Z n0 p l e R s own m args below meth c Q h k n Ls nx L st) : Run Z n0 p l e R s own m args below meth c Q h k n Ls pc L (.int (b2i b) :: st) := by
  cases b
  · exact Run.ifYes F d ht rfl (K1 rfl)
  · exact Run.ifNo F d rfl (K2 rfl)
theorem Run.ifB_ne (F : Fx p c meth bytes ml ret nm) {b : Bool} {o : Int} {t : Nat} (d : Dc bytes pc (.ifCond .ne o) 3 nx) (ht : (pc : Int) + o = (t : Int))
    (K1 : b = true → Run Z n0 p l e R s own m args below meth c Q h k n Ls t L st) (K2 : b = false → Run Z n0 p l e R s own m args below meth c Q h k n Ls nx L st) : Run Z n0 p l e R s own m args below meth c Q h k n Ls pc L (.int (b2i b) :: st) := by
  cases b
  · exact Run.ifNo F d rfl (K2 rfl)
  · exact Run.ifYes F d ht rfl (K1 rfl)
theorem Run.icmpB_eq (F : Fx p c meth bytes ml ret nm) {b b' : Bool} {o : Int} {t : Nat} (d : Dc bytes pc (.if_icmp .eq o) 3 nx) (ht : (pc : Int) + o = (t : Int))
    (K1 : b = b' → Run Z n0 p l e R s own m args below meth c Q h k n Ls t L st) (K2 : b ≠ b' → Run Z n0 p l e R s own m args below meth c Q h k n Ls nx L st) : Run Z n0 p l e R s own m args below meth c Q h k n Ls pc L (.int (b2i b') :: .int (b2i b) :: st) := by
  cases b <;> cases b'
  · exact Run.icmpYes F d ht rfl (K1 rfl)
  · exact Run.icmpNo F d rfl (K2 (by decide))
  · exact Run.icmpNo F d rfl (K2 (by decide))
  · exact Run.icmpYes F d ht rfl (K1 rfl)
theorem Run.icmpB_ne (F : Fx p c meth bytes ml ret nm) {b b' : Bool} {o : Int} {t : Nat} (d : Dc bytes pc (.if_icmp .ne o) 3 nx) (ht : (pc : Int) + o = (t : Int))
    (K1 : b ≠ b' → Run Z n0 p l e R s own m args below meth c Q h k n Ls t L st) (K2 : b = b' → Run Z n0 p l e R s own m args below meth c Q h k n Ls nx L st) : Run Z n0 p l e R s own m args below meth c Q h k n Ls pc L (.int (b2i b') :: .int (b2i b) :: st) := by
  cases b <;> cases b'
  · exact Run.icmpNo F d rfl (K2 rfl)
  · exact Run.icmpYes F d ht rfl (K1 (by decide))
  · exact Run.icmpYes F d ht rfl (K1 (by decide))
  · exact Run.icmpNo F d rfl (K2 rfl)
/-- a loop's head: P r .. with r the turns left -/
theorem Run.rec (P : Nat → Heap → Nat → Nat → Lits → List Slot → List Value → Prop)
    (step : ∀ r h k n Ls L st, P r h k n Ls L st → (∀ r' h' k' n' Ls' L' st', r' < r → P r' h' k' n' Ls' L' st' → Run Z n0 p l e R s own m args below meth c Q h' k' n' Ls' pc L' st') → Run Z n0 p l e R s own m args below meth c Q h k n Ls pc L st) :
    ∀ r h k n Ls L st, P r h k n Ls L st → Run Z n0 p l e R s own m args below meth c Q h k n Ls pc L st := fun r => by
  induction r using Nat.strongRecOn with
  | ind r ih => exact fun h k n Ls L st hP => step r h k n Ls L st hP fun r' h' k' n' Ls' L' st' hr hP' => ih r' hr h' k' n' Ls' L' st' hP'
/-- a place where roads meet -/
theorem Run.via {pcJ : Nat} (P : Heap → Nat → Nat → Lits → List Slot → List Value → Prop)
    (J : ∀ h k n Ls L st, P h k n Ls L st → Run Z n0 p l e R s own m args below meth c Q h k n Ls pcJ L st) (K : (∀ h k n Ls L st, P h k n Ls L st → Run Z n0 p l e R s own m args below meth c Q h k n Ls pcJ L st) → Run Z n0 p l e R s own m args below meth c Q h k n Ls pc L st) : Run Z n0 p l e R s own m args below meth c Q h k n Ls pc L st := K J
/-- .. the same, only the stack told -/
theorem Run.viaS {pcJ : Nat} (P : List Value → Prop)
    (J : ∀ st', P st' → Run Z n0 p l e R s own m args below meth c Q h k n Ls pcJ L st') (K : (∀ st', P st' → Run Z n0 p l e R s own m args below meth c Q h k n Ls pcJ L st') → Run Z n0 p l e R s own m args below meth c Q h k n Ls pc L st) : Run Z n0 p l e R s own m args below meth c Q h k n Ls pc L st := K J
/-- as if more had been made -/
theorem Run.more {k' n' : Nat} (hk : k ≤ k') (hn : n ≤ n') (K : Run Z n0 p l e R s own m args below meth c Q h k' n' Ls pc L st) : Run Z n0 p l e R s own m args below meth c Q h k n Ls pc L st := fun T W => by
  obtain ⟨vm0, locs, k0, X, r⟩ := W
  exact K T ⟨vm0, locs, k0, X.mono hk hn, r⟩
end Branch
end Jvm.Own
namespace Jvm.Own
open Sem ClassFile Op Lib Jvm.Stand Jvm.Free Jvm.LawKit Jvm.RoadKit
theorem i32_nn {i : Nat} (h : i < 2 ^ 31) : ¬ Int32.ofNat i < 0 := by
  rw [Int32.lt_iff_toInt_lt, Int32.toInt_ofNat_small h]
  have z : (0 : Int32).toInt = 0 := rfl
  omega
theorem i32_tn {i : Nat} (h : i < 2 ^ 31) : (Int32.ofNat i).toNatClampNeg = i := Jvm.Free.XT.n32 h
theorem i32_ti {i : Nat} (h : i < 2 ^ 31) : (Int32.ofNat i).toInt = i := Int32.toInt_ofNat_small h
theorem i32_eq {x : Int32} {i : Nat} (h : x.toInt = i) : x = Int32.ofNat i := by
  apply Int32.toInt_inj.mp
  have := x.toInt_lt
  rw [h, Int32.toInt_ofNat_small (by omega)]
theorem i32_nneg {x : Int32} (h : 0 ≤ x.toInt) : ¬ x < 0 := by
  rw [Int32.lt_iff_toInt_lt]; have z : (0 : Int32).toInt = 0 := rfl; omega
theorem i32_nat {x : Int32} {i : Nat} (h : x.toInt = i) : x.toNatClampNeg = i := by show x.toInt.toNat = i; omega
/-- the byte that holds a char -/
def lb (c : Int32) : Value := .int c.toInt8.toInt32
theorem chr_toInt (x : Int32) : (chr x).toInt = x.toInt % 65536 := by
  have e : (chr x).toBitVec.toNat = x.toBitVec.toNat % 65536 := by
    show x.toUInt32.toUInt16.toUInt32.toNat = _
    rw [UInt16.toNat_toUInt32, UInt32.toNat_toUInt16]; rfl
  have h1 : (chr x).toInt = (chr x).toBitVec.toInt := rfl
  have h2 : x.toInt = x.toBitVec.toInt := rfl
  rw [h1, h2, BitVec.toInt_eq_toNat_cond, BitVec.toInt_eq_toNat_cond, e]
  have := x.toBitVec.isLt
  split <;> split <;> omega
theorem chr_id {x : Int32} (h0 : 0 ≤ x.toInt) (h1 : x.toInt < 65536) : chr x = x := Int32.toInt_inj.mp (by rw [chr_toInt]; omega)
theorem chr_chr (x : Int32) : chr (chr x) = chr x := chr_id (by rw [chr_toInt]; omega) (by rw [chr_toInt]; omega)
theorem nar_char (x : Int32) : nar .char x = chr x := rfl
theorem narrow_chr (x : Int32) : narrow .char (.int (chr x)) = .int (chr x) := by
  have : narrow .char (.int (chr x)) = .int (chr (chr x)) := rfl
  rw [this, chr_chr]
theorem narrow_char {x : Int32} (h0 : 0 ≤ x.toInt) (h1 : x.toInt < 65536) : narrow .char (.int x) = .int x := by rw [← chr_id h0 h1]; exact narrow_chr x
theorem and255 (x : Int32) : (x &&& 255).toInt = x.toInt % 256 := c_mask x 255 8 (by decide) (by decide)
theorem low8 {c : Int32} (h0 : 0 ≤ c.toInt) (h1 : c.toInt < 256) : chr (c.toInt8.toInt32 &&& 255) = c := by
  apply Int32.toInt_inj.mp
  have := c_i2b c
  rw [chr_toInt, and255]; omega
theorem narB (c : Int32) : nar .byte c.toInt8.toInt32 = c.toInt8.toInt32 := by
  show c.toInt8.toInt32.toInt8.toInt32 = _
  simp
theorem b2i_narrow (b : Bool) : narrow .boolean (.int (b2i b)) = .int (b2i b) := by cases b <;> rfl
theorem take_set {cs : List Int32} {i r : Nat} {c : Int32} (hi : i + (r + 1) = cs.length) (hc : cs[i]? = some c) :
    ((cs.take i).map lb ++ List.replicate (r + 1) (Value.int 0)).set i (lb c) = (cs.take (i + 1)).map lb ++ List.replicate r (Value.int 0) := by
  have hl : ((cs.take i).map lb).length = i := by simp; omega
  rw [List.set_append_right _ _ (by omega), hl, Nat.sub_self, List.replicate_succ, List.set_cons_zero, List.take_succ, hc]
  simp
theorem mapInt_get {cs : List Int32} {i : Nat} {c : Int32} (h : cs[i]? = some c) : (cs.map Value.int)[i]? = some (.int c) := by simp [h]
theorem lb_get {cs : List Int32} {i : Nat} {c : Int32} (h : cs[i]? = some c) : (cs.map lb)[i]? = some (.int c.toInt8.toInt32) := by simp [h, lb]
theorem coder0 (n : Nat) : ((XT.ushr (Int32.ofNat n - Int32.ofNat n) 31).toInt8.toInt32) = 0 := by
  rw [Int32.sub_self]; decide
theorem i32_pred {i : Nat} (h : i < 2 ^ 31) : (Int32.ofNat i - 1).toInt = (i : Int) - 1 := by
  have h1 := c_isub (Int32.ofNat i) 1
  have h2 := rng32 (Int32.ofNat i - 1)
  have h3 : (1 : Int32).toInt = 1 := rfl
  rw [i32_ti h, h3] at h1
  omega
theorem chr255 (x : Int32) : 0 ≤ (chr (x &&& 255)).toInt ∧ (chr (x &&& 255)).toInt < 256 := by rw [chr_toInt, and255]; omega
theorem i32_mod {x y : Int32} (hx : 0 ≤ x.toInt) (hy : 0 < y.toInt) : (x % y).toInt = x.toInt % y.toInt := by
  rw [Int32.toInt_mod, Int.tmod_eq_emod_of_nonneg hx]
theorem mask31 (x : Int32) : (x &&& 2147483647).toInt = x.toInt % 2147483648 := c_mask x 2147483647 31 (by decide) (by decide)
theorem ltE {Z : State} {h : Heap} {a : Nat} {C : String} (E : Exa Z h a C) : a < h.size := E.lt
theorem ninN {x y : Nat} {L : List Nat} (q : x ≠ y) (r : x ∉ L) : x ∉ y :: L := fun z => (List.mem_cons.mp z).elim q r
theorem mem1 {x : Nat} : x ∈ [x] := List.mem_singleton.mpr rfl
theorem mem2 {x y : Nat} : x ∈ [x, y] := List.mem_cons_self ..
theorem mem3 {x y : Nat} : y ∈ [x, y] := List.mem_cons_of_mem _ mem1
end Jvm.Own
namespace Jvm.Own
open Sem ClassFile Op Lib Jvm.Stand Jvm.Free Jvm.LawKit Jvm.RoadKit Jvm.Free.SB Jvm.Free.SBG
/-- a String and its bytes -/
def Str (Z : State) (h : Heap) (a b : Nat) (co : Int32) (vs : List Value) : Prop :=
  Exa Z h a "java/lang/String" ∧ Fld Z h a "java/lang/String" "coder" "B" (.int co) ∧ Fld Z h a "java/lang/String" "value" "[B" (.ref b) ∧ Av Z h b .byte vs
theorem Str.keep {Z : State} {h h' : Heap} {ws : List Addr} {a b : Nat} {co : Int32} {vs : List Value} (S : Str Z h a b co vs) (K : Keep h h' ws) (q : a ∉ ws) (q' : b ∉ ws) : Str Z h' a b co vs :=
  ⟨S.1.keep K, S.2.1.keep K q, S.2.2.1.keep K q, S.2.2.2.keep K q'⟩
theorem Str.la {Z : State} {h : Heap} {a b : Nat} {co : Int32} {vs : List Value} (S : Str Z h a b co vs) : a < h.size := S.1.lt
theorem Str.lb {Z : State} {h : Heap} {a b : Nat} {co : Int32} {vs : List Value} (S : Str Z h a b co vs) : b < h.size := S.2.2.2.lt
def litB (text : String) : List Value := text.toList.map fun c => Value.int (Jvm.Lit.byteI c.toNat.toUInt16)
theorem slStr {Z U : State} {q : SQ} {cS : ClassId} {units : Array UInt16} {text : String} (hal : Z.vm.Alike U.vm) (htext : utf16ToString? units = some text) (ht : ∀ c ∈ text.toList, c.toNat < 256) (S : Sl q cS U)
    (hk : ∃ kS : Class, U.vm.classes[cS]? = some kS ∧ kS.kind = .ordinary ∧ q.sC.slots.size = kS.instanceTypes.size) (hB : U.vm.findClass "[B" = some q.SA.cls) (hb : q.SA.slots = stringBytes units) : Str Z U.heap q.sa q.sd 0 (litB text) := by
  obtain ⟨⟨s1, s2, s3, ⟨cv, kv, iv, s4, s4'⟩, ⟨cc, kc, ic, s5, s5'⟩, s6, s7, s8, s9, s10, s11, s12, s13, s14, s15, s16⟩, hf, hc⟩ := S
  obtain ⟨kv', z4⟩ := ff_back hal s4
  obtain ⟨kc', z5⟩ := ff_back hal s5
  obtain ⟨kS, k1, -, k3⟩ := hk
  have hfZ : Z.vm.findClass "java/lang/String" = some q.sC.cls := by rw [← hal.findClass, hc]; exact hf
  obtain ⟨kz, hkz, -⟩ := Vm.findClass_spec hfZ
  obtain ⟨kz', hkz', ekz⟩ := hal.2.2 _ _ hkz
  have e1 : kz' = kS := Option.some.inj (hkz'.symm.trans (hc ▸ k1))
  have hlat := Jvm.ClassFile.lat_of_text htext ht
  have hsl : q.SA.slots = units.map fun u => Value.int (Jvm.Lit.byteI u) := by rw [hb, SBG.stringBytes_lat hlat]; rfl
  have hl : q.SA.slots.toList = litB text := by
    rw [hsl, Array.toList_map, Jvm.ClassFile.units_of_text htext ht, List.map_map]; rfl
  obtain ⟨hst, k9, hk9, comp, hkind⟩ := s11
  have hBZ : Z.vm.findClass "[B" = some q.SA.cls := by rw [← hal.findClass]; exact hB
  obtain ⟨kb, hkb, -⟩ := Vm.findClass_spec hBZ
  obtain ⟨kb', hkb', ekb⟩ := hal.2.2 _ _ hkb
  have e9 : k9 = kb' := Option.some.inj (hk9.symm.trans hkb')
  refine ⟨⟨q.sC, kz, s1, hfZ, hkz, s3, fun _ => by rw [k3, ← e1, ekz]⟩, ⟨q.sC, cc, kc', ic, q.fSC, s1, z5, s7, s2, s3, by rw [← hal.assignable]; exact s5', s9⟩,
    ⟨q.sC, cv, kv', iv, q.fSV, s1, z4, s6, s2, s3, by rw [← hal.assignable]; exact s4', s8⟩, q.SA, ⟨s10, ⟨hst, kb, hkb, comp, by rw [e9, ekb] at hkind; exact hkind⟩, s12⟩, hl, ?_, fun v hv => ?_⟩
  · rw [← hl]; simpa [s13] using s14
  · rw [← hl] at hv
    obtain ⟨j, hj, rfl⟩ := List.mem_iff_getElem.mp hv
    have hj' : j < q.SA.slots.size := by simpa using hj
    have := s16 j hj'
    rw [getD_of (Array.getElem?_eq_getElem hj')] at this
    simpa using this
section Lit
variable {Z : State} {n0 : Nat} {p : Program} {l : Launch} {e : Env} {R : Room} {s : State} {own : String} {m : MethodId} {args : Array Value} {below : List Frame} {meth : Method} {c : Code} {Q : Option Value → Heap → Lits → Prop} {h : Heap} {k n : Nat} {pc nx : Nat} {L : List Slot} {st : List Value}
variable {bytes : ByteArray} {ml : Nat} {ret : Option FieldType} {nm : String} {a0 : Array Value} {T : State} {locs : List Loc} {cells slots : Nat}
/-- the walk's own place taken for a start: nothing written, nothing made yet -/
theorem anew (X : Stand p l e R s m args below meth c T locs cells slots) (hc : cells ≤ R.cells) (hn : slots ≤ R.slots) :
    ∃ s2 : State, s2.heap = T.heap ∧ s2.vm = T.vm ∧ T = s2.setFrames T.frames ∧ Stand p l e { R with cells := R.cells - cells, slots := R.slots - slots } s2 m args below meth c T [] 0 0 := by
  have X1 : Stand p l e R (s.setVm T.vm) m args below meth c T locs cells slots := X.retabled X.warmed.wide
  have e1 : T = { (s.setVm T.vm).setFrames T.frames with heap := T.heap, slotsUsed := T.slotsUsed } := X1.same.1
  refine ⟨{ s.setVm T.vm with heap := T.heap, slotsUsed := T.slotsUsed }, rfl, rfl, e1, X1.admits, X1.cas, X1.clock, X1.frames, ?_, X1.hears, X1.method, X1.code, X1.here, X1.tail, State.WarmedH.refl _, X1.limits, X1.bytes, ?_⟩
  · have r := X1.room
    have hb : T.slotsTrue = true := X1.book
    have h1 := X1.heapSize
    have h2 := X1.used
    simp only [State.hasRoom, Bool.and_eq_true, decide_eq_true_eq] at r ⊢
    obtain ⟨⟨⟨⟨r1, r2⟩, r3⟩, r4⟩, r5⟩ := r
    refine ⟨⟨⟨⟨r1, r2⟩, ?_⟩, ?_⟩, hb⟩
    · show T.heap.size + (R.cells - cells) ≤ _; omega
    · show T.slotsUsed + (R.slots - slots) ≤ _; omega
  · refine ⟨e1, Nat.le_refl _, Nat.le_refl _, ?_, ?_, fun a cl ha => ⟨cl, ha, rfl, rfl, fun _ _ => rfl⟩⟩
    · show T.slotsUsed = T.slotsUsed + ((T.heap.toList.drop T.heap.size).map (·.slots.size)).sum
      rw [List.drop_eq_nil_of_le (by simp)]; rfl
    · show ((T.heap.toList.drop T.heap.size).map (·.slots.size)).sum ≤ 0
      rw [List.drop_eq_nil_of_le (by simp)]; exact Nat.le_refl _
/-- .. and back: what was made from there is made from the true start -/
theorem ofAnew (X : Stand p l e R s m args below meth c T locs cells slots) {s2 T2 : State} {R2 : Room} {k2 n2 : Nat} (hT : T = s2.setFrames T.frames) (X0 : Stand p l e R2 s2 m args below meth c T [] 0 0)
    (X2 : Stand p l e R2 (s2.setVm T2.vm) m args below meth c T2 [] k2 n2) (hS : s2.Since T2.vm T2.heap.size) :
    Stand p l e R (s.setVm T2.vm) m args below meth c T2 locs (cells + k2) (slots + n2) ∧ s.Since T2.vm T2.heap.size := by
  have hW : T.Warmed39 T2.vm := by rw [hT]; exact hS.1
  have hB : T.Booked T2.vm T2.heap.size := by rw [hT]; exact hS.2
  have q : s2.sameButNew (T2.setVm s2.vm) [] k2 n2 := X2.same.setVm s2.vm
  have q' : T.sameButNew (T2.setVm T.vm) [] k2 n2 := by
    rw [hT]
    obtain ⟨q1, q2⟩ := q
    refine ⟨?_, q2⟩
    rw [State.setFrames_setFrames]
    exact q1
  have r := X.movedW X2.here X2.tail (X2.limits.trans X0.limits.symm) (X2.bytes.trans X0.bytes.symm) hW hB q'
  rw [List.append_nil] at r
  exact r
/-- a String constant, whatever the table holds of it -/
theorem Run.ldcS {lt : List (String × Addr)} {text : String} {P : Addr → Addr → Prop} (F : Fx p c meth bytes ml ret nm) {i : Nat} (w : (Cond.stringLink own i text).before a0 Z = true) (wS : ∀ a ∈ Bundle.stringAtoms, a.before a0 Z = true) (hh : Jvm.Lit.constHeld Z own i) (hcw : Jvm.Lit.compactW.before a0 Z = true)
    (ht : ∀ c ∈ text.toList, c.toNat < 256) (hLs : ∀ t ∈ lt, t.1 = text → ∃ b, Str Z h t.2 b 0 (litB text) ∧ P t.2 b) (cap : Nat) (hcap : 4 * text.toList.length ≤ cap) (hbig0 : Nat.ble cap 536870912 = true) (hc : k + 2 ≤ R.cells) (hl : n + (cap + 4) ≤ R.slots) (d : Dc bytes pc (.ldc i) 2 nx)
    (K : ∀ h' a b, Keep h h' [] → Str Z h' a b 0 (litB text) → ((a < n0 ∧ b < n0) ∨ (h.size ≤ a ∧ h.size ≤ b) ∨ P a b) → Run Z n0 p l e R s own m args below meth c Q h' (k + 2) (n + (cap + 4)) (some ((text, a) :: lt)) nx L (.ref a :: st)) :
    Run Z n0 p l e R s own m args below meth c Q h k n (some lt) pc L st := fun T W => by
  have hbig : cap ≤ 536870912 := Nat.le_of_ble_eq_true hbig0
  have hd := hbD F d; obtain ⟨-, rfl⟩ := d
  obtain ⟨vm0, locs, k0, X, eT, hS, hk, hZ, hown, N, hO, I, kn⟩ := W
  have hi : T.vm.interned = vm0.interned := X.warmed.interned_eq
  have X1 : Stand p l e R (s.setVm T.vm) m args below meth c T locs k n := X.retabled X.warmed.wide
  have hW0 : (s.setVm vm0).Warmed39 T.vm := X.warmed.wide
  have hS1 : s.Since T.vm h.size := hS.trans (X.warmed.since h.size) hk
  have hZ1 : Z.Warmed39 T.vm := State.Warmed39.trans hZ hW0
  have hown1 : T.vm.findClass own = some m.cls := (hW0.alike.findClass _ _).trans hown
  have I1 : Itn Z T.vm (some lt) := I.eq hi
  have wi : (Cond.instantiable "java/lang/String" 4).before a0 Z = true := wS _ (by simp [Bundle.stringAtoms, Bundle.sN])
  have wa : (Cond.arrayClass .byte).before a0 Z = true := wS _ (by simp [Bundle.stringAtoms])
  have hH : ConstHeldL Z own i := heldStart hh w ht hcw wa wi
  have w1 : (Cond.stringLink own i text).before args (s.setVm T.vm) = true := mvS hZ1 w
  obtain ⟨kk, cf, si, units, hkk, hcf, hcp, hu, hnm, htext, hres⟩ := Cond.stringLink_spec (s := s.setVm T.vm) hown1 w1
  have hkk' : T.vm.classes[m.cls]? = some kk := hkk
  -- the class at the start of the law
  have hownZ : Z.vm.findClass own = some m.cls := by rw [← hZ1.alike.findClass]; exact hown1
  obtain ⟨kz, cz, iz, uz, hkz, hcfz, hcpz, huz, hnmz, htextz, hresz⟩ := Cond.stringLink_spec hownZ w
  obtain ⟨kk2, hkk2, ekk, -, eent, -⟩ := hZ1.2.2.2 _ kz hkz
  cases hkk'.symm.trans hkk2
  have ecf : cz = cf := by have q : kk.cf = kz.cf := by rw [ekk]
                           rw [hcf, hcfz] at q; exact (Option.some.inj q).symm
  subst ecf
  cases hcpz.symm.trans hcp
  cases huz.symm.trans hu
  -- what is held where the walk stands
  have held : ∀ a, (kk.resolved[i]? = some (some (.string a)) ∨ (kk.resolved[i]? = some none ∧ T.vm.interned.find? (fun p => p.1 == units) = some (units, a))) → ∃ b, Str Z h a b 0 (litB text) ∧ ((a < n0 ∧ b < n0) ∨ P a b) := by
    intro a ha
    have fromZ : SlOf Z a units → ∃ b, Str Z h a b 0 (litB text) ∧ ((a < n0 ∧ b < n0) ∨ P a b) := by
      rintro ⟨q, cS, rfl, S, hkS, hB, hb⟩
      have R0 := slStr (Vm.Alike.refl _) htext ht S hkS hB hb
      refine ⟨q.sd, R0.keep (Keep.ofExt hO.2) nin0 nin0, Or.inl ⟨?_, ?_⟩⟩
      · have := R0.la; rw [hO.1] at this; exact this
      · have := R0.lb; rw [hO.1] at this; exact this
    have fromI : kz.resolved[i]? = some none → T.vm.interned.find? (fun p => p.1 == units) = some (units, a) → ∃ b, Str Z h a b 0 (litB text) ∧ ((a < n0 ∧ b < n0) ∨ P a b) := by
      intro hop hf
      obtain ⟨more, em, hm⟩ := I1 lt rfl
      rw [em, Array.find?_append] at hf
      cases hs : Z.vm.interned.find? (fun p => p.1 == units) with
      | some pr =>
        rw [hs] at hf
        exact fromZ (hH _ kz cz si units a hownZ hkz hcfz hcpz huz (Or.inr ⟨hop, by rw [hs]; simpa using hf⟩))
      | none =>
        rw [hs, Option.none_or] at hf
        obtain ⟨t, htm, h1, h2⟩ := hm _ (Array.mem_of_find?_eq_some hf)
        have e1 : t.1 = text := Option.some.inj (h1.symm.trans htext)
        obtain ⟨b, hb, hp⟩ := hLs t htm e1
        have e2 : t = (text, a) := Prod.ext e1 h2.symm
        subst e2
        exact ⟨b, hb, Or.inr hp⟩
    rcases eent i with e0 | ⟨hop, r, e1, hr | ⟨a3, t, si', us, rfl, -, q3, q4, q5⟩⟩
    · rcases ha with h0 | ⟨h0, hf⟩
      · exact fromZ (hH _ kz cz si units a hownZ hkz hcfz hcpz huz (Or.inl (e0 ▸ h0)))
      · exact fromI (e0 ▸ h0) hf
    · exfalso
      cases r <;> simp [State.rightAt, hkz, hcfz, hnmz] at hr
    · rw [hcfz] at q3 q4
      have e3 : si' = si := by have := q3.symm.trans hcpz; simpa using this
      subst e3
      have e4 : us = units := by simpa [ConstantPool.utf8?, huz] using q4.symm
      subst e4
      rcases ha with h0 | ⟨h0, hf⟩
      · have ea : a3 = a := by have := e1.symm.trans h0; simpa using this
        subst ea
        exact fromI hop q5
      · have := e1.symm.trans h0; simp at this
  have more1 : ∀ a, Itn Z T.vm (some ((text, a) :: lt)) := fun a lt' hlt' => by
    obtain ⟨more, em, hm⟩ := I1 lt rfl
    cases hlt'
    exact ⟨more, em, fun q hq => by obtain ⟨t, h1, h2⟩ := hm q hq; exact ⟨t, List.mem_cons_of_mem _ h1, h2⟩⟩
  rcases hres with hopen | ⟨a, hra⟩
  · cases hf : T.vm.interned.find? (fun p => p.1 == units) with
    | some pr =>
      obtain ⟨u', a⟩ := pr
      have hu' : u' = units := by have := Array.find?_some hf; simpa using this
      subst hu'
      obtain ⟨b, S, hpos⟩ := held a (Or.inr ⟨hopen, hf⟩)
      have q2 : kk.cf.bind (namesOf? ·.constantPool i) = some (.string text) := by rw [hcf]; exact hnm
      have q3 : kk.cf.bind (·.constantPool[i]?) = some (.string si) := by rw [hcf]; exact hcp
      have q4 : kk.cf.bind (·.constantPool.utf8? si) = some u' := by rw [hcf]; simp [ConstantPool.utf8?, hu]
      have hW : (s.setVm T.vm).Warmed39 (T.vm.noted m.cls i (.string a)) := (State.Warmed39.refl (s.setVm T.vm)).notedString hkk (Or.inl hopen) q2 q3 q4 hf
      have X2 : Stand p l e R (s.setVm (T.vm.noted m.cls i (.string a))) m args below meth c (T.setVm (T.vm.noted m.cls i (.string a))) locs k n := X1.retabled hW
      have hS2 : s.Since (T.vm.noted m.cls i (.string a)) h.size := hS1.trans ⟨hW, fun j pp hj hp => by
        have : T.vm.interned[j]? = some pp := hp
        exact absurd (Array.getElem?_eq_some_iff.mp this).1 (Nat.not_lt.mpr hj)⟩ (Nat.le_refl _)
      obtain ⟨u, o, r1, r⟩ := K h a b (Keep.refl _ _) S (hpos.imp id Or.inr) _ ⟨_, locs, h.size, X2.mono (Nat.le_add_right _ _) (Nat.le_add_right _ _), eT, hS2, Nat.le_refl _, State.Warmed39.trans (t := s.setVm T.vm) hZ1 hW, (hW.alike.findClass _ _).trans hown1, N, hO, (more1 a).eq rfl, kn⟩
      refine ⟨u, o, ?_, r⟩
      show Steps p.tables e below (T.setTop { method := m, pc := pc, locals := L.toArray, stack := st, locked := none }) u
      jvm_step X.here [F.1, hd, ldc.wp_string_found (e := e) (s := T) (f := mkF m pc L.toArray st) X.here.top hkk' hcf hcp hu hopen hf]
      exact r1
    | none =>
      obtain ⟨s2, e2h, e2v, hT, X0⟩ := anew X1 (by omega) (by omega)
      have X0' : Stand p l e { R with cells := R.cells - k, slots := R.slots - n } s2 m args below meth c T [] 0 0 := X0
      have hown2 : s2.vm.findClass own = some m.cls := by rw [e2v]; exact hown1
      have hZ2 : Z.Warmed39 s2.vm := by rw [e2v]; exact hZ1
      have hkk2 : s2.vm.classes[m.cls]? = some kk := by rw [e2v]; exact hkk'
      have vac : ConstHeldL s2 own i := fun c' k' cf' i' us' a' h1 h2 h3 h4 h5 h6 => by
        exfalso
        cases hown2.symm.trans h1
        cases hkk2.symm.trans h2
        cases hcf.symm.trans h3
        cases hcp.symm.trans h4
        cases hu.symm.trans h5
        rcases h6 with h6 | ⟨-, h6⟩
        · have := hopen.symm.trans h6; simp at this
        · rw [e2v, hf] at h6; cases h6
      obtain ⟨a, T2, X2, hS2, ⟨k2, hk2, hr2⟩, hkeep, -, hint, ⟨us, hus, hin⟩, stp⟩ := X0'.ldcColdF (fun b cl hb => by rw [e2h] at hb; exact hb) F.1 (own := own) (text := text) hown2 (mvS (s := s2) hZ2 w) (fun dd hdd => by
        have q := wS dd hdd
        simp only [Bundle.stringAtoms, List.mem_cons, List.not_mem_nil, or_false] at hdd
        rcases hdd with rfl | rfl | rfl | rfl | rfl | rfl | rfl
        · exact mv (s := s2) hZ2 q
        · exact mv (s := s2) hZ2 q
        · exact mvA (s := s2) hZ2 q
        · exact mv (s := s2) hZ2 q
        · exact mv (s := s2) hZ2 q
        · exact mv (s := s2) hZ2 q
        · exact mv (s := s2) hZ2 q) vac (fun us hus => Jvm.ClassFile.lat_of_text hus ht) (g := mkF m pc L.toArray st) rfl hd (n := cap) hcap hbig (by show 0 + 2 ≤ R.cells - k; omega) (by show 0 + (cap + 4) ≤ R.slots - n; omega)
      obtain ⟨X3, hS3⟩ := ofAnew X1 hT X0' X2 hS2
      -- the pair that came is this constant's
      obtain ⟨k2', hk2', -, -, ee2, -⟩ := hS2.1.2.2.2 _ kk hkk2
      cases hk2.symm.trans hk2'
      have hfind : T2.vm.interned.find? (fun p => p.1 == units) = some (units, a) := by
        rcases ee2 i with e0 | ⟨-, r, e1, hr | ⟨a3, t, si', us', rfl, -, q3, q4, q5⟩⟩
        · have := (e0.symm.trans hr2).symm.trans hopen; simp at this
        · exfalso
          cases e1.symm.trans hr2
          simp [State.rightAt, hkk2, hcf, hnm] at hr
        · rw [hcf] at q3 q4
          have e3 : si' = si := by have := q3.symm.trans hcp; simpa using this
          subst e3
          have e4 : us' = units := by simpa [ConstantPool.utf8?, hu] using q4.symm
          subst e4
          have ea : a3 = a := by have := e1.symm.trans hr2; simpa using this
          subst ea
          exact q5
      have hpush : T2.vm.interned = T.vm.interned.push (units, a) := by
        rcases hint with e0 | ⟨u2, a2, -, e0⟩
        · rw [e0, hf] at hfind; cases hfind
        · rw [e0, ← Array.append_singleton, Array.find?_append, hf, Option.none_or] at hfind
          have hmem := Array.mem_of_find?_eq_some hfind
          have : (units, a) = (u2, a2) := by simpa using hmem
          rw [this]; exact e0
      have hge : h.size ≤ a := by
        have := (hS2.2 T.vm.interned.size (units, a) (by rw [e2v]; exact Nat.le_refl _) (by rw [hpush]; simp)).1
        rw [e2h, eT] at this; exact this
      obtain ⟨q, cS, rfl, S, hkS, hB, hb, hpos⟩ := hin
      have hal2 : Z.vm.Alike T2.vm := (State.Warmed39.trans hZ2 hS2.1).alike
      have SS := slStr hal2 hus ht S hkS hB hb
      have hpos' : h.size ≤ q.sd := by
        rcases hpos with ⟨x, -⟩ | ⟨-, y⟩
        · rw [e2h, eT] at x; exact absurd x (Nat.not_lt.mpr hge)
        · rw [eT] at y; exact y
      have E : Ext h T2.heap := ext_of fun b hb => by rw [← eT] at hb ⊢; exact hkeep b hb
      obtain ⟨u, o, r1, r⟩ := K T2.heap q.sa q.sd (Keep.ofExt E) SS (Or.inr (Or.inl ⟨hge, hpos'⟩)) T2 ⟨T2.vm, locs, T2.heap.size, X3.mono (by omega) (by omega), rfl, hS1.trans hS3 E.1, Nat.le_refl _, State.Warmed39.trans hZ2 hS2.1, (hS2.1.alike.findClass _ _).trans hown2, N, hO.ext E, fun lt' hlt' => by
        cases hlt'
        obtain ⟨more, em, hm⟩ := I1 lt rfl
        refine ⟨more.push (units, q.sa), by rw [hpush, em]; simp, fun pp hpp => ?_⟩
        rcases Array.mem_push.mp hpp with y | y
        · obtain ⟨t, h1, h2⟩ := hm pp y; exact ⟨t, List.mem_cons_of_mem _ h1, h2⟩
        · subst y; exact ⟨(text, q.sa), List.mem_cons_self .., htext, rfl⟩, kn⟩
      exact ⟨u, o, stp _ r1, r⟩
  · obtain ⟨b, S, hpos⟩ := held a (Or.inl hra)
    have Lt : Lit (s.setVm T.vm) own i a := by
      have : (s.setVm T.vm).vm.findClass own = some m.cls := hown1
      have k1 : T.vm.findClass own = some m.cls := hown1
      show State.resolvedAt? _ _ _ = _
      simp [State.resolvedAt?, k1, hkk', hra]
    obtain ⟨u, o, r1, r⟩ := K h a b (Keep.refl _ _) S (hpos.imp id Or.inr) T ⟨T.vm, locs, h.size, X1.mono (Nat.le_add_right _ _) (Nat.le_add_right _ _), eT, hS1, Nat.le_refl _, hZ1, hown1, N, hO, more1 a, kn⟩
    exact ⟨u, o, ldcAgain (s := s) (vm0 := T.vm) X1 F.1 hZ1 hown1 w Lt (g := mkF m pc L.toArray st) rfl hd u r1, r⟩
end Lit
end Jvm.Own
namespace Jvm.Own
open Sem ClassFile Op Lib Jvm.Stand Jvm.Free Jvm.LawKit Jvm.RoadKit
/-- the two bytes of a char, low one first -/
def hb0 (c : Int32) : Value := .int ((c >>> ((0 : Int32) &&& 31)).toInt8.toInt32)
def hb1 (c : Int32) : Value := .int ((c >>> ((8 : Int32) &&& 31)).toInt8.toInt32)
def u16 : List Int32 → List Value
  | [] => []
  | c :: cs => hb0 c :: hb1 c :: u16 cs
theorem u16_len (cs : List Int32) : (u16 cs).length = 2 * cs.length := by
  induction cs with
  | nil => rfl
  | cons c cs ih => simp only [u16, List.length_cons, ih]; omega
theorem u16_app (cs ds : List Int32) : u16 (cs ++ ds) = u16 cs ++ u16 ds := by
  induction cs with
  | nil => rfl
  | cons c cs ih => simp only [List.cons_append, u16, ih]
theorem u16_get {cs : List Int32} {i : Nat} {c : Int32} (h : cs[i]? = some c) : (u16 cs)[2 * i]? = some (hb0 c) ∧ (u16 cs)[2 * i + 1]? = some (hb1 c) := by
  induction cs generalizing i with
  | nil => simp at h
  | cons d cs ih =>
    cases i with
    | zero => simp at h; subst h; exact ⟨rfl, rfl⟩
    | succ i =>
      have h' : cs[i]? = some c := by simpa using h
      obtain ⟨h1, h2⟩ := ih h'
      have e : 2 * (i + 1) = (2 * i + 1) + 1 := by omega
      constructor
      · rw [e]; simpa [u16] using h1
      · rw [e]; simpa [u16] using h2
theorem u16_set {cs : List Int32} {i r : Nat} {c : Int32} (hi : i + (r + 1) = cs.length) (hc : cs[i]? = some c) :
    ((u16 (cs.take i) ++ List.replicate (2 * (r + 1)) (Value.int 0)).set (2 * i) (hb0 c)).set (2 * i + 1) (hb1 c) = u16 (cs.take (i + 1)) ++ List.replicate (2 * r) (Value.int 0) := by
  have hl : (u16 (cs.take i)).length = 2 * i := by rw [u16_len]; simp; omega
  have e : 2 * (r + 1) = (2 * r + 1) + 1 := by omega
  rw [List.set_append_right _ _ (by omega), hl, Nat.sub_self, e, List.replicate_succ, List.replicate_succ, List.set_cons_zero, List.set_append_right _ _ (by omega), hl, show 2 * i + 1 - 2 * i = 0 + 1 by omega, List.set_cons_succ, List.set_cons_zero, List.take_succ, hc, u16_app]
  simp [u16]
theorem hb0_val {c : Int32} : (c >>> ((0 : Int32) &&& 31)) = c := by
  have := c_ishr c 0 0 (by decide)
  apply Int32.toInt_inj.mp; rw [this]; simp
theorem shr8 (c : Int32) : (c >>> ((8 : Int32) &&& 31)).toInt = c.toInt / 256 := c_ishr c 8 8 (by decide)
theorem or_add {x y : Int32} (hx0 : 0 ≤ x.toInt) (hx : x.toInt < 256) (hy0 : 0 ≤ y.toInt) (hy : y.toInt < 256) :
    ((x <<< ((0 : Int32) &&& 31)) ||| (y <<< ((8 : Int32) &&& 31))).toInt = x.toInt + 256 * y.toInt := by
  have e1 : (x <<< ((0 : Int32) &&& 31)) = x := by
    apply Int32.toInt_inj.mp
    have h := c_ishl x 0 0 (by decide)
    have r := rng32 (x <<< ((0 : Int32) &&& 31))
    simp only [Nat.pow_zero] at h
    omega
  have e2 : (y <<< ((8 : Int32) &&& 31)).toInt = 256 * y.toInt := by
    have h := c_ishl y 8 8 (by decide)
    have r := rng32 (y <<< ((8 : Int32) &&& 31))
    have p8 : ((2 ^ 8 : Nat) : Int) = 256 := by decide
    rw [p8] at h
    omega
  rw [e1]
  generalize hz : (y <<< ((8 : Int32) &&& 31)) = z at e2 ⊢
  have nx : (x.toBitVec.toNat : Int) = x.toInt := by
    have h1 : x.toInt = if 2 * x.toBitVec.toNat < 2 ^ 32 then (x.toBitVec.toNat : Int) else (x.toBitVec.toNat : Int) - ((2 ^ 32 : Nat) : Int) := BitVec.toInt_eq_toNat_cond x.toBitVec
    have h2 := x.toBitVec.isLt
    split at h1 <;> omega
  have nz : (z.toBitVec.toNat : Int) = 256 * y.toInt := by
    have h1 : z.toInt = if 2 * z.toBitVec.toNat < 2 ^ 32 then (z.toBitVec.toNat : Int) else (z.toBitVec.toNat : Int) - ((2 ^ 32 : Nat) : Int) := BitVec.toInt_eq_toNat_cond z.toBitVec
    have h2 := z.toBitVec.isLt
    split at h1 <;> omega
  have key : (x ||| z).toBitVec.toNat = x.toBitVec.toNat + z.toBitVec.toNat := by
    rw [Int32.toBitVec_or, BitVec.toNat_or]
    obtain ⟨q, hq⟩ : ∃ q, z.toBitVec.toNat = 2 ^ 8 * q := ⟨y.toInt.toNat, by omega⟩
    rw [hq, Nat.or_comm, ← Nat.two_pow_add_eq_or_of_lt (by omega : x.toBitVec.toNat < 2 ^ 8)]
    omega
  have h1 : (x ||| z).toInt = (x ||| z).toBitVec.toInt := rfl
  rw [h1, BitVec.toInt_eq_toNat_cond, key]
  split <;> omega
theorem b255 (x : Int32) : (x.toInt8.toInt32 &&& 255).toInt = x.toInt % 256 := by
  have := c_i2b x
  rw [and255]; omega
/-- a char written and read -/
theorem utf_rt {c : Int32} (h0 : 0 ≤ c.toInt) (h1 : c.toInt < 65536) :
    chr ((((c >>> ((0 : Int32) &&& 31)).toInt8.toInt32 &&& 255) <<< ((0 : Int32) &&& 31)) ||| (((c >>> ((8 : Int32) &&& 31)).toInt8.toInt32 &&& 255) <<< ((8 : Int32) &&& 31))) = c := by
  have a1 := b255 (c >>> ((0 : Int32) &&& 31))
  have a2 := b255 (c >>> ((8 : Int32) &&& 31))
  rw [hb0_val] at a1
  rw [shr8] at a2
  have h := or_add (x := (c >>> ((0 : Int32) &&& 31)).toInt8.toInt32 &&& 255) (y := (c >>> ((8 : Int32) &&& 31)).toInt8.toInt32 &&& 255) (by rw [hb0_val, a1]; omega) (by rw [hb0_val, a1]; omega) (by rw [a2]; omega) (by rw [a2]; omega)
  apply Int32.toInt_inj.mp
  rw [chr_toInt, h, hb0_val, a1, a2]
  omega
theorem i32_dbl {i : Nat} (h : 2 * i < 2 ^ 31) : Int32.ofNat i <<< ((1 : Int32) &&& 31) = Int32.ofNat (2 * i) := by
  apply Int32.toInt_inj.mp
  have h1 := c_ishl (Int32.ofNat i) 1 1 (by decide)
  have r := rng32 (Int32.ofNat i <<< ((1 : Int32) &&& 31))
  have p : ((2 ^ 1 : Nat) : Int) = 2 := by decide
  rw [i32_ti (by omega), p] at h1
  rw [i32_ti h]
  omega
theorem coder1 {n : Nat} (h : 0 < n) (h2 : 2 * n < 2 ^ 31) : ((XT.ushr (Int32.ofNat n - Int32.ofNat (2 * n)) 31).toInt8.toInt32) = 1 := by
  have e : (XT.ushr (Int32.ofNat n - Int32.ofNat (2 * n)) 31) = 1 := by
    apply Int32.toInt_inj.mp
    have h1 := c_iushr (Int32.ofNat n - Int32.ofNat (2 * n)) 31 31 (by decide) (by decide)
    have h3 := c_isub (Int32.ofNat n) (Int32.ofNat (2 * n))
    have r := rng32 (Int32.ofNat n - Int32.ofNat (2 * n))
    rw [i32_ti (by omega), i32_ti h2] at h3
    have p : ((2 ^ 31 : Nat) : Int) = 2147483648 := by decide
    rw [p] at h1
    show ((Int32.ofNat n - Int32.ofNat (2 * n)).toUInt32 >>> ((31 : Int32) &&& 31).toUInt32).toInt32.toInt = _
    rw [h1]
    have : (1 : Int32).toInt = 1 := rfl
    omega
  rw [e]; decide
theorem fits_hb0 (c : Int32) : nar .byte ((c >>> ((0 : Int32) &&& 31)).toInt8.toInt32) = (c >>> ((0 : Int32) &&& 31)).toInt8.toInt32 := narB _
/-- all chars below 256 -/
def lat (cs : List Int32) : Bool := cs.all fun c => decide (c.toInt < 256)
def coOf (cs : List Int32) : Int32 := if lat cs then 0 else 1
def byOf (cs : List Int32) : List Value := if lat cs then cs.map lb else u16 cs
theorem lb_inj {c d : Int32} (hc : 0 ≤ c.toInt ∧ c.toInt < 256) (hd : 0 ≤ d.toInt ∧ d.toInt < 256) (h : lb c = lb d) : c = d := by
  have e : c.toInt8.toInt32 = d.toInt8.toInt32 := by simpa [lb] using h
  rw [← low8 hc.1 hc.2, ← low8 hd.1 hd.2, e]
theorem map_lb_inj {cs ds : List Int32} (hc : ∀ c ∈ cs, 0 ≤ c.toInt ∧ c.toInt < 256) (hd : ∀ c ∈ ds, 0 ≤ c.toInt ∧ c.toInt < 256) (h : cs.map lb = ds.map lb) : cs = ds := by
  induction cs generalizing ds with
  | nil => cases ds with
    | nil => rfl
    | cons d ds => simp at h
  | cons c cs ih => cases ds with
    | nil => simp at h
    | cons d ds =>
      simp only [List.map_cons, List.cons.injEq] at h
      rw [lb_inj (hc c (List.mem_cons_self ..)) (hd d (List.mem_cons_self ..)) h.1, ih (fun x hx => hc x (List.mem_cons_of_mem _ hx)) (fun x hx => hd x (List.mem_cons_of_mem _ hx)) h.2]
end Jvm.Own
namespace Jvm.Own
open Sem ClassFile Op Lib Jvm.Stand Jvm.Free Jvm.LawKit Jvm.RoadKit
theorem Fld.one {Z : State} {h : Heap} {a : Nat} {C n d : String} {v w : Value} (F : Fld Z h a C n d v) (G : Fld Z h a C n d w) : v = w := by
  obtain ⟨c1, cf1, k1, i1, f1, a1, a2, -, -, -, -, a7⟩ := F
  obtain ⟨c2, cf2, k2, i2, f2, b1, b2, -, -, -, -, b7⟩ := G
  cases a1.symm.trans b1
  cases a2.symm.trans b2
  exact Option.some.inj (a7.symm.trans b7)
theorem Av.one {Z : State} {h : Heap} {a : Nat} {ty ty' : FieldType} {vs ws : List Value} (A : Av Z h a ty vs) (B : Av Z h a ty' ws) : vs = ws := by
  obtain ⟨c1, A1, rfl, -⟩ := A
  obtain ⟨c2, B1, rfl, -⟩ := B
  cases A1.1.symm.trans B1.1
  rfl
theorem Str.uniq {Z : State} {h : Heap} {x b d : Nat} {co co2 : Int32} {vs ws : List Value} (S : Str Z h x b co vs) (T : Str Z h x d co2 ws) : co = co2 ∧ b = d ∧ vs = ws := by
  have e1 := Fld.one S.2.1 T.2.1
  have e2 := Fld.one S.2.2.1 T.2.2.1
  cases e1; cases e2
  exact ⟨rfl, rfl, Av.one S.2.2.2 T.2.2.2⟩
theorem set_self {cs : List Int32} {i : Nat} {c : Int32} (h : cs[i]? = some c) : cs.set i c = cs := by
  apply List.ext_getElem?
  intro j
  by_cases hj : i = j
  · subst hj; rw [List.getElem?_set_self (List.getElem?_eq_some_iff.mp h).1, h]
  · rw [List.getElem?_set_ne hj]
theorem static_int {s : State} {args : Array Value} {C n d : String} {v : Int32} (h : (Cond.eq (.static C n d) (.int v)).value args s none s [] = some true) : (Term.static C n d).eval args s none [] s = some (.int v) := by
  obtain ⟨x, y, e1, e2, -, -⟩ := cmp_v (Or.inl h)
  cases (Term.int_eval v).symm.trans e2
  cases x <;> simp [Cond.value, e1, Term.int_eval] at h
  rw [e1, h]
end Jvm.Own
namespace Jvm.Own
open Sem ClassFile Op Lib Jvm.Stand Jvm.Free Jvm.LawKit Jvm.RoadKit
theorem decl_of {a : Array Value} {U : State} {y : MethodName} {by' : ByteArray} {ml' : Nat} {ret' : Option FieldType} (w : (Cond.instanceMethod y).before a U = true) (wc : (Cond.code y by' ml' ret').before a U = true) : (Cond.declares y).before a U = true := by
  obtain ⟨mk, meth, h1, h2, h3, h4⟩ := Cond.instanceMethod_spec w
  obtain ⟨m2, cM, q1, -, -, -, -, -, -, hsig⟩ := Cond.code_spec h1 wc
  cases h2.symm.trans q1
  simp [Cond.before, Cond.holds, Cond.value, h1, h2, h3, hsig]
theorem nf_cls {a : Array Value} {U : State} {x y : MethodName} {C : String} (wsel : (Cond.selects C x x).before a U = true) (wd : (Cond.declares x).before a U = true) (hc : x.cls = y.cls) : NotFace U y := fun r0 h0 => by
  obtain ⟨m, meth, hn, -⟩ := Cond.declares_spec wd
  obtain ⟨kr, h1, h2⟩ := notFace_of_selects wsel m hn
  have e1 := findClass_of_methodNamed hn
  have e2 := findClass_of_methodNamed h0
  rw [hc] at e1
  have e3 : m.cls = r0.cls := Option.some.inj (e1.symm.trans e2)
  rw [← e3]
  exact ⟨kr, h1, h2⟩
theorem same_own {a : Array Value} {U : State} {y : MethodName} (wd : (Cond.declares y).before a U = true) (nf : NotFace U y) (hy : (y.cls == "java/lang/invoke/MethodHandle" || y.cls == "java/lang/invoke/VarHandle") = false) : (Cond.sameMethod y.cls y.cls y.name y.desc).before a U = true := by
  obtain ⟨m, meth, hn, -⟩ := Cond.declares_spec wd
  obtain ⟨kr, h1, h2⟩ := nf m hn
  have hc := findClass_of_methodNamed hn
  have hf := State.methodFound?_of_named hn (hyOf hy)
  have hn' : U.methodNamed? ⟨y.cls, y.name, y.desc⟩ = some m := hn
  simp [Cond.before, Cond.holds, Cond.value, hc, hf, hn', h1, h2]
theorem stretch_eq {vs : List Value} {sp n : Nat} {dv : Value} (h : sp + n ≤ vs.length) : ((List.range n).map fun i => vs.getD (sp + i) dv) = (vs.drop sp).take n := by
  apply List.ext_getElem?
  intro i
  by_cases hi : i < n
  · rw [List.getElem?_map, List.getElem?_range hi, List.getElem?_take_of_lt hi, List.getElem?_drop, Option.map_some, List.getD_eq_getElem?_getD, List.getElem?_eq_getElem (show sp + i < vs.length by omega)]; rfl
  · rw [List.getElem?_eq_none (by simp; omega), List.getElem?_eq_none (by simp; omega)]
theorem Av.arv {Z : State} {h : Heap} {a : Nat} {ty : FieldType} {vs : List Value} (A : Av Z h a ty vs) (dv : Value) : ∃ k, Arv Z h a k ty (Int32.ofNat vs.length) vs dv := by
  obtain ⟨c, A, rfl, q, f⟩ := A
  have hs : c.slots.toList.length = c.slots.size := by simp
  rw [hs] at q ⊢
  refine ⟨c.cls, c, A, rfl, (i32_tn q).symm, i32_nn q, ?_, ?_⟩
  · intro i hi
    rw [List.getD_eq_getElem?_getD, Array.getElem?_toList, Array.getElem?_eq_getElem hi]; rfl
  · intro i hi
    rw [List.getD_eq_getElem?_getD, List.getElem?_eq_getElem (show i < c.slots.toList.length by rw [hs]; exact hi)]
    exact f _ (List.getElem_mem _)
theorem avOf {Z : State} {h : Heap} {a : Nat} {k : ClassId} {ty : FieldType} {z : Int32} {vs : List Value} {dv : Value} (A : Arv Z h a k ty z vs dv) (hl : vs.length = z.toNatClampNeg) : Av Z h a ty vs := by
  obtain ⟨c, A, -, q, q0, H, G⟩ := A
  have e : c.slots.toList = vs := by
    apply List.ext_getElem?
    intro i
    by_cases hi : i < c.slots.size
    · rw [Array.getElem?_toList, H i hi, List.getD_eq_getElem?_getD, List.getElem?_eq_getElem (show i < vs.length by omega)]; rfl
    · rw [List.getElem?_eq_none (by simp; omega), List.getElem?_eq_none (by omega)]
  refine ⟨c, A, e, ?_, ?_⟩
  · rw [hl]; have := z.toInt_lt; simp only [Int32.toNatClampNeg]; omega
  · intro v hv
    obtain ⟨i, hi, rfl⟩ := List.mem_iff_getElem.mp hv
    have := G i (by omega)
    rw [List.getD_eq_getElem?_getD, List.getElem?_eq_getElem hi] at this
    exact this
section Jdk
variable {Z : State} {n0 : Nat} {p : Program} {l : Launch} {e : Env} {R : Room} {s : State} {own : String} {m : MethodId} {args : Array Value} {below : List Frame} {meth : Method} {c : Code} {Q : Option Value → Heap → Lits → Prop} {h : Heap} {k n : Nat} {Ls : Lits} {pc nx : Nat} {L : List Slot} {st : List Value}
variable {bytes : ByteArray} {ml : Nat} {ret : Option FieldType} {nm : String} {a0 : Array Value}
/-- super.m(..) -/
theorem Run.callSuper (F : Fx p c meth bytes ml ret nm) {i : Nat} {y : MethodName} {K0 : String} {by' : ByteArray} {ml' : Nat} {ret' : Option FieldType} {rm : Room} {a : Nat} {as : List Value} {Qy : Option Value → Heap → Lits → Prop} {sig : MethodDescriptor}
    (wl : (Cond.methodLink own i y).before a0 Z = true) (wm : (Cond.sameMethod y.cls y.cls y.name y.desc).before a0 Z = true) (ws : (Cond.instanceMethod y).before a0 Z = true) (wu : (Cond.superclass own y.cls).before a0 Z = true) (wz : (Cond.initialized y.cls).before a0 Z = true) (wc : (Cond.code y by' ml' ret').before a0 Z = true) (E : Ins Z h a K0 true)
    (C : Con l Z n0 y by' ml' ret' rm (.ref a :: as) h Ls [] Qy) (hn : y.name ≠ "<init>") (hsig : parseMethodDescriptor y.desc = some sig) (hlen : as.length = sig.parameters.length) (hsz : L.length = ml)
    (hf : Nat.ble (rm.frames + 1) R.frames = true) (hl : Nat.ble ((st.map fun v => v.category).sum + (ml' + 11) + rm.locals) R.locals = true) (hc : k + rm.cells ≤ R.cells) (hs : n + rm.slots ≤ R.slots) {st0 : List Value} (hst : st0 = as.reverse ++ .ref a :: st) (d : Dc bytes pc (.invokespecial i) 3 nx)
    (K : ∀ v h' Ls', Qy v h' Ls' → Old Z n0 h' → h.size ≤ h'.size → Run Z n0 p l e R s own m args below meth c Q h' (k + rm.cells) (n + rm.slots) Ls' nx L (v.toList ++ st)) : Run Z n0 p l e R s own m args below meth c Q h k n Ls pc L st0 := fun T W => by
  have hd := hbD F d; obtain ⟨-, rfl⟩ := d
  obtain ⟨vm0, locs, k0, X, eT, hS, hk, hZ, hown, N, hO, I, kn⟩ := W
  subst hst
  obtain ⟨v, vm1, B, -, X', hS', hg, ⟨L1, Ls', q1, q2, q3, q4, q5, q6, q7⟩, st'⟩ := superBackS X F.1 hZ hown wl wm ws wu hn (C.back hZ I (kn.alike hS.1.alike) wc wz (Nat.le_of_ble_eq_true hf) (Nat.le_of_ble_eq_true hl)) eT E (g := mkF m pc L.toArray (as.reverse ++ .ref a :: st)) rfl (by show L.toArray.size = _; rw [F.2.2.1, ← hsz]; simp) wc (argsL := as) (rest := st) (lenOf hsig hlen) rfl (by show 2 * 0 + _ ≤ _; omega) hd (fun _ _ => ⟨rfl, eT, hc, hs⟩)
  dsimp only [Pt.U, Pt.locs, Pt.cells, Pt.slots] at X' hS' hg q1 q2 q3 q5 q6 q7 st'
  rw [q5, q6, q7] at X'
  rw [eT] at hg
  obtain ⟨u, o, r1, r⟩ := K v _ Ls' q1 q2 hg B.1 ⟨B.1.vm, _, _, X', rfl, hS.trans hS' (Nat.le_trans hk hg), Nat.le_refl _, State.Warmed39.trans hZ hS'.1, (hS'.1.alike.findClass _ _).trans hown, N.app q4, q2, q3, kn⟩
  exact ⟨u, o, st'.trans r1, r⟩
theorem Run.lookHit (F : Fx p c meth bytes ml ret nm) {x : Int32} {df : Int} {pairs : Array (Int × Int)} {ln t : Nat} {ky off : Int} (d : Dc bytes pc (.lookupswitch df pairs) ln nx) (hs : (pairs.toList.zip (pairs.toList.drop 1)).all (fun (a, next) => a.1 < next.1) = true) (hfind : pairs.find? (·.1 == x.toInt) = some (ky, off)) (ht : (pc : Int) + off = t)
    (K : Run Z n0 p l e R s own m args below meth c Q h k n Ls t L st) : Run Z n0 p l e R s own m args below meth c Q h k n Ls pc L (.int x :: st) := by
  have hd := hbD F d; obtain ⟨-, rfl⟩ := d
  have ht' : ((pc : Int) + off).toNat = t := by omega
  subst ht'
  exact Run.still (fun T vm0 locs X eT hZ hown u s => X.lookupswitchHit F.1 (g := mkF m pc L.toArray (.int x :: st)) rfl rfl hd hs hfind (by show 0 ≤ (pc : Int) + off; omega) u s) K
theorem Run.lookMiss (F : Fx p c meth bytes ml ret nm) {x : Int32} {df : Int} {pairs : Array (Int × Int)} {ln t : Nat} (d : Dc bytes pc (.lookupswitch df pairs) ln nx) (hs : (pairs.toList.zip (pairs.toList.drop 1)).all (fun (a, next) => a.1 < next.1) = true) (hfind : pairs.find? (·.1 == x.toInt) = none) (ht : (pc : Int) + df = t)
    (K : Run Z n0 p l e R s own m args below meth c Q h k n Ls t L st) : Run Z n0 p l e R s own m args below meth c Q h k n Ls pc L (.int x :: st) := by
  have hd := hbD F d; obtain ⟨-, rfl⟩ := d
  have ht' : ((pc : Int) + df).toNat = t := by omega
  subst ht'
  exact Run.still (fun T vm0 locs X eT hZ hown u s => X.lookupswitchMiss F.1 (g := mkF m pc L.toArray (.int x :: st)) rfl rfl hd hs hfind (by show 0 ≤ (pc : Int) + df; omega) u s) K
/-- System.arraycopy between arrays of one primitive kind -/
theorem Run.arraycopy (F : Fx p c meth bytes ml ret nm) {i : Nat} {a b : Nat} {ty : FieldType} {vs vd us : List Value} {sp dp nn : Nat} {x y z : Int32}
    (w1 : (Cond.methodLink own i Jvm.Stand.acN).before a0 Z = true) (w2 : (Cond.native Jvm.Stand.acN).before a0 Z = true) (w3 : (Cond.static Jvm.Stand.acN).before a0 Z = true) (w4 : (Cond.initialized "java/lang/System").before a0 Z = true)
    (A : Av Z h a ty vs) (B : Av Z h b ty vd) (hty : refKind ty = false) (g : n0 ≤ b) (hx : x.toInt = sp) (hy : y.toInt = dp) (hz : z.toInt = nn) (h4 : sp + nn ≤ vs.length) (h5 : dp + nn ≤ vd.length) (hus : (vs.drop sp).take nn = us) (hsz : L.length = ml)
    (hf : Nat.ble 1 R.frames = true) (hl : Nat.ble ((st.map fun v => v.category).sum + 18) R.locals = true) (d : Dc bytes pc (.invokestatic i) 3 nx)
    (K : ∀ h', Keep h h' [b] → Av Z h' b ty (vd.take dp ++ us ++ vd.drop (dp + nn)) → Run Z n0 p l e R s own m args below meth c Q h' k n Ls nx L st) : Run Z n0 p l e R s own m args below meth c Q h k n Ls pc L (.int z :: .int y :: .ref b :: .int x :: .ref a :: st) := fun T W => by
  have hd := hbD F d; obtain ⟨-, rfl⟩ := d
  obtain ⟨vm0, locs, k0, X, eT, hS, hk, hZ, hown, N, hO, I, kn⟩ := W
  have lA := A.len
  have lB := B.len
  obtain ⟨kA, A'⟩ := A.arv .null
  obtain ⟨kB, B'⟩ := B.arv .null
  have e1 := i32_nat hx
  have e2 := i32_nat hy
  have e3 := i32_nat hz
  have ew : nativeFrameWords "java/lang/System" "arraycopy" 5 = 7 := by first | decide | simp [nativeFrameWords]
  subst hus
  obtain ⟨T', h', L', X', e', N', K', B2, st'⟩ := cpA X F.1 hZ hown w1 w2 w3 w4 eT A' B' (us := (vs.drop sp).take nn) (Or.inl ⟨rfl, hty⟩) (sp := x) (dp := y) (nn := z) (i32_nneg (by omega)) (i32_nneg (by omega)) (i32_nneg (by omega)) (by rw [e1, e3, i32_tn lA]; exact h4) (by rw [e2, e3, i32_tn lB]; exact h5) (by rw [e1, e3]; exact (stretch_eq h4).symm) (by rw [e2, e3]; exact h5) N g (g := mkF m pc L.toArray (.int z :: .int y :: .ref b :: .int x :: .ref a :: st)) rfl (by show L.toArray.size = _; rw [F.2.2.1, ← hsz]; simp) (rest := st) rfl hd (Nat.le_of_ble_eq_true hf) (W := (st.map fun v => v.category).sum) (by show 2 * 0 + _ ≤ _; omega) (by rw [ew]; exact Nat.le_of_ble_eq_true hl)
  rw [e2, e3] at B2
  have B3 := avOf B2 (by rw [i32_tn lB]; simp; omega)
  obtain ⟨u, o, r1, r⟩ := K h' K' B3 T' ⟨vm0, L', k0, X', e', hS, Nat.le_trans hk K'.1, hZ, hown, N', hO.keep K' (allS g all0), I, kn⟩
  exact ⟨u, o, st' _ r1, r⟩
/-- array.clone() -/
theorem Run.clone (F : Fx p c meth bytes ml ret nm) {i : Nat} {ad : String} {a : Nat} {ty : FieldType} {vs : List Value}
    (w1 : (Cond.methodLink own i ⟨ad, "clone", "()Ljava/lang/Object;"⟩).before a0 Z = true) (w2 : (Cond.sameMethod ad "java/lang/Object" "clone" "()Ljava/lang/Object;").before a0 Z = true) (w3 : (Cond.native ⟨"java/lang/Object", "clone", "()Ljava/lang/Object;"⟩).before a0 Z = true) (w4 : (Cond.instanceMethod ⟨"java/lang/Object", "clone", "()Ljava/lang/Object;"⟩).before a0 Z = true) (w5 : (Cond.selects ad ⟨ad, "clone", "()Ljava/lang/Object;"⟩ ⟨"java/lang/Object", "clone", "()Ljava/lang/Object;"⟩).before a0 Z = true) (w6 : (Cond.castable ad "java/lang/Cloneable").before a0 Z = true)
    (A : Av Z h a ty vs) (E : Exa Z h a ad) (hsz : L.length = ml) (hf : Nat.ble 1 R.frames = true) (hl : Nat.ble ((st.map fun v => v.category).sum + 14) R.locals = true) (cap : Nat) (hcap : vs.length ≤ cap) (hc : k + 1 ≤ R.cells) (hs : n + cap ≤ R.slots) (d : Dc bytes pc (.invokevirtual i) 3 nx)
    (K : ∀ h' b, b = h.size → Keep h h' [] → Av Z h' b ty vs → Exa Z h' b ad → Run Z n0 p l e R s own m args below meth c Q h' (k + 1) (n + cap) Ls nx L (.ref b :: st)) : Run Z n0 p l e R s own m args below meth c Q h k n Ls pc L (.ref a :: st) := fun T W => by
  have hd := hbD F d; obtain ⟨-, rfl⟩ := d
  obtain ⟨vm0, locs, k0, X, eT, hS, hk, hZ, hown, N, hO, I, kn⟩ := W
  have lA := A.len
  obtain ⟨kA, A'⟩ := A.arv .null
  obtain ⟨T', h', X', e', E', A2, E2, st'⟩ := cloneH X F.1 hZ hown w1 w2 w3 w4 w5 w6 eT (Arv.arh A') E (g := mkF m pc L.toArray (.ref a :: st)) rfl (by show L.toArray.size = _; rw [F.2.2.1, ← hsz]; simp) (rest := st) rfl hd (Nat.le_of_ble_eq_true hf) (W := (st.map fun v => v.category).sum) (cap := cap) (by show 2 * 0 + _ ≤ _; omega) (Nat.le_of_ble_eq_true hl) (by rw [i32_tn lA]; exact hcap) hc hs
  have A3 : Av Z h' h.size ty vs := avOf (show Arv Z h' h.size kA ty _ vs .null from A2) (by rw [i32_tn lA])
  obtain ⟨u, o, r1, r⟩ := K h' h.size rfl (Keep.ofExt E') A3 E2 T' ⟨vm0, locs, k0, X', e', hS, Nat.le_trans hk E'.1, hZ, hown, N, hO.ext E', I, kn⟩
  exact ⟨u, o, st' _ r1, r⟩
/-- newarray, with the name of the array's class -/
theorem Run.newarrayE (F : Fx p c meth bytes ml ret nm) {aty : ArrayType} {z : Int32} {len : Nat} {ad : String} (w : (Cond.arrayClass (newarray.typeOf aty)).before a0 Z = true) (had : "[" ++ (newarray.typeOf aty).toString = ad) (hz : ¬ z < 0) (hlen : z.toNatClampNeg = len) (cap : Nat) (hcap : len ≤ cap) (hb : Nat.ble (cap * 8) 536870912 = true) (hc : k + 1 ≤ R.cells) (hl : n + cap ≤ R.slots) (d : Dc bytes pc (.newarray aty) 2 nx)
    (K : ∀ h' a, a = h.size → Keep h h' [] → a < h'.size → Av Z h' a (newarray.typeOf aty) (List.replicate len (defaultValue (newarray.typeOf aty))) → Exa Z h' a ad → Run Z n0 p l e R s own m args below meth c Q h' (k + 1) (n + cap) Ls nx L (.ref a :: st)) : Run Z n0 p l e R s own m args below meth c Q h k n Ls pc L (.int z :: st) := fun T W => by
  have hd := hbD F d; obtain ⟨-, rfl⟩ := d
  obtain ⟨vm0, locs, k0, X, eT, hS, hk, hZ, hown, N, hO, I, kn⟩ := W
  subst hlen
  obtain ⟨T', h', cA, X', e', E', A', E2, st'⟩ := newPE X F.1 hZ w eT (g := mkF m pc L.toArray (.int z :: st)) rfl hd rfl hz hcap (Nat.le_of_ble_eq_true hb) hc hl had
  obtain ⟨u, o, r1, r⟩ := K h' h.size rfl (Keep.ofExt E') A'.lt ⟨_, A', by simp [newA], by simpa using (back32 hz).2, fun v hv => by rw [List.eq_of_mem_replicate hv]; cases aty <;> rfl⟩ E2 T' ⟨vm0, locs, k0, X', e', hS, Nat.le_trans hk E'.1, hZ, hown, N, hO.ext E', I, kn⟩
  exact ⟨u, o, st' _ r1, r⟩
end Jdk
end Jvm.Own
namespace Jvm.Own
open Sem ClassFile Op Lib Jvm.Stand Jvm.Free Jvm.LawKit Jvm.RoadKit
theorem i32_add {a b : Nat} (h : a + b < 2 ^ 31) : Int32.ofNat a + Int32.ofNat b = Int32.ofNat (a + b) := by
  apply Int32.toInt_inj.mp
  have h1 := c_iadd (Int32.ofNat a) (Int32.ofNat b)
  have h2 := rng32 (Int32.ofNat a + Int32.ofNat b)
  rw [i32_ti (i := a) (by omega), i32_ti (i := b) (by omega)] at h1
  rw [i32_ti h]
  omega
theorem i32_subI {a b : Nat} (ha : a < 2 ^ 31) (hb : b < 2 ^ 31) : (Int32.ofNat a - Int32.ofNat b).toInt = (a : Int) - b := by
  have h1 := c_isub (Int32.ofNat a) (Int32.ofNat b)
  have h2 := rng32 (Int32.ofNat a - Int32.ofNat b)
  rw [i32_ti ha, i32_ti hb] at h1
  omega
theorem i32_sub {a b : Nat} (h : b ≤ a) (ha : a < 2 ^ 31) : Int32.ofNat a - Int32.ofNat b = Int32.ofNat (a - b) := by
  apply i32_eq
  rw [i32_subI ha (by omega)]
  omega
/-- bytes a char, by the coder -/
def wd (u : Bool) : Nat := if u then 2 else 1
theorem wd_pos (u : Bool) : 0 < wd u := by cases u <;> decide
theorem shl_b2i (u : Bool) {a : Nat} (h : 2 * a < 2 ^ 31) : Int32.ofNat a <<< (b2i u &&& 31) = Int32.ofNat (wd u * a) := by
  cases u
  · apply Int32.toInt_inj.mp
    have h1 : ((Int32.ofNat a <<< (b2i false &&& 31)).toInt - (Int32.ofNat a).toInt * (2 ^ 0 : Nat)) % 4294967296 = 0 := c_ishl (Int32.ofNat a) 0 0 (by decide)
    have h2 := rng32 (Int32.ofNat a <<< (b2i false &&& 31))
    have e : wd false * a = a := by simp [wd]
    rw [e, i32_ti (i := a) (by omega)]
    rw [i32_ti (i := a) (by omega)] at h1
    simp only [Nat.pow_zero] at h1
    omega
  · have e : wd true * a = 2 * a := by simp [wd]
    rw [e]; exact i32_dbl h
theorem shr_b2i (u : Bool) {a : Nat} (h : a < 2 ^ 31) : Int32.ofNat a >>> (b2i u &&& 31) = Int32.ofNat (a / wd u) := by
  cases u
  · apply Int32.toInt_inj.mp
    have h1 : (Int32.ofNat a >>> (b2i false &&& 31)).toInt = (Int32.ofNat a).toInt / (2 ^ 0 : Nat) := c_ishr (Int32.ofNat a) 0 0 (by decide)
    have e : a / wd false = a := by simp [wd]
    rw [h1, e]; simp
  · apply Int32.toInt_inj.mp
    have h1 : (Int32.ofNat a >>> (b2i true &&& 31)).toInt = (Int32.ofNat a).toInt / (2 ^ 1 : Nat) := c_ishr (Int32.ofNat a) 1 1 (by decide)
    have e : a / wd true = a / 2 := by simp [wd]
    have p : ((2 ^ 1 : Nat) : Int) = 2 := by decide
    rw [h1, e, i32_ti h, p, i32_ti (i := a / 2) (by omega)]
    omega
theorem ior_nn {x y : Int32} (hx : 0 ≤ x.toInt) (hy : 0 ≤ y.toInt) : 0 ≤ (x ||| y).toInt := by
  have e : ∀ z : Int32, z.toBitVec.msb = decide (z.toInt < 0) := fun z => BitVec.msb_eq_toInt
  have h1 := e x
  have h2 := e y
  have h3 := e (x ||| y)
  rw [decide_eq_false (by omega)] at h1 h2
  have h4 : (x ||| y).toBitVec.msb = (x.toBitVec.msb || y.toBitVec.msb) := BitVec.msb_or
  rw [h1, h2] at h4
  rw [h4] at h3
  have := of_decide_eq_false h3.symm
  omega
/-- the bytes of a builder's or a String's chars -/
def byts (u : Bool) (ds : List Int32) : List Value := if u then u16 ds else ds.map lb
theorem byts_len (u : Bool) (ds : List Int32) : (byts u ds).length = wd u * ds.length := by
  cases u
  · simp [byts, wd]
  · simp [byts, wd, u16_len]
theorem byts_app (u : Bool) (ds es : List Int32) : byts u (ds ++ es) = byts u ds ++ byts u es := by
  cases u
  · simp [byts]
  · simp [byts, u16_app]
theorem coOf_b (cs : List Int32) : coOf cs = b2i (!lat cs) := by
  unfold coOf b2i
  cases lat cs
  · simp
  · simp
theorem byOf_b (cs : List Int32) : byOf cs = byts (!lat cs) cs := by
  unfold byOf byts
  cases lat cs
  · simp
  · simp
theorem lat_app (cs ds : List Int32) : lat (cs ++ ds) = (lat cs && lat ds) := by simp [lat, List.all_append]
theorem set2 {A : List Value} {j : Nat} {r0 r1 p q : Value} {R : List Value} (h : A.length = 2 * j) : ((A ++ r0 :: r1 :: R).set (2 * j) p).set (2 * j + 1) q = A ++ p :: q :: R := by
  rw [List.set_append_right _ _ (by omega), h, Nat.sub_self, List.set_cons_zero, List.set_append_right _ _ (by omega), h, show 2 * j + 1 - 2 * j = 0 + 1 by omega, List.set_cons_succ, List.set_cons_zero]
theorem set1 {A : List Value} {j : Nat} {r p : Value} {R : List Value} (h : A.length = j) : (A ++ r :: R).set j p = A ++ p :: R := by
  rw [List.set_append_right _ _ (by omega), h, Nat.sub_self, List.set_cons_zero]
theorem low8' {c : Int32} (h0 : 0 ≤ c.toInt) (h1 : c.toInt < 256) : c.toInt8.toInt32 &&& 255 = c := by
  apply Int32.toInt_inj.mp
  have := c_i2b c
  rw [and255]; omega
abbrev SBN : String := "java/lang/StringBuilder"
abbrev ASB : String := "java/lang/AbstractStringBuilder"
/-- a StringBuilder x with its array v of cap bytes, that holds the chars ds -/
def Sb (Z : State) (h : Heap) (x v : Nat) (u : Bool) (cap : Nat) (ds : List Int32) : Prop :=
  Exa Z h x SBN ∧ Fld Z h x ASB "value" "[B" (.ref v) ∧ Fld Z h x ASB "coder" "B" (.int (b2i u)) ∧ Fld Z h x ASB "count" "I" (.int (Int32.ofNat ds.length)) ∧ Fld Z h x ASB "maybeLatin1" "Z" (.int 0) ∧ Exa Z h v "[B" ∧ ∃ tl : List Value, tl.length + wd u * ds.length = cap ∧ Av Z h v .byte (byts u ds ++ tl)
theorem Sb.keep {Z : State} {h h' : Heap} {ws : List Addr} {x v : Nat} {u : Bool} {cap : Nat} {ds : List Int32} (S : Sb Z h x v u cap ds) (K : Keep h h' ws) (q : x ∉ ws) (q' : v ∉ ws) : Sb Z h' x v u cap ds := by
  obtain ⟨a, b, c, d, e, f, tl, g, i⟩ := S
  exact ⟨a.keep K, b.keep K q, c.keep K q, d.keep K q, e.keep K q, f.keep K, tl, g, i.keep K q'⟩
theorem Sb.ne {Z : State} {h : Heap} {x v : Nat} {u : Bool} {cap : Nat} {ds : List Int32} (S : Sb Z h x v u cap ds) : x ≠ v := Exa.ne S.1 S.2.2.2.2.2.1 (by decide)
theorem Sb.lt {Z : State} {h : Heap} {x v : Nat} {u : Bool} {cap : Nat} {ds : List Int32} (S : Sb Z h x v u cap ds) : x < h.size ∧ v < h.size := ⟨ltE S.1, ltE S.2.2.2.2.2.1⟩
end Jvm.Own
namespace Jvm.Own
open Sem ClassFile Op Lib Jvm.Stand Jvm.Free Jvm.LawKit Jvm.RoadKit
/-! code points, their chars, their UTF-8 lengths -/
def okP (p : Nat) : Prop := p < 1114112 ∧ ¬ (55296 ≤ p ∧ p < 57344)
def hiP (p : Nat) : Nat := 55296 + (p - 65536) / 1024
def loP (p : Nat) : Nat := 56320 + (p - 65536) % 1024
def evN (p : Nat) : Nat := if p < 65536 then p else hiP p
def odN (p : Nat) : Nat := if p < 65536 then p else loP p
def un (p : Nat) : List Int32 := if p < 65536 then [Int32.ofNat p] else [Int32.ofNat (hiP p), Int32.ofNat (loP p)]
def nu (p : Nat) : Nat := if p < 65536 then 1 else 2
def u8n (p : Nat) : Nat := if p < 128 then 1 else if p < 2048 then 2 else if p < 65536 then 3 else 4
def uns (ps : List Nat) : List Int32 := ps.flatMap un
def w8s (ps : List Nat) : Nat := (ps.map u8n).sum
theorem un1 {p : Nat} (h : p < 65536) : un p = [Int32.ofNat p] := if_pos h
theorem un2 {p : Nat} (h : 65536 ≤ p) : un p = [Int32.ofNat (hiP p), Int32.ofNat (loP p)] := if_neg (by omega)
theorem nu1 {p : Nat} (h : p < 65536) : nu p = 1 := if_pos h
theorem nu2 {p : Nat} (h : 65536 ≤ p) : nu p = 2 := if_neg (by omega)
theorem ev1 {p : Nat} (h : p < 65536) : evN p = p := if_pos h
theorem ev2 {p : Nat} (h : 65536 ≤ p) : evN p = hiP p := if_neg (by omega)
theorem od1 {p : Nat} (h : p < 65536) : odN p = p := if_pos h
theorem od2 {p : Nat} (h : 65536 ≤ p) : odN p = loP p := if_neg (by omega)
theorem un_len (p : Nat) : (un p).length = nu p := by
  by_cases h : p < 65536
  · rw [un1 h, nu1 h]; rfl
  · rw [un2 (by omega), nu2 (by omega)]; rfl
theorem nu_pos (p : Nat) : 1 ≤ nu p ∧ nu p ≤ 2 := by unfold nu; split <;> omega
theorem hi_rng {p : Nat} (h : okP p) (h2 : 65536 ≤ p) : 55296 ≤ hiP p ∧ hiP p < 56320 := by
  have := h.1
  unfold hiP; omega
theorem lo_rng (p : Nat) : 56320 ≤ loP p ∧ loP p < 57344 := by unfold loP; omega
theorem ev_rng {p : Nat} (h : okP p) : evN p < 65536 := by
  by_cases q : p < 65536
  · rw [ev1 q]; exact q
  · have := hi_rng h (by omega)
    rw [ev2 (by omega)]; omega
theorem od_rng {p : Nat} : odN p < 65536 := by
  by_cases q : p < 65536
  · rw [od1 q]; exact q
  · have := lo_rng p
    rw [od2 (by omega)]; omega
theorem un_rng {p : Nat} (h : okP p) : ∀ c ∈ un p, 0 ≤ c.toInt ∧ c.toInt < 65536 := by
  intro c hc
  by_cases h2 : p < 65536
  · rw [un1 h2, List.mem_singleton] at hc
    subst hc
    rw [i32_ti (i := p) (by omega)]; omega
  · rw [un2 (by omega)] at hc
    have a := hi_rng h (by omega)
    have b := lo_rng p
    simp only [List.mem_cons, List.not_mem_nil, or_false] at hc
    rcases hc with rfl | rfl
    · rw [i32_ti (i := hiP p) (by omega)]; omega
    · rw [i32_ti (i := loP p) (by omega)]; omega
theorem uns_nil : uns [] = [] := rfl
theorem uns_cons (p : Nat) (ps : List Nat) : uns (p :: ps) = un p ++ uns ps := by simp [uns]
theorem uns_app (ps qs : List Nat) : uns (ps ++ qs) = uns ps ++ uns qs := by simp [uns]
theorem uns_one (p : Nat) : uns [p] = un p := by simp [uns]
theorem uns_snoc (ps : List Nat) (p : Nat) : (uns (ps ++ [p])).length = (uns ps).length + nu p := by rw [uns_app, uns_one, List.length_append, un_len]
theorem uns_rng {ps : List Nat} (h : ∀ p ∈ ps, okP p) : ∀ c ∈ uns ps, 0 ≤ c.toInt ∧ c.toInt < 65536 := by
  intro c hc
  obtain ⟨p, hp, hc⟩ := List.mem_flatMap.mp hc
  exact un_rng (h p hp) c hc
theorem w8_pos (p : Nat) : 1 ≤ u8n p ∧ u8n p ≤ 4 := by unfold u8n; (repeat' split) <;> omega
theorem w8_le (p : Nat) : u8n p ≤ 3 * nu p := by unfold u8n nu; (repeat' split) <;> omega
theorem w8s_nil : w8s [] = 0 := rfl
theorem w8s_cons (p : Nat) (ps : List Nat) : w8s (p :: ps) = u8n p + w8s ps := by simp [w8s]
theorem w8s_app (ps qs : List Nat) : w8s (ps ++ qs) = w8s ps + w8s qs := by simp [w8s]
theorem w8s_one (p : Nat) : w8s [p] = u8n p := by simp [w8s]
theorem w8s_snoc (ps : List Nat) (p : Nat) : w8s (ps ++ [p]) = w8s ps + u8n p := by rw [w8s_app, w8s_one]
theorem w8s_le (ps : List Nat) : w8s ps ≤ 3 * (uns ps).length := by
  induction ps with
  | nil => simp [w8s, uns]
  | cons p ps ih =>
    have := w8_le p
    rw [w8s_cons, uns_cons, List.length_append, un_len]; omega
theorem uns_ge (ps : List Nat) : ps.length ≤ (uns ps).length := by
  induction ps with
  | nil => simp [uns]
  | cons p ps ih =>
    have := nu_pos p
    rw [uns_cons, List.length_append, un_len, List.length_cons]; omega
theorem uns_at {ps dn rs : List Nat} {p : Nat} (h : ps = dn ++ p :: rs) : (uns ps)[(uns dn).length]? = some (Int32.ofNat (evN p)) := by
  subst h
  rw [uns_app, uns_cons, List.getElem?_append_right (Nat.le_refl _), Nat.sub_self]
  by_cases q : p < 65536
  · rw [un1 q, ev1 q]; rfl
  · rw [un2 (by omega), ev2 (by omega)]; rfl
theorem uns_at2 {ps dn rs : List Nat} {p : Nat} (h : ps = dn ++ p :: rs) (h2 : 65536 ≤ p) : (uns ps)[(uns dn).length + 1]? = some (Int32.ofNat (loP p)) := by
  subst h
  rw [uns_app, uns_cons, List.getElem?_append_right (Nat.le_succ _), show (uns dn).length + 1 - (uns dn).length = 1 by omega, un2 h2]; rfl
theorem uns_split {ps dn rs : List Nat} {p : Nat} (h : ps = dn ++ p :: rs) : (uns ps).length = (uns dn).length + nu p + (uns rs).length := by
  subst h
  rw [uns_app, uns_cons, List.length_append, List.length_append, un_len]; omega
theorem lat_un {p : Nat} (h : okP p) : lat (un p) = true → p < 256 := by
  intro q
  by_cases h2 : p < 65536
  · rw [un1 h2] at q
    have := List.all_eq_true.mp q (Int32.ofNat p) (List.mem_singleton.mpr rfl)
    have e := i32_ti (i := p) (by omega)
    rw [e] at this
    have := of_decide_eq_true this
    omega
  · rw [un2 (by omega)] at q
    have a := hi_rng h (by omega)
    have := List.all_eq_true.mp q (Int32.ofNat (hiP p)) (List.mem_cons_self ..)
    have e := i32_ti (i := hiP p) (by omega)
    rw [e] at this
    have := of_decide_eq_true this
    omega
/-- .. of chars below 256 -/
def w8l (cs : List Int32) : Nat := (cs.map fun c => if c.toInt < 128 then 1 else 2).sum
theorem w8l_nil : w8l [] = 0 := rfl
theorem w8l_snoc (cs : List Int32) (c : Int32) : w8l (cs ++ [c]) = w8l cs + (if c.toInt < 128 then 1 else 2) := by simp [w8l]
theorem w8l_le (cs : List Int32) : w8l cs ≤ 2 * cs.length := by
  induction cs with
  | nil => simp [w8l]
  | cons c cs ih =>
    simp only [w8l, List.map_cons, List.sum_cons, List.length_cons] at ih ⊢
    split <;> omega
theorem w8l_asc {cs : List Int32} (h : ∀ c ∈ cs, c.toInt < 128) : w8l cs = cs.length := by
  induction cs with
  | nil => rfl
  | cons c cs ih =>
    have h1 := h c (List.mem_cons_self ..)
    have h2 := ih fun d hd => h d (List.mem_cons_of_mem _ hd)
    simp only [w8l, List.map_cons, List.sum_cons, List.length_cons, if_pos h1] at h2 ⊢
    omega
theorem w8s_lat {ps : List Nat} (hok : ∀ p ∈ ps, okP p) (h : lat (uns ps) = true) : w8s ps = w8l (uns ps) := by
  induction ps with
  | nil => rfl
  | cons p ps ih =>
    rw [uns_cons, lat_app, Bool.and_eq_true] at h
    have h1 := lat_un (hok p (List.mem_cons_self ..)) h.1
    have h2 := ih (fun q hq => hok q (List.mem_cons_of_mem _ hq)) h.2
    have e : w8l (un p ++ uns ps) = w8l (un p) + w8l (uns ps) := by simp [w8l]
    have e2 : w8l (un p) = u8n p := by
      rw [un1 (by omega)]
      have e3 := i32_ti (i := p) (by omega)
      simp only [w8l, List.map_cons, List.map_nil, List.sum_cons, List.sum_nil, e3, u8n]
      (repeat' split) <;> omega
    rw [w8s_cons, uns_cons, e, e2, h2]
theorem u8_take {cs : List Int32} {i : Nat} {c : Int32} (h : cs[i]? = some c) : w8l (cs.take (i + 1)) = w8l (cs.take i) + (if c.toInt < 128 then 1 else 2) := by
  rw [List.take_succ, h]; exact w8l_snoc _ c
/-! the longest beginning within so many bytes -/
def clip (n : Int) : List Nat → List Nat
  | [] => []
  | p :: r => if (u8n p : Int) ≤ n then p :: clip (n - u8n p) r else []
theorem clip_nil (n : Int) : clip n [] = [] := rfl
theorem clip_yes {n : Int} {p : Nat} {r : List Nat} (h : (u8n p : Int) ≤ n) : clip n (p :: r) = p :: clip (n - u8n p) r := by first | exact if_pos h | rw [clip, if_pos h]
theorem clip_no {n : Int} {p : Nat} {r : List Nat} (h : n < (u8n p : Int)) : clip n (p :: r) = [] := by first | exact if_neg (by omega) | rw [clip, if_neg (by omega)]
theorem clip_neg {n : Int} (h : n < 0) (ps : List Nat) : clip n ps = [] := by
  cases ps with
  | nil => rfl
  | cons p r => exact clip_no (by have := w8_pos p; omega)
theorem clip_pre (n : Int) (ps : List Nat) : ∃ rs, ps = clip n ps ++ rs := by
  induction ps generalizing n with
  | nil => exact ⟨[], rfl⟩
  | cons p r ih =>
    by_cases h : (u8n p : Int) ≤ n
    · obtain ⟨rs, e⟩ := ih (n - u8n p)
      exact ⟨rs, by rw [clip_yes h, List.cons_append, ← e]⟩
    · exact ⟨p :: r, by rw [clip_no (by omega)]; rfl⟩
theorem clip_ge (m p : Nat) (rest : List Nat) (n : Int) (h : ((m * u8n p : Nat) : Int) ≤ n) : clip n (List.replicate m p ++ rest) = List.replicate m p ++ clip (n - (m * u8n p : Nat)) rest := by
  induction m generalizing n with
  | zero => simp
  | succ m ih =>
    have e : (m + 1) * u8n p = m * u8n p + u8n p := Nat.succ_mul m (u8n p)
    rw [e] at h ⊢
    generalize hk : m * u8n p = k at h ih ⊢
    rw [List.replicate_succ, List.cons_append, clip_yes (by omega), ih (n - u8n p) (by omega), List.cons_append]
    congr 2
    congr 1
    omega
theorem clip_lt (m p : Nat) (rest : List Nat) (n : Nat) (h : n < m * u8n p) : clip (n : Int) (List.replicate m p ++ rest) = List.replicate (n / u8n p) p := by
  have hp := w8_pos p
  induction m generalizing n with
  | zero => simp at h
  | succ m ih =>
    have e : (m + 1) * u8n p = m * u8n p + u8n p := Nat.succ_mul m (u8n p)
    rw [e] at h
    rw [List.replicate_succ, List.cons_append]
    by_cases q : u8n p ≤ n
    · have e2 : (n : Int) - u8n p = ((n - u8n p : Nat) : Int) := by omega
      have e3 : n / u8n p = (n - u8n p) / u8n p + 1 := Nat.div_eq_sub_div (by omega) q
      rw [clip_yes (by omega), e2, ih (n - u8n p) (by omega), e3, List.replicate_succ]
    · rw [clip_no (by omega), Nat.div_eq_of_lt (by omega)]; rfl
theorem uns_rep (m p : Nat) : (uns (List.replicate m p)).length = m * nu p := by
  induction m with
  | zero => simp [uns]
  | succ m ih => rw [List.replicate_succ, uns_cons, List.length_append, un_len, ih, Nat.succ_mul]; omega
theorem w8s_rep (m p : Nat) : w8s (List.replicate m p) = m * u8n p := by
  induction m with
  | zero => simp [w8s]
  | succ m ih => rw [List.replicate_succ, w8s_cons, ih, Nat.succ_mul]; omega
/-- what the law's own keep says -/
def kpN (u1 w1 u2 w2 r size n : Nat) : Nat := if n < r / u1 * w1 then u1 * (n / w1) else r + u2 * min ((size - r) / u2) ((n - r / u1 * w1) / w2)
theorem keep_len {p1 p2 r size n : Nat} (h1 : r / nu p1 * nu p1 = r) : (uns (clip (n : Int) (List.replicate (r / nu p1) p1 ++ List.replicate ((size - r) / nu p2) p2))).length = kpN (nu p1) (u8n p1) (nu p2) (u8n p2) r size n := by
  have q1 := w8_pos p1
  have q2 := w8_pos p2
  unfold kpN
  by_cases h : n < r / nu p1 * u8n p1
  · rw [if_pos h, clip_lt _ _ _ _ h, uns_rep, Nat.mul_comm]
  · rw [if_neg h, clip_ge _ _ _ _ (by omega), uns_app, List.length_append, uns_rep, h1]
    congr 1
    have e : (n : Int) - (r / nu p1 * u8n p1 : Nat) = ((n - r / nu p1 * u8n p1 : Nat) : Int) := by omega
    rw [e]
    generalize n - r / nu p1 * u8n p1 = k
    generalize (size - r) / nu p2 = m2
    by_cases h2 : k < m2 * u8n p2
    · have e2 := clip_lt m2 p2 [] k h2
      rw [List.append_nil] at e2
      rw [e2, uns_rep, Nat.mul_comm]
      have : k / u8n p2 < m2 := (Nat.div_lt_iff_lt_mul (by omega)).mpr h2
      rw [Nat.min_eq_right (by omega)]
    · have e2 := clip_ge m2 p2 [] k (by omega)
      rw [List.append_nil, clip_nil, List.append_nil] at e2
      rw [e2, uns_rep, Nat.mul_comm]
      have : m2 ≤ k / u8n p2 := (Nat.le_div_iff_mul_le (by omega)).mpr (by omega)
      rw [Nat.min_eq_left (by omega)]
/-- the two names' shares -/
def finA (a b room : Int) : Int := if a + b - room ≤ 0 then a else if a + b - room ≤ a - b then a - (a + b - room) else if a + b - room ≤ b - a then a else room - room / 2
def finB (a b room : Int) : Int := if a + b - room ≤ 0 then b else if a + b - room ≤ a - b then b else if a + b - room ≤ b - a then b - (a + b - room) else room / 2
theorem fin_a {a b room : Int} (h : room < a + b) (h2 : b < a) : finA (a - 1) b room = finA a b room ∧ finB (a - 1) b room = finB a b room := by
  unfold finA finB
  constructor <;> (repeat' split) <;> omega
theorem fin_b {a b room : Int} (h : room < a + b) (h2 : a ≤ b) : finA a (b - 1) room = finA a b room ∧ finB a (b - 1) room = finB a b room := by
  unfold finA finB
  constructor <;> (repeat' split) <;> omega
theorem fin_end {a b room : Int} (h : a + b ≤ room) : finA a b room = a ∧ finB a b room = b := by
  unfold finA finB
  rw [if_pos (by omega), if_pos (by omega)]; exact ⟨rfl, rfl⟩
/-! ints -/
theorem i32_mul {a b : Nat} (ha : a < 2 ^ 31) (hb : b < 2 ^ 31) (h : a * b < 2 ^ 31) : Int32.ofNat a * Int32.ofNat b = Int32.ofNat (a * b) := by
  apply i32_eq
  have h1 := c_imul (Int32.ofNat a) (Int32.ofNat b)
  have h2 := rng32 (Int32.ofNat a * Int32.ofNat b)
  have e : (a : Int) * (b : Int) = ((a * b : Nat) : Int) := by simp
  rw [i32_ti ha, i32_ti hb, e] at h1
  generalize a * b = q at h h1 ⊢
  omega
theorem i32_divN {a b : Nat} (ha : a < 2 ^ 31) (hb : 0 < b) (hb2 : b < 2 ^ 31) : Int32.ofNat a / Int32.ofNat b = Int32.ofNat (a / b) := by
  apply i32_eq
  have e1 := i32_ti ha
  have e2 := i32_ti hb2
  have hne : Int32.ofNat b ≠ -1 := fun e => by
    have h3 := congrArg Int32.toInt e
    have h4 : (-1 : Int32).toInt = -1 := rfl
    rw [e2, h4] at h3
    omega
  have h1 := (c_idiv (Int32.ofNat a) (Int32.ofNat b) b e2 hne).1 (by omega)
  rw [h1, e1]
  simp
theorem i32_remN {a b : Nat} (ha : a < 2 ^ 31) (hb : 0 < b) (hb2 : b < 2 ^ 31) : Int32.ofNat a % Int32.ofNat b = Int32.ofNat (a % b) := by
  apply i32_eq
  have e1 := i32_ti ha
  have e2 := i32_ti hb2
  rw [i32_mod (x := Int32.ofNat a) (y := Int32.ofNat b) (by omega) (by omega), e1, e2]
  simp
theorem i32_ne0 {b : Nat} (hb : 0 < b) (hb2 : b < 2 ^ 31) : Int32.ofNat b ≠ 0 := fun e => by
  have h3 := congrArg Int32.toInt e
  have h4 : (0 : Int32).toInt = 0 := rfl
  rw [i32_ti hb2, h4] at h3
  omega
def kOf (x : Int32) : Nat := (x.toInt % 4).toNat
def vOf (x : Int32) : Nat := (x.toInt % 4294967296 / 4).toNat
def ptOf (x : Int32) : Nat := if kOf x = 0 then vOf x % 128 else if kOf x = 1 then 128 + vOf x % 1920 else if kOf x = 2 then (if 2048 + vOf x % 61440 < 55296 then 2048 + vOf x % 61440 else 2048 + vOf x % 61440 + 2048) else 65536 + vOf x % 1048576
theorem kOf_lt (x : Int32) : kOf x < 4 := by unfold kOf; omega
theorem and3 (x : Int32) : x &&& 3 = Int32.ofNat (kOf x) := by
  apply i32_eq
  have e : (x &&& 3).toInt = x.toInt % (2 ^ 2 : Nat) := c_mask x 3 2 (by decide) (by decide)
  have p : ((2 ^ 2 : Nat) : Int) = 4 := by decide
  rw [e, p]; unfold kOf; omega
theorem shr2 (x : Int32) : XT.ushr x 2 = Int32.ofNat (vOf x) := by
  apply i32_eq
  have e : (XT.ushr x 2).toInt = (x.toInt % 4294967296) / (2 ^ 2 : Nat) := c_iushr x 2 2 (by decide) (by decide)
  have p : ((2 ^ 2 : Nat) : Int) = 4 := by decide
  rw [e, p]; unfold vOf; omega
theorem vOf_lt (x : Int32) : vOf x < 1073741824 := by unfold vOf; omega
theorem cp_ok (x : Int32) : okP (ptOf x) ∧ u8n (ptOf x) = kOf x + 1 ∧ nu (ptOf x) = (if kOf x = 3 then 2 else 1) := by
  have hk := kOf_lt x
  unfold okP u8n nu ptOf
  (repeat' split) <;> omega
theorem cp_big {x : Int32} : 65536 ≤ ptOf x ↔ kOf x = 3 := by
  have hk := kOf_lt x
  unfold ptOf
  (repeat' split) <;> omega
theorem Av.setAny {Z : State} {h : Heap} {a : Nat} {ty : FieldType} {vs : List Value} {i N : Nat} {y : Value} (A : Av Z h a ty (vs.set i y)) (hl : vs.length = N) : ∃ ws : List Value, ws.length = N ∧ Av Z h a ty ws := ⟨_, by rw [List.length_set]; exact hl, A⟩
theorem shr1 {a : Nat} (h : 2 * a < 2 ^ 31) : Int32.ofNat (2 * a) >>> ((1 : Int32) &&& 31) = Int32.ofNat a := by
  have e := shr_b2i true (a := 2 * a) h
  have e2 : 2 * a / wd true = a := by
    have w2 : wd true = 2 := rfl
    rw [w2]; omega
  rw [e2] at e; exact e
theorem ushrN {p k : Nat} {q : Int32} (hp : p < 2 ^ 31) (hk : q.toBitVec.toNat % 32 = k) (h0 : 0 < k) : XT.ushr (Int32.ofNat p) q = Int32.ofNat (p / 2 ^ k) := by
  apply i32_eq
  have e : (XT.ushr (Int32.ofNat p) q).toInt = ((Int32.ofNat p).toInt % 4294967296) / (2 ^ k : Nat) := c_iushr (Int32.ofNat p) q k hk h0
  rw [e, i32_ti hp, Int.emod_eq_of_lt (by omega) (by omega)]
  first | rfl | exact (Int.natCast_ediv p (2 ^ k)).symm | norm_cast
theorem and1023 {p : Nat} (hp : p < 2 ^ 31) : Int32.ofNat p &&& 1023 = Int32.ofNat (p % 1024) := by
  apply i32_eq
  have e : (Int32.ofNat p &&& 1023).toInt = (Int32.ofNat p).toInt % (2 ^ 10 : Nat) := c_mask (Int32.ofNat p) 1023 10 (by decide) (by decide)
  have p10 : ((2 ^ 10 : Nat) : Int) = 1024 := by decide
  rw [e, i32_ti hp, p10]; omega
theorem hiS {p : Nat} (h : okP p) (h2 : 65536 ≤ p) : XT.ushr (Int32.ofNat p) 10 + 55232 = Int32.ofNat (hiP p) := by
  have hp := h.1
  have e1 : XT.ushr (Int32.ofNat p) 10 = Int32.ofNat (p / 2 ^ 10) := ushrN (by omega) (by decide) (by omega)
  have e2 : p / 2 ^ 10 + 55232 = hiP p := by unfold hiP; omega
  have e3 := i32_add (a := p / 2 ^ 10) (b := 55232) (by omega)
  rw [e2] at e3
  rw [e1]; exact e3
theorem loS {p : Nat} (h : okP p) (h2 : 65536 ≤ p) : (Int32.ofNat p &&& 1023) + 56320 = Int32.ofNat (loP p) := by
  have hp := h.1
  have e1 := and1023 (p := p) (by omega)
  have e2 : p % 1024 + 56320 = loP p := by unfold loP; omega
  have e3 := i32_add (a := p % 1024) (b := 56320) (by omega)
  rw [e2] at e3
  rw [e1]; exact e3
theorem toCP {p : Nat} (h : okP p) (h2 : 65536 ≤ p) : Int32.ofNat (hiP p) <<< ((10 : Int32) &&& 31) + Int32.ofNat (loP p) + (-56613888) = Int32.ofNat p := by
  apply i32_eq
  have a := hi_rng h h2
  have b := lo_rng p
  have c1 := c_ishl (Int32.ofNat (hiP p)) 10 10 (by decide)
  have p10 : ((2 ^ 10 : Nat) : Int) = 1024 := by decide
  rw [i32_ti (i := hiP p) (by omega), p10] at c1
  generalize Int32.ofNat (hiP p) <<< ((10 : Int32) &&& 31) = y at c1 ⊢
  have r1 := rng32 y
  have c2 := c_iadd y (Int32.ofNat (loP p))
  rw [i32_ti (i := loP p) (by omega)] at c2
  generalize y + Int32.ofNat (loP p) = z at c2 ⊢
  have r2 := rng32 z
  have c3 := c_iadd z (-56613888)
  have r3 := rng32 (z + (-56613888))
  have n1 : (-56613888 : Int32).toInt = -56613888 := by decide
  rw [n1] at c3
  have e : (hiP p - 55296) * 1024 + (loP p - 56320) + 65536 = p := by
    have := h.1
    unfold hiP loP; omega
  omega
theorem i32_z (z : Int32) : 0 + z = z := by simp
theorem i32_s (z : Int32) : z - 0 = z := by simp
theorem u16_take (cs : List Int32) (e : Nat) : (u16 cs).take (2 * e) = u16 (cs.take e) := by
  induction cs generalizing e with
  | nil => simp [u16]
  | cons c cs ih =>
    cases e with
    | zero => simp [u16]
    | succ e =>
      have e2 : 2 * (e + 1) = 2 * e + 1 + 1 := by omega
      rw [e2, List.take_succ_cons]
      simp only [u16, List.take_succ_cons]
      rw [ih]
theorem co8 (cs : List Int32) : narrow .byte (.int (coOf cs)) = .int (coOf cs) := by rw [coOf]; split <;> rfl
theorem cofit (cs : List Int32) : fits .byte (.int (coOf cs)) = true := by rw [coOf]; split <;> rfl
theorem lenOf2 {cs : List Int32} (h : 2 * cs.length < 2 ^ 31) : Int32.ofNat (byOf cs).length >>> (coOf cs &&& 31) = Int32.ofNat cs.length := by
  have hp := wd_pos (!lat cs)
  have hw : wd (!lat cs) ≤ 2 := by cases lat cs <;> decide
  have hm : wd (!lat cs) * cs.length ≤ 2 * cs.length := Nat.mul_le_mul_right _ hw
  rw [coOf_b, byOf_b, byts_len, shr_b2i _ (by omega), Nat.mul_div_cancel_left _ hp]
theorem lat_or (ds cs : List Int32) : (!lat ds || !lat cs) = !lat (ds ++ cs) := by rw [lat_app, Bool.not_and]
theorem lat_lt {cs : List Int32} (h : (!lat cs) = false) (hr : ∀ c ∈ cs, 0 ≤ c.toInt ∧ c.toInt < 65536) : ∀ c ∈ cs, 0 ≤ c.toInt ∧ c.toInt < 256 := fun c hc => ⟨(hr c hc).1, by
  have q : lat cs = true := by simpa using h
  have := List.all_eq_true.mp q c hc
  simpa using this⟩
/-! the interned texts, each with its String, apart as P says -/
def LIp (Z : State) (P : Nat → Nat → Prop) (h : Heap) (lt : List (String × Addr)) : Prop := ∀ t ∈ lt, ∃ b : Nat, Str Z h t.2 b 0 (litB t.1) ∧ P t.2 b
theorem LIp.keep {Z : State} {P : Nat → Nat → Prop} {h h' : Heap} {lt : List (String × Addr)} (L : LIp Z P h lt) (K : Keep h h' []) : LIp Z P h' lt := fun t ht => by
  obtain ⟨b, s, q⟩ := L t ht
  exact ⟨b, s.keep K nin0 nin0, q⟩
theorem LIp.cons {Z : State} {P : Nat → Nat → Prop} {h : Heap} {lt : List (String × Addr)} {t : String} {a b : Nat} (L : LIp Z P h lt) (S : Str Z h a b 0 (litB t)) (p : P a b) : LIp Z P h ((t, a) :: lt) := fun y hy => by
  rcases List.mem_cons.mp hy with rfl | hy
  · exact ⟨b, S, p⟩
  · exact L y hy
theorem LIp.nil {Z : State} {P : Nat → Nat → Prop} {h : Heap} : LIp Z P h [] := fun t ht => nomatch ht
def Apt (x v a b : Nat) : Prop := a ≠ x ∧ a ≠ v ∧ b ≠ x ∧ b ≠ v
theorem Apt.lt {x v a b n : Nat} (h1 : n ≤ x) (h2 : n ≤ v) (h3 : a < n) (h4 : b < n) : Apt x v a b := by unfold Apt; omega
theorem Apt.ge {x v a b n : Nat} (h1 : x < n) (h2 : v < n) (h3 : n ≤ a) (h4 : n ≤ b) : Apt x v a b := by unfold Apt; omega
theorem Str.apt {Z : State} {h h' : Heap} {x v v' a b : Nat} {co : Int32} {vs : List Value} (S : Str Z h a b co vs) (p : Apt x v a b) (K : Keep h h' [x, v]) (hv : v' = v ∨ h.size ≤ v') : Str Z h' a b co vs ∧ Apt x v' a b := by
  have l1 := S.la
  have l2 := S.lb
  obtain ⟨p1, p2, p3, p4⟩ := p
  refine ⟨S.keep K (ninN p1 (ninN p2 nin0)) (ninN p3 (ninN p4 nin0)), p1, ?_, p3, ?_⟩
  · rcases hv with rfl | y
    · exact p2
    · omega
  · rcases hv with rfl | y
    · exact p4
    · omega
theorem LIp.app {Z : State} {h h' : Heap} {x v v' : Nat} {lt : List (String × Addr)} (L : LIp Z (Apt x v) h lt) (K : Keep h h' [x, v]) (hv : v' = v ∨ h.size ≤ v') : LIp Z (Apt x v') h' lt := fun t ht => by
  obtain ⟨b, s, q⟩ := L t ht
  obtain ⟨s2, q2⟩ := s.apt q K hv
  exact ⟨b, s2, q2⟩
theorem and127 {p : Nat} (hp : p < 2 ^ 31) : Int32.ofNat p &&& 127 = Int32.ofNat (p % 128) := by
  apply i32_eq
  have e : (Int32.ofNat p &&& 127).toInt = (Int32.ofNat p).toInt % (2 ^ 7 : Nat) := c_mask (Int32.ofNat p) 127 7 (by decide) (by decide)
  have p7 : ((2 ^ 7 : Nat) : Int) = 128 := by decide
  rw [e, i32_ti hp, p7]; omega
theorem rem2 {x : Int32} {m : Nat} (hx : 0 ≤ x.toInt) (hm : 0 < m) (hm2 : m < 1000) : ∃ j : Nat, j < m ∧ x % Int32.ofNat m * 2 = Int32.ofNat (2 * j) := by
  have em := i32_ti (i := m) (by omega)
  have e := i32_mod (x := x) (y := Int32.ofNat m) hx (by omega)
  rw [em] at e
  have h0 : 0 ≤ x.toInt % (m : Int) := Int.emod_nonneg _ (by omega)
  have h1 : x.toInt % (m : Int) < m := Int.emod_lt_of_pos _ (by omega)
  obtain ⟨j, hj⟩ : ∃ j : Nat, x.toInt % (m : Int) = j := ⟨(x.toInt % (m : Int)).toNat, by omega⟩
  rw [hj] at e h1
  have ej : x % Int32.ofNat m = Int32.ofNat j := i32_eq e
  have e2 := i32_mul (a := j) (b := 2) (by omega) (by omega) (by omega)
  refine ⟨j, by omega, ?_⟩
  rw [ej, Nat.mul_comm 2 j]; exact e2
theorem os_at1 {U1 U2 U3 : List Int32} {i : Nat} (h : i < U1.length) : (U1 ++ ([95] ++ (U2 ++ ([95] ++ U3))))[i]? = U1[i]? := List.getElem?_append_left h
theorem os_u1 {U1 U2 U3 : List Int32} : (U1 ++ ([95] ++ (U2 ++ ([95] ++ U3))))[U1.length]? = some 95 := by
  rw [List.getElem?_append_right (Nat.le_refl _), Nat.sub_self]; rfl
theorem os_at2 {U1 U2 U3 : List Int32} {i : Nat} (h : i < U2.length) : (U1 ++ ([95] ++ (U2 ++ ([95] ++ U3))))[U1.length + 1 + i]? = U2[i]? := by
  rw [List.getElem?_append_right (by omega), show U1.length + 1 + i - U1.length = i + 1 by omega]
  show ((95 : Int32) :: (U2 ++ ([95] ++ U3)))[i + 1]? = _
  rw [List.getElem?_cons_succ, List.getElem?_append_left h]
theorem os_u2 {U1 U2 U3 : List Int32} : (U1 ++ ([95] ++ (U2 ++ ([95] ++ U3))))[U1.length + 1 + U2.length]? = some 95 := by
  rw [List.getElem?_append_right (by omega), show U1.length + 1 + U2.length - U1.length = U2.length + 1 by omega]
  show ((95 : Int32) :: (U2 ++ ([95] ++ U3)))[U2.length + 1]? = _
  rw [List.getElem?_cons_succ, List.getElem?_append_right (Nat.le_refl _), Nat.sub_self]; rfl
theorem os_at3 {U1 U2 U3 : List Int32} {i : Nat} : (U1 ++ ([95] ++ (U2 ++ ([95] ++ U3))))[U1.length + U2.length + 2 + i]? = U3[i]? := by
  rw [List.getElem?_append_right (by omega), show U1.length + U2.length + 2 + i - U1.length = (U2.length + 1 + i) + 1 by omega]
  show ((95 : Int32) :: (U2 ++ ([95] ++ U3)))[U2.length + 1 + i + 1]? = _
  rw [List.getElem?_cons_succ, List.getElem?_append_right (by omega), show U2.length + 1 + i - U2.length = i + 1 by omega]
  show ((95 : Int32) :: U3)[i + 1]? = _
  rw [List.getElem?_cons_succ]
theorem os_len (U1 U2 U3 : List Int32) : (U1 ++ ([95] ++ (U2 ++ ([95] ++ U3)))).length = U1.length + U2.length + 2 + U3.length := by
  simp only [List.length_append, List.length_cons, List.length_nil]; omega
theorem clip_at {n : Int} {ps : List Nat} {i : Nat} (h : i < (uns (clip n ps)).length) : (uns (clip n ps))[i]? = (uns ps)[i]? := by
  obtain ⟨rs, e⟩ := clip_pre n ps
  have e2 : uns ps = uns (clip n ps) ++ uns rs := by rw [← uns_app, ← e]
  rw [e2, List.getElem?_append_left h]
theorem clip_len (n : Int) (ps : List Nat) : (uns (clip n ps)).length ≤ (uns ps).length := by
  obtain ⟨rs, e⟩ := clip_pre n ps
  have e2 : uns ps = uns (clip n ps) ++ uns rs := by rw [← uns_app, ← e]
  have e3 : (uns ps).length = (uns (clip n ps)).length + (uns rs).length := by rw [← List.length_append, ← e2]
  omega
/-! an array filled from its beginning -/
theorem fill_set {F : Nat → Int32} {i r : Nat} : ((List.range i).map (fun j => Value.int (F j)) ++ List.replicate (r + 1) (Value.int 0)).set i (Value.int (F i)) = (List.range (i + 1)).map (fun j => Value.int (F j)) ++ List.replicate r (Value.int 0) := by
  have hl : ((List.range i).map (fun j => Value.int (F j))).length = i := by simp
  rw [List.set_append_right _ _ (by omega), hl, Nat.sub_self, List.replicate_succ, List.set_cons_zero, List.range_succ]
  simp
theorem fillA {Z : State} {h : Heap} {a : Nat} {F : Nat → Int32} {i r : Nat} (A : Av Z h a .char (((List.range i).map (fun j => Value.int (F j)) ++ List.replicate (r + 1) (Value.int 0)).set i (Value.int (F i)))) : Av Z h a .char ((List.range (i + 1)).map (fun j => Value.int (F j)) ++ List.replicate r (Value.int 0)) := by
  rw [fill_set] at A; exact A
/-- the law's filling: pairs of the first code point up to r, of the second from there on -/
def fch (p1 p2 r j : Nat) : Int32 := if j < r then (if j % 2 = 0 then Int32.ofNat (evN p1) else Int32.ofNat (odN p1)) else (if j % 2 = 0 then Int32.ofNat (evN p2) else Int32.ofNat (odN p2))
theorem fch_rng {p1 p2 r j : Nat} (h1 : okP p1) (h2 : okP p2) : 0 ≤ (fch p1 p2 r j).toInt ∧ (fch p1 p2 r j).toInt < 65536 := by
  have a := ev_rng h1
  have b := ev_rng h2
  have c := od_rng (p := p1)
  have d := od_rng (p := p2)
  unfold fch
  (repeat' split)
  · rw [i32_ti (i := evN p1) (by omega)]; omega
  · rw [i32_ti (i := odN p1) (by omega)]; omega
  · rw [i32_ti (i := evN p2) (by omega)]; omega
  · rw [i32_ti (i := odN p2) (by omega)]; omega
def two (p1 p2 r size : Nat) : List Nat := List.replicate (r / nu p1) p1 ++ List.replicate ((size - r) / nu p2) p2
theorem nu_div {p j : Nat} : 2 * j / nu p * nu p = 2 * j := by
  rcases (show nu p = 1 ∨ nu p = 2 by have := nu_pos p; omega) with e | e <;> rw [e] <;> omega
/-- pairs -/
theorem uns_pairs (p j : Nat) : uns (List.replicate (2 * j / nu p) p) = (List.range (2 * j)).map fun i => if i % 2 = 0 then Int32.ofNat (evN p) else Int32.ofNat (odN p) := by
  induction j with
  | zero => simp [uns]
  | succ j ih =>
    have e0 : 2 * (j + 1) = 2 * j + 1 + 1 := by omega
    have er : (List.range (2 * (j + 1))).map (fun i => if i % 2 = 0 then Int32.ofNat (evN p) else Int32.ofNat (odN p)) = (List.range (2 * j)).map (fun i => if i % 2 = 0 then Int32.ofNat (evN p) else Int32.ofNat (odN p)) ++ [Int32.ofNat (evN p), Int32.ofNat (odN p)] := by
      rw [e0, List.range_succ, List.range_succ, List.map_append, List.map_append, List.append_assoc]
      congr 1
      have h1 : 2 * j % 2 = 0 := by omega
      have h2 : ¬ (2 * j + 1) % 2 = 0 := by omega
      simp [h2]
    rw [er, ← ih]
    by_cases q : p < 65536
    · have e1 : nu p = 1 := nu1 q
      rw [e1, Nat.div_one, Nat.div_one, e0, List.replicate_succ', List.replicate_succ', uns_app, uns_app, uns_one, un1 q, ev1 q, od1 q]
      simp
    · have e1 : nu p = 2 := nu2 (by omega)
      rw [e1, Nat.mul_div_cancel_left _ (by omega), Nat.mul_div_cancel_left _ (by omega), List.replicate_succ', uns_app, uns_one, un2 (by omega), ev2 (by omega), od2 (by omega)]
theorem fill_uns {p1 p2 j s : Nat} (hj : j ≤ s) : (List.range (2 * s)).map (fch p1 p2 (2 * j)) = uns (two p1 p2 (2 * j) (2 * s)) := by
  have e1 := uns_pairs p1 j
  have e2 := uns_pairs p2 (s - j)
  have e3 : 2 * s - 2 * j = 2 * (s - j) := by omega
  rw [two, uns_app, e3, e1, e2]
  apply List.ext_getElem?
  intro i
  by_cases h1 : i < 2 * j
  · rw [List.getElem?_append_left (by simpa using h1), List.getElem?_map, List.getElem?_map, List.getElem?_range (by omega), List.getElem?_range h1]
    simp [fch, h1]
  · rw [List.getElem?_append_right (by simpa using Nat.le_of_not_lt h1)]
    by_cases h2 : i < 2 * s
    · rw [List.getElem?_map, List.getElem?_map, List.getElem?_range h2, List.length_map, List.length_range, List.getElem?_range (by omega)]
      have h3 : (i - 2 * j) % 2 = i % 2 := by omega
      simp [fch, h1, h3]
    · rw [List.getElem?_eq_none (by simp; omega), List.getElem?_eq_none (by simp; omega)]
theorem two_ok {p1 p2 r s : Nat} (h1 : okP p1) (h2 : okP p2) : ∀ p ∈ two p1 p2 r s, okP p := by
  intro p hp
  rcases List.mem_append.mp hp with q | q
  · rw [List.eq_of_mem_replicate q]; exact h1
  · rw [List.eq_of_mem_replicate q]; exact h2
theorem two_w8 (p1 p2 r s : Nat) : w8s (two p1 p2 r s) = r / nu p1 * u8n p1 + (s - r) / nu p2 * u8n p2 := by rw [two, w8s_app, w8s_rep, w8s_rep]
theorem two_len {p1 p2 j s : Nat} (hj : j ≤ s) : (uns (two p1 p2 (2 * j) (2 * s))).length = 2 * s := by rw [← fill_uns hj]; simp
end Jvm.Own
namespace Jvm.Own
open Sem ClassFile Op Lib Jvm.Stand Jvm.Free Jvm.LawKit Jvm.RoadKit
section Long
variable {Z : State} {n0 : Nat} {p : Program} {l : Launch} {e : Env} {R : Room} {s : State} {own : String} {m : MethodId} {args : Array Value} {below : List Frame} {meth : Method} {c : Code} {Q : Option Value → Heap → Lits → Prop} {h : Heap} {k n : Nat} {Ls : Lits} {pc nx : Nat} {L : List Slot} {st : List Value}
variable {bytes : ByteArray} {ml : Nat} {ret : Option FieldType} {nm : String} {a0 : Array Value}
theorem Run.lloadN (F : Fx p c meth bytes ml ret nm) {i : Fin 4} {v : Int64} (d : Dc bytes pc (.lload_n i) 1 nx) (hl : L[i.val]? = some (.val (.long v)))
    (K : Run Z n0 p l e R s own m args below meth c Q h k n Ls nx L (.long v :: st)) : Run Z n0 p l e R s own m args below meth c Q h k n Ls pc L st := by
  have hd := hbD F d; obtain ⟨-, rfl⟩ := d
  exact Run.pure (fun T u hA s => XT.lloadN (g := mkF m pc L.toArray st) hA F.1 rfl hd (getL hl) s) K
theorem Run.lload (F : Fx p c meth bytes ml ret nm) {i : Nat} {v : Int64} (d : Dc bytes pc (.lload i) 2 nx) (hl : L[i]? = some (.val (.long v)))
    (K : Run Z n0 p l e R s own m args below meth c Q h k n Ls nx L (.long v :: st)) : Run Z n0 p l e R s own m args below meth c Q h k n Ls pc L st := by
  have hd := hbD F d; obtain ⟨-, rfl⟩ := d
  exact Run.pure (fun T u hA s => XT.lload (g := mkF m pc L.toArray st) hA F.1 rfl hd (getL hl) s) K
theorem Run.l2i (F : Fx p c meth bytes ml ret nm) {x : Int64} (d : Dc bytes pc .l2i 1 nx) (K : Run Z n0 p l e R s own m args below meth c Q h k n Ls nx L (.int x.toInt32 :: st)) : Run Z n0 p l e R s own m args below meth c Q h k n Ls pc L (.long x :: st) := by
  have hd := hbD F d; obtain ⟨-, rfl⟩ := d
  exact Run.pure (fun T u hA s => XT.l2i (g := mkF m pc L.toArray (.long x :: st)) hA F.1 rfl hd rfl s) K
theorem Run.lushr (F : Fx p c meth bytes ml ret nm) {x : Int64} {y : Int32} (d : Dc bytes pc .lushr 1 nx) (K : Run Z n0 p l e R s own m args below meth c Q h k n Ls nx L (.long (XT.ushrL x y) :: st)) : Run Z n0 p l e R s own m args below meth c Q h k n Ls pc L (.int y :: .long x :: st) := by
  have hd := hbD F d; obtain ⟨-, rfl⟩ := d
  exact Run.pure (fun T u hA s => XT.lushr (g := mkF m pc L.toArray (.int y :: .long x :: st)) hA F.1 rfl hd rfl s) K
end Long
end Jvm.Own
namespace Jvm.Own
open ClassFile Sem Op Lib Bundle Jvm.Stand Jvm.Free Jvm.Free.SB Jvm.Free.SBG
section LitW0
variable {p : Program} {l : Launch} {e : Env} {R : Room} {s : State} {m : MethodId} {args : Array Value} {below : List Frame} {meth : Method} {c : Code} {T : State} {locs : List Loc} {cells slots : Nat}
/-- 'ldc_w' of a String constant that nobody has loaded, nor interned: made by this very step -/
theorem ldcWColdF (X : Stand p l e R s m args below meth c T locs cells slots) (hold : ∀ (b : Addr) (cl : Cell), s.heap[b]? = some cl → T.heap[b]? = some cl) (hexec : p.tables.exec = Jvm.exec) {own text : String} {index : Nat} (hown : s.vm.findClass own = some m.cls)
    (hlink : (Cond.stringLink own index text).before args s = true) (hS : ∀ a ∈ Bundle.stringAtoms, a.before args s = true) (hheld : ConstHeldL s own index) (hlat : ∀ units : Array UInt16, utf16ToString? units = some text → units.all (· < 256) = true)
    {g : JFrame} (hg : g.method = m) (hdg : decode c.code g.pc = .ok (.ldc_w index, 3)) {n : Nat} (hn : 4 * text.toList.length ≤ n) (hbig : n ≤ 536870912)
    (hRcells : cells + 2 ≤ R.cells) (hRslots : slots + (n + 4) ≤ R.slots) (hop : ∀ k' : Class, T.vm.classes[m.cls]? = some k' → k'.resolved[index]? = some none) (hno : ∀ units : Array UInt16, utf16ToString? units = some text → T.vm.interned.find? (fun p => p.1 == units) = none) :
    ∃ (a : Addr) (T₂ : State), Stand p l e R (s.setVm T₂.vm) m args below meth c T₂ locs (cells + 2) (slots + (n + 4)) ∧ s.Since T₂.vm T₂.heap.size ∧ (∃ k₂, T₂.vm.classes[m.cls]? = some k₂ ∧ k₂.resolved[index]? = some (some (.string a))) ∧ (∀ a0, a0 < T.heap.size → T₂.heap[a0]? = T.heap[a0]?) ∧
      T.Interned1 T₂ ∧ (T₂.vm.interned = T.vm.interned ∨ ∃ (units : Array UInt16) (a' : Addr), utf16ToString? units = some text ∧ T₂.vm.interned = T.vm.interned.push (units, a')) ∧ (∃ units : Array UInt16, utf16ToString? units = some text ∧ SlIn s.heap.size T.heap.size T₂ a units) ∧
      ∀ target, Steps p.tables e below (T₂.setTop { g with pc := g.pc + 3, stack := .ref a :: g.stack }) target → Steps p.tables e below (T.setTop g) target := by
  obtain ⟨k, cf, i, units, hk, hcf, hc, hu, hnm, hdec, hres⟩ := Cond.stringLink_spec hown hlink
  obtain ⟨k', hk', he⟩ := X.warmed.alike.2.2 _ _ hk
  have hcf' : k'.cf = some cf := by rw [he]; exact hcf
  have hbytes : (stringBytes units).size ≤ n := Nat.le_trans (text_bytes_le hdec) hn
  have hopen := hop k' hk'
  have hf := hno units hdec
  have hopen0 : k.resolved[index]? = some none := by
    obtain ⟨k'', ha'', -, -, ee, -⟩ := X.warmed.wide.2.2.2 _ k hk
    cases hk'.symm.trans ha''
    rcases ee index with e0 | ⟨hop', -⟩
    · exact e0.symm.trans hopen
    · exact hop'
  subst hg
  have q2 : k.cf.bind (namesOf? ·.constantPool index) = some (.string text) := by rw [hcf]; exact hnm
  have q3 : k.cf.bind (·.constantPool[index]?) = some (.string i) := by rw [hcf]; exact hc
  have q4 : k.cf.bind (·.constantPool.utf8? i) = some units := by rw [hcf]; simp [ConstantPool.utf8?, hu]
  obtain ⟨Zs, LZs, hn4, hfitv, hfitc⟩ := StringT.of_atoms (args := args) hS
  obtain ⟨kS', kB', LZ', htyS⟩ := LZs.warmer X.warmed.alike
  have hfs : T.fitsSlot = s.fitsSlot := (show T.fitsSlot = (s.setVm T.vm).fitsSlot from rfl).trans (State.fitsSlot_setVm X.warmed.alike)
  have hpush : ({ T.vm with interned := T.vm.interned.push (units, T.heap.size + 1) } : Vm).interned.find? (fun p => p.1 == units) = some (units, T.heap.size + 1) := by
    show (T.vm.interned.push (units, T.heap.size + 1)).find? _ = _
    rw [Array.find?_push, hf]; simp
  have hW : s.Warmed39 (({ T.vm with interned := T.vm.interned.push (units, T.heap.size + 1) } : Vm).noted g.method.cls index (.string (T.heap.size + 1))) :=
    (X.warmed.wide.interns units (T.heap.size + 1)).notedString hk (Or.inl hopen0) q2 q3 q4 hpush
  have X2 := (X.pushed (bytesOf Zs.cB units)).pushed (stringAt Zs.cS kS' Zs.fv Zs.fc units T.heap.size)
  rw [← withString_eq] at X2
  have hhp : (withString T Zs.cB Zs.cS kS' Zs.fv Zs.fc units).heap = (T.heap.push (bytesOf Zs.cB units)).push (stringAt Zs.cS kS' Zs.fv Zs.fc units T.heap.size) := by rw [withString_eq]; rfl
  have hsz : (withString T Zs.cB Zs.cS kS' Zs.fv Zs.fc units).heap.size = T.heap.size + 2 := by rw [hhp]; simp [Array.size_push]
  have b1 : (bytesOf Zs.cB units).slots.size = (stringBytes units).size := by
    rw [(Cell.writeAll_facts _ _).2.2]; simp [bytes0]
  have b2 : (stringAt Zs.cS kS' Zs.fv Zs.fc units T.heap.size).slots.size = 4 := by simp [string0, Cell.setSlot, htyS, hn4]
  have hone : T.Interned1 ((withString T Zs.cB Zs.cS kS' Zs.fv Zs.fc units).setVm (({ T.vm with interned := T.vm.interned.push (units, T.heap.size + 1) } : Vm).noted g.method.cls index (.string (T.heap.size + 1)))) :=
    ⟨by show T.heap.size ≤ (withString T Zs.cB Zs.cS kS' Zs.fv Zs.fc units).heap.size; omega, Or.inr ⟨units, T.heap.size + 1, rfl, by omega, by show T.heap.size + 1 < (withString T Zs.cB Zs.cS kS' Zs.fv Zs.fc units).heap.size; omega⟩⟩
  refine ⟨T.heap.size + 1, (withString T Zs.cB Zs.cS kS' Zs.fv Zs.fc units).setVm (({ T.vm with interned := T.vm.interned.push (units, T.heap.size + 1) } : Vm).noted g.method.cls index (.string (T.heap.size + 1))), (X2.mono (by omega) (by rw [b1, b2]; omega)).retabled hW, ⟨hW, State.Booked.step (X.warmed.no_new_pair _) X.same.2.1 hone⟩, ⟨_, Vm.classes_note_self (vm := { T.vm with interned := T.vm.interned.push (units, T.heap.size + 1) }) index (.string (T.heap.size + 1)) hk', Class.resolved_note_self (.string (T.heap.size + 1)) hopen⟩, fun a0 h0 => ?_, hone, Or.inr ⟨units, T.heap.size + 1, hdec, rfl⟩,
    ⟨units, hdec, made_sl (n := T.heap.size) hS LZs hn4 htyS hW.alike ?_ ?_ (hlat units hdec) (by omega) s.heap.size⟩, fun target hrest => ?_⟩
  · show (withString T Zs.cB Zs.cS kS' Zs.fv Zs.fc units).heap[a0]? = _
    rw [hhp, Array.getElem?_push, if_neg (by rw [Array.size_push]; omega), Array.getElem?_push, if_neg (by omega)]
  · show (withString T Zs.cB Zs.cS kS' Zs.fv Zs.fc units).heap[T.heap.size]? = _
    rw [hhp, Array.getElem?_push, if_neg (by rw [Array.size_push]; omega), Array.getElem?_push, if_pos rfl]
  · show (withString T Zs.cB Zs.cS kS' Zs.fv Zs.fc units).heap[T.heap.size + 1]? = _
    rw [hhp, Array.getElem?_push, if_pos (by rw [Array.size_push])]
  · refine Steps.instr (c := _) (by simpa using X.here) ?_
    simp [jvm, wpRun, exec, X.here.top, hexec, hdg]
    refine ldc_w.wp_string_new (e := e) (s := T) (f := g) X.here.top hk' hcf' hc hu hopen hf LZ'.found LZ'.cls LZ'.initialized LZ'.ordinary LZ'.foundB LZ'.clsB LZ'.kindB LZ'.value LZ'.coder ?_ ?_ (X.cellsAbove hRcells) ?_
      (stringBytes_fit LZ'.clsB LZ'.kindB units) LZ'.valueSlot LZ'.coderSlot (by rw [hfs]; exact hfitv _) (by rw [hfs]; exact hfitc _) (fun d' acts' => ?_)
    · rw [Launch.admits_arrayLengthLimit X.admits]; omega
    · rw [Launch.admits_maxHeapBytes X.admits]; simp only [componentBytes]; omega
    · have := X.slotsAbove hRslots
      show T.slotsUsed + (stringBytes units).size + kS'.instanceTypes.size ≤ _
      rw [htyS, hn4]; omega
    · intro acts''
      have hs' : (withString T Zs.cB Zs.cS kS' Zs.fv Zs.fc units).topJava?.isSome := by simpa [withString] using X.here.top
      have hs'' : ((withString T Zs.cB Zs.cS kS' Zs.fv Zs.fc units).setVm (({ T.vm with interned := T.vm.interned.push (units, T.heap.size + 1) } : Vm).noted g.method.cls index (.string (T.heap.size + 1)))).topJava?.isSome := by simpa using hs'
      simp [jvm, afterInstr, hs', hs'']
      rw [State.modifyTopJava_setTop]
      exact hrest
end LitW0
end Jvm.Own
namespace Jvm.Own
open Sem ClassFile Op Lib Jvm.Stand Jvm.Free Jvm.LawKit Jvm.RoadKit Jvm.Free.SB Jvm.Free.SBG
section Lit
variable {Z : State} {n0 : Nat} {p : Program} {l : Launch} {e : Env} {R : Room} {s : State} {own : String} {m : MethodId} {args : Array Value} {below : List Frame} {meth : Method} {c : Code} {Q : Option Value → Heap → Lits → Prop} {h : Heap} {k n : Nat} {pc nx : Nat} {L : List Slot} {st : List Value}
variable {bytes : ByteArray} {ml : Nat} {ret : Option FieldType} {nm : String} {a0 : Array Value} {T : State} {locs : List Loc} {cells slots : Nat}
theorem ldcWAgain {vm0 : Vm} {text : String} {index : Nat} (X : Stand p l e R (s.setVm vm0) m args below meth c T locs cells slots) (hx : p.tables.exec = Jvm.exec) (hZ : Z.Warmed39 vm0) (hown : vm0.findClass own = some m.cls) (w : (Cond.stringLink own index text).before a0 Z = true) {a : Addr} (L : Lit (s.setVm vm0) own index a)
    {g : JFrame} (hg : g.method = m) (hd : decode c.code g.pc = .ok (.ldc_w index, 3)) : ∀ target, Steps p.tables e below (T.setTop { g with pc := g.pc + 3, stack := .ref a :: g.stack }) target → Steps p.tables e below (T.setTop g) target :=
  ldcWR (Z := s.setVm vm0) (a0 := args) X hx (State.Warmed39.refl _) hown (refOfLit (mvS (s := s.setVm vm0) hZ w) L) L hg hd
theorem Run.ldcwS {lt : List (String × Addr)} {text : String} {P : Addr → Addr → Prop} (F : Fx p c meth bytes ml ret nm) {i : Nat} (w : (Cond.stringLink own i text).before a0 Z = true) (wS : ∀ a ∈ Bundle.stringAtoms, a.before a0 Z = true) (hh : Jvm.Lit.constHeld Z own i) (hcw : Jvm.Lit.compactW.before a0 Z = true)
    (ht : ∀ c ∈ text.toList, c.toNat < 256) (hLs : ∀ t ∈ lt, t.1 = text → ∃ b, Str Z h t.2 b 0 (litB text) ∧ P t.2 b) (cap : Nat) (hcap : 4 * text.toList.length ≤ cap) (hbig0 : Nat.ble cap 536870912 = true) (hc : k + 2 ≤ R.cells) (hl : n + (cap + 4) ≤ R.slots) (d : Dc bytes pc (.ldc_w i) 3 nx)
    (K : ∀ h' a b, Keep h h' [] → Str Z h' a b 0 (litB text) → ((a < n0 ∧ b < n0) ∨ (h.size ≤ a ∧ h.size ≤ b) ∨ P a b) → Run Z n0 p l e R s own m args below meth c Q h' (k + 2) (n + (cap + 4)) (some ((text, a) :: lt)) nx L (.ref a :: st)) :
    Run Z n0 p l e R s own m args below meth c Q h k n (some lt) pc L st := fun T W => by
  have hbig : cap ≤ 536870912 := Nat.le_of_ble_eq_true hbig0
  have hd := hbD F d; obtain ⟨-, rfl⟩ := d
  obtain ⟨vm0, locs, k0, X, eT, hS, hk, hZ, hown, N, hO, I, kn⟩ := W
  have hi : T.vm.interned = vm0.interned := X.warmed.interned_eq
  have X1 : Stand p l e R (s.setVm T.vm) m args below meth c T locs k n := X.retabled X.warmed.wide
  have hW0 : (s.setVm vm0).Warmed39 T.vm := X.warmed.wide
  have hS1 : s.Since T.vm h.size := hS.trans (X.warmed.since h.size) hk
  have hZ1 : Z.Warmed39 T.vm := State.Warmed39.trans hZ hW0
  have hown1 : T.vm.findClass own = some m.cls := (hW0.alike.findClass _ _).trans hown
  have I1 : Itn Z T.vm (some lt) := I.eq hi
  have wi : (Cond.instantiable "java/lang/String" 4).before a0 Z = true := wS _ (by simp [Bundle.stringAtoms, Bundle.sN])
  have wa : (Cond.arrayClass .byte).before a0 Z = true := wS _ (by simp [Bundle.stringAtoms])
  have hH : ConstHeldL Z own i := heldStart hh w ht hcw wa wi
  have w1 : (Cond.stringLink own i text).before args (s.setVm T.vm) = true := mvS hZ1 w
  obtain ⟨kk, cf, si, units, hkk, hcf, hcp, hu, hnm, htext, hres⟩ := Cond.stringLink_spec (s := s.setVm T.vm) hown1 w1
  have hkk' : T.vm.classes[m.cls]? = some kk := hkk
  -- the class at the start of the law
  have hownZ : Z.vm.findClass own = some m.cls := by rw [← hZ1.alike.findClass]; exact hown1
  obtain ⟨kz, cz, iz, uz, hkz, hcfz, hcpz, huz, hnmz, htextz, hresz⟩ := Cond.stringLink_spec hownZ w
  obtain ⟨kk2, hkk2, ekk, -, eent, -⟩ := hZ1.2.2.2 _ kz hkz
  cases hkk'.symm.trans hkk2
  have ecf : cz = cf := by have q : kk.cf = kz.cf := by rw [ekk]
                           rw [hcf, hcfz] at q; exact (Option.some.inj q).symm
  subst ecf
  cases hcpz.symm.trans hcp
  cases huz.symm.trans hu
  -- what is held where the walk stands
  have held : ∀ a, (kk.resolved[i]? = some (some (.string a)) ∨ (kk.resolved[i]? = some none ∧ T.vm.interned.find? (fun p => p.1 == units) = some (units, a))) → ∃ b, Str Z h a b 0 (litB text) ∧ ((a < n0 ∧ b < n0) ∨ P a b) := by
    intro a ha
    have fromZ : SlOf Z a units → ∃ b, Str Z h a b 0 (litB text) ∧ ((a < n0 ∧ b < n0) ∨ P a b) := by
      rintro ⟨q, cS, rfl, S, hkS, hB, hb⟩
      have R0 := slStr (Vm.Alike.refl _) htext ht S hkS hB hb
      refine ⟨q.sd, R0.keep (Keep.ofExt hO.2) nin0 nin0, Or.inl ⟨?_, ?_⟩⟩
      · have := R0.la; rw [hO.1] at this; exact this
      · have := R0.lb; rw [hO.1] at this; exact this
    have fromI : kz.resolved[i]? = some none → T.vm.interned.find? (fun p => p.1 == units) = some (units, a) → ∃ b, Str Z h a b 0 (litB text) ∧ ((a < n0 ∧ b < n0) ∨ P a b) := by
      intro hop hf
      obtain ⟨more, em, hm⟩ := I1 lt rfl
      rw [em, Array.find?_append] at hf
      cases hs : Z.vm.interned.find? (fun p => p.1 == units) with
      | some pr =>
        rw [hs] at hf
        exact fromZ (hH _ kz cz si units a hownZ hkz hcfz hcpz huz (Or.inr ⟨hop, by rw [hs]; simpa using hf⟩))
      | none =>
        rw [hs, Option.none_or] at hf
        obtain ⟨t, htm, h1, h2⟩ := hm _ (Array.mem_of_find?_eq_some hf)
        have e1 : t.1 = text := Option.some.inj (h1.symm.trans htext)
        obtain ⟨b, hb, hp⟩ := hLs t htm e1
        have e2 : t = (text, a) := Prod.ext e1 h2.symm
        subst e2
        exact ⟨b, hb, Or.inr hp⟩
    rcases eent i with e0 | ⟨hop, r, e1, hr | ⟨a3, t, si', us, rfl, -, q3, q4, q5⟩⟩
    · rcases ha with h0 | ⟨h0, hf⟩
      · exact fromZ (hH _ kz cz si units a hownZ hkz hcfz hcpz huz (Or.inl (e0 ▸ h0)))
      · exact fromI (e0 ▸ h0) hf
    · exfalso
      cases r <;> simp [State.rightAt, hkz, hcfz, hnmz] at hr
    · rw [hcfz] at q3 q4
      have e3 : si' = si := by have := q3.symm.trans hcpz; simpa using this
      subst e3
      have e4 : us = units := by simpa [ConstantPool.utf8?, huz] using q4.symm
      subst e4
      rcases ha with h0 | ⟨h0, hf⟩
      · have ea : a3 = a := by have := e1.symm.trans h0; simpa using this
        subst ea
        exact fromI hop q5
      · have := e1.symm.trans h0; simp at this
  have more1 : ∀ a, Itn Z T.vm (some ((text, a) :: lt)) := fun a lt' hlt' => by
    obtain ⟨more, em, hm⟩ := I1 lt rfl
    cases hlt'
    exact ⟨more, em, fun q hq => by obtain ⟨t, h1, h2⟩ := hm q hq; exact ⟨t, List.mem_cons_of_mem _ h1, h2⟩⟩
  rcases hres with hopen | ⟨a, hra⟩
  · cases hf : T.vm.interned.find? (fun p => p.1 == units) with
    | some pr =>
      obtain ⟨u', a⟩ := pr
      have hu' : u' = units := by have := Array.find?_some hf; simpa using this
      subst hu'
      obtain ⟨b, S, hpos⟩ := held a (Or.inr ⟨hopen, hf⟩)
      have q2 : kk.cf.bind (namesOf? ·.constantPool i) = some (.string text) := by rw [hcf]; exact hnm
      have q3 : kk.cf.bind (·.constantPool[i]?) = some (.string si) := by rw [hcf]; exact hcp
      have q4 : kk.cf.bind (·.constantPool.utf8? si) = some u' := by rw [hcf]; simp [ConstantPool.utf8?, hu]
      have hW : (s.setVm T.vm).Warmed39 (T.vm.noted m.cls i (.string a)) := (State.Warmed39.refl (s.setVm T.vm)).notedString hkk (Or.inl hopen) q2 q3 q4 hf
      have X2 : Stand p l e R (s.setVm (T.vm.noted m.cls i (.string a))) m args below meth c (T.setVm (T.vm.noted m.cls i (.string a))) locs k n := X1.retabled hW
      have hS2 : s.Since (T.vm.noted m.cls i (.string a)) h.size := hS1.trans ⟨hW, fun j pp hj hp => by
        have : T.vm.interned[j]? = some pp := hp
        exact absurd (Array.getElem?_eq_some_iff.mp this).1 (Nat.not_lt.mpr hj)⟩ (Nat.le_refl _)
      obtain ⟨u, o, r1, r⟩ := K h a b (Keep.refl _ _) S (hpos.imp id Or.inr) _ ⟨_, locs, h.size, X2.mono (Nat.le_add_right _ _) (Nat.le_add_right _ _), eT, hS2, Nat.le_refl _, State.Warmed39.trans (t := s.setVm T.vm) hZ1 hW, (hW.alike.findClass _ _).trans hown1, N, hO, (more1 a).eq rfl, kn⟩
      refine ⟨u, o, ?_, r⟩
      show Steps p.tables e below (T.setTop { method := m, pc := pc, locals := L.toArray, stack := st, locked := none }) u
      jvm_step X.here [F.1, hd, ldc_w.wp_string_found (e := e) (s := T) (f := mkF m pc L.toArray st) X.here.top hkk' hcf hcp hu hopen hf]
      exact r1
    | none =>
      obtain ⟨s2, e2h, e2v, hT, X0⟩ := anew X1 (by omega) (by omega)
      have X0' : Stand p l e { R with cells := R.cells - k, slots := R.slots - n } s2 m args below meth c T [] 0 0 := X0
      have hown2 : s2.vm.findClass own = some m.cls := by rw [e2v]; exact hown1
      have hZ2 : Z.Warmed39 s2.vm := by rw [e2v]; exact hZ1
      have hkk2 : s2.vm.classes[m.cls]? = some kk := by rw [e2v]; exact hkk'
      have vac : ConstHeldL s2 own i := fun c' k' cf' i' us' a' h1 h2 h3 h4 h5 h6 => by
        exfalso
        cases hown2.symm.trans h1
        cases hkk2.symm.trans h2
        cases hcf.symm.trans h3
        cases hcp.symm.trans h4
        cases hu.symm.trans h5
        rcases h6 with h6 | ⟨-, h6⟩
        · have := hopen.symm.trans h6; simp at this
        · rw [e2v, hf] at h6; cases h6
      obtain ⟨a, T2, X2, hS2, ⟨k2, hk2, hr2⟩, hkeep, -, hint, ⟨us, hus, hin⟩, stp⟩ := ldcWColdF X0' (fun b cl hb => by rw [e2h] at hb; exact hb) F.1 (own := own) (text := text) hown2 (mvS (s := s2) hZ2 w) (fun dd hdd => by
        have q := wS dd hdd
        simp only [Bundle.stringAtoms, List.mem_cons, List.not_mem_nil, or_false] at hdd
        rcases hdd with rfl | rfl | rfl | rfl | rfl | rfl | rfl
        · exact mv (s := s2) hZ2 q
        · exact mv (s := s2) hZ2 q
        · exact mvA (s := s2) hZ2 q
        · exact mv (s := s2) hZ2 q
        · exact mv (s := s2) hZ2 q
        · exact mv (s := s2) hZ2 q
        · exact mv (s := s2) hZ2 q) vac (fun us hus => Jvm.ClassFile.lat_of_text hus ht) (g := mkF m pc L.toArray st) rfl hd (n := cap) hcap hbig (by show 0 + 2 ≤ R.cells - k; omega) (by show 0 + (cap + 4) ≤ R.slots - n; omega) (fun k1 hk1 => by cases hkk'.symm.trans hk1; exact hopen) (fun u hu1 => by
        have e1 := Jvm.ClassFile.units_of_text hu1 ht
        have e2 := Jvm.ClassFile.units_of_text htext ht
        have e3 : u = units := Array.toList_inj.mp (e1.trans e2.symm)
        rw [e3]; exact hf)
      obtain ⟨X3, hS3⟩ := ofAnew X1 hT X0' X2 hS2
      -- the pair that came is this constant's
      obtain ⟨k2', hk2', -, -, ee2, -⟩ := hS2.1.2.2.2 _ kk hkk2
      cases hk2.symm.trans hk2'
      have hfind : T2.vm.interned.find? (fun p => p.1 == units) = some (units, a) := by
        rcases ee2 i with e0 | ⟨-, r, e1, hr | ⟨a3, t, si', us', rfl, -, q3, q4, q5⟩⟩
        · have := (e0.symm.trans hr2).symm.trans hopen; simp at this
        · exfalso
          cases e1.symm.trans hr2
          simp [State.rightAt, hkk2, hcf, hnm] at hr
        · rw [hcf] at q3 q4
          have e3 : si' = si := by have := q3.symm.trans hcp; simpa using this
          subst e3
          have e4 : us' = units := by simpa [ConstantPool.utf8?, hu] using q4.symm
          subst e4
          have ea : a3 = a := by have := e1.symm.trans hr2; simpa using this
          subst ea
          exact q5
      have hpush : T2.vm.interned = T.vm.interned.push (units, a) := by
        rcases hint with e0 | ⟨u2, a2, -, e0⟩
        · rw [e0, hf] at hfind; cases hfind
        · rw [e0, ← Array.append_singleton, Array.find?_append, hf, Option.none_or] at hfind
          have hmem := Array.mem_of_find?_eq_some hfind
          have : (units, a) = (u2, a2) := by simpa using hmem
          rw [this]; exact e0
      have hge : h.size ≤ a := by
        have := (hS2.2 T.vm.interned.size (units, a) (by rw [e2v]; exact Nat.le_refl _) (by rw [hpush]; simp)).1
        rw [e2h, eT] at this; exact this
      obtain ⟨q, cS, rfl, S, hkS, hB, hb, hpos⟩ := hin
      have hal2 : Z.vm.Alike T2.vm := (State.Warmed39.trans hZ2 hS2.1).alike
      have SS := slStr hal2 hus ht S hkS hB hb
      have hpos' : h.size ≤ q.sd := by
        rcases hpos with ⟨x, -⟩ | ⟨-, y⟩
        · rw [e2h, eT] at x; exact absurd x (Nat.not_lt.mpr hge)
        · rw [eT] at y; exact y
      have E : Ext h T2.heap := ext_of fun b hb => by rw [← eT] at hb ⊢; exact hkeep b hb
      obtain ⟨u, o, r1, r⟩ := K T2.heap q.sa q.sd (Keep.ofExt E) SS (Or.inr (Or.inl ⟨hge, hpos'⟩)) T2 ⟨T2.vm, locs, T2.heap.size, X3.mono (by omega) (by omega), rfl, hS1.trans hS3 E.1, Nat.le_refl _, State.Warmed39.trans hZ2 hS2.1, (hS2.1.alike.findClass _ _).trans hown2, N, hO.ext E, fun lt' hlt' => by
        cases hlt'
        obtain ⟨more, em, hm⟩ := I1 lt rfl
        refine ⟨more.push (units, q.sa), by rw [hpush, em]; simp, fun pp hpp => ?_⟩
        rcases Array.mem_push.mp hpp with y | y
        · obtain ⟨t, h1, h2⟩ := hm pp y; exact ⟨t, List.mem_cons_of_mem _ h1, h2⟩
        · subst y; exact ⟨(text, q.sa), List.mem_cons_self .., htext, rfl⟩, kn⟩
      exact ⟨u, o, stp _ r1, r⟩
  · obtain ⟨b, S, hpos⟩ := held a (Or.inl hra)
    have Lt : Lit (s.setVm T.vm) own i a := by
      have : (s.setVm T.vm).vm.findClass own = some m.cls := hown1
      have k1 : T.vm.findClass own = some m.cls := hown1
      show State.resolvedAt? _ _ _ = _
      simp [State.resolvedAt?, k1, hkk', hra]
    obtain ⟨u, o, r1, r⟩ := K h a b (Keep.refl _ _) S (hpos.imp id Or.inr) T ⟨T.vm, locs, h.size, X1.mono (Nat.le_add_right _ _) (Nat.le_add_right _ _), eT, hS1, Nat.le_refl _, hZ1, hown1, N, hO, more1 a, kn⟩
    exact ⟨u, o, ldcWAgain (s := s) (vm0 := T.vm) X1 F.1 hZ1 hown1 w Lt (g := mkF m pc L.toArray st) rfl hd u r1, r⟩
end Lit
end Jvm.Own
namespace Jvm.Pilot.@@N@@
open Jvm Jvm.ClassFile Sem Op Lib Jvm.Free Jvm.Stand Jvm.LawKit Jvm.RoadKit Bundle Jvm.Own Jvm.Pilot.@@N@@.Jvm.D
theorem pn0 : plainName "java/lang/String" = true := by first | (simp [plainName, overriddenIn]; done) | decide +kernel
theorem pn1 : plainName "jdk/internal/util/Preconditions" = true := by first | (simp [plainName, overriddenIn]; done) | decide +kernel
theorem pn2 : plainName "java/lang/StringLatin1" = true := by first | (simp [plainName, overriddenIn]; done) | decide +kernel
theorem pn3 : plainName "java/lang/StringUTF16" = true := by first | (simp [plainName, overriddenIn]; done) | decide +kernel
theorem pn4 : plainName "java/lang/AbstractStringBuilder" = true := by first | (simp [plainName, overriddenIn]; done) | decide +kernel
theorem pn5 : plainName "java/lang/StringBuilder" = true := by first | (simp [plainName, overriddenIn]; done) | decide +kernel
theorem pn6 : plainName "jdk/internal/util/ArraysSupport" = true := by first | (simp [plainName, overriddenIn]; done) | decide +kernel
theorem pn7 : plainName "java/util/Arrays" = true := by first | (simp [plainName, overriddenIn]; done) | decide +kernel
theorem pn8 : plainName "java/lang/Character" = true := by first | (simp [plainName, overriddenIn]; done) | decide +kernel
theorem pn9 : plainName "java/lang/StringCoding" = true := by first | (simp [plainName, overriddenIn]; done) | decide +kernel
theorem pn10 : plainName "com/example/earnest_orm/earnestorm/mapping/Identifiers" = true := by first | (simp [plainName, overriddenIn]; done) | decide +kernel
theorem pn11 : plainName "com/example/earnest_orm/earnestorm/mapping/IdentifiersIdentifierPinLaw" = true := by first | (simp [plainName, overriddenIn]; done) | decide +kernel
theorem pf_max : plainFor (⟨"java/lang/Math", "max", "(II)I"⟩ : MethodName) = true := by decide +kernel
theorem pf_min : plainFor (⟨"java/lang/Math", "min", "(II)I"⟩ : MethodName) = true := by decide +kernel
theorem pd0 : parseMethodDescriptor "()B" = some ⟨[], some .byte⟩ := by decide +kernel
theorem pd1 : parseMethodDescriptor "(IILjava/util/function/BiFunction;)I" = some ⟨[.int, .int, (.object "java/util/function/BiFunction")], some .int⟩ := by decide +kernel
theorem pd2 : parseMethodDescriptor "(II)V" = some ⟨[.int, .int], none⟩ := by decide +kernel
theorem pd3 : parseMethodDescriptor "(I)I" = some ⟨[.int], some .int⟩ := by decide +kernel
theorem pd4 : parseMethodDescriptor "(I)[B" = some ⟨[.int], some (.array .byte)⟩ := by decide +kernel
theorem pd5 : parseMethodDescriptor "([BII)V" = some ⟨[(.array .byte), .int, .int], none⟩ := by decide +kernel
theorem pd6 : parseMethodDescriptor "([CI[BII)I" = some ⟨[(.array .char), .int, (.array .byte), .int, .int], some .int⟩ := by decide +kernel
theorem pd7 : parseMethodDescriptor "([CII)[B" = some ⟨[(.array .char), .int, .int], some (.array .byte)⟩ := by decide +kernel
theorem pd8 : parseMethodDescriptor "([BI)C" = some ⟨[(.array .byte), .int], some .char⟩ := by decide +kernel
theorem pd9 : parseMethodDescriptor "([BI)B" = some ⟨[(.array .byte), .int], some .byte⟩ := by decide +kernel
theorem pd10 : parseMethodDescriptor "([CIILjava/lang/Void;)V" = some ⟨[(.array .char), .int, .int, (.object "java/lang/Void")], none⟩ := by decide +kernel
theorem pd11 : parseMethodDescriptor "([B)I" = some ⟨[(.array .byte)], some .int⟩ := by decide +kernel
theorem pd12 : parseMethodDescriptor "(I[B)V" = some ⟨[.int, (.array .byte)], none⟩ := by decide +kernel
theorem pd13 : parseMethodDescriptor "()Z" = some ⟨[], some .boolean⟩ := by decide +kernel
theorem pd14 : parseMethodDescriptor "()I" = some ⟨[], some .int⟩ := by decide +kernel
theorem pd15 : parseMethodDescriptor "(II)I" = some ⟨[.int, .int], some .int⟩ := by decide +kernel
theorem pd16 : parseMethodDescriptor "(III)I" = some ⟨[.int, .int, .int], some .int⟩ := by decide +kernel
theorem pd17 : parseMethodDescriptor "([BI)[B" = some ⟨[(.array .byte), .int], some (.array .byte)⟩ := by decide +kernel
theorem pd18 : parseMethodDescriptor "(IIILjava/util/function/BiFunction;)I" = some ⟨[.int, .int, .int, (.object "java/util/function/BiFunction")], some .int⟩ := by decide +kernel
theorem pd19 : parseMethodDescriptor "(II[B)V" = some ⟨[.int, .int, (.array .byte)], none⟩ := by decide +kernel
theorem pd20 : parseMethodDescriptor "([BI[BII)V" = some ⟨[(.array .byte), .int, (.array .byte), .int, .int], none⟩ := by decide +kernel
theorem pd21 : parseMethodDescriptor "()V" = some ⟨[], none⟩ := by decide +kernel
theorem pd22 : parseMethodDescriptor "(Ljava/lang/String;)V" = some ⟨[(.object "java/lang/String")], none⟩ := by decide +kernel
theorem pd23 : parseMethodDescriptor "([BIB)V" = some ⟨[(.array .byte), .int, .byte], none⟩ := by decide +kernel
theorem pd24 : parseMethodDescriptor "(I)V" = some ⟨[.int], none⟩ := by decide +kernel
theorem pd25 : parseMethodDescriptor "(ILjava/lang/String;)V" = some ⟨[.int, (.object "java/lang/String")], none⟩ := by decide +kernel
theorem pd26 : parseMethodDescriptor "(Ljava/lang/String;)Ljava/lang/AbstractStringBuilder;" = some ⟨[(.object "java/lang/String")], some (.object "java/lang/AbstractStringBuilder")⟩ := by decide +kernel
theorem pd27 : parseMethodDescriptor "([BII)[B" = some ⟨[(.array .byte), .int, .int], some (.array .byte)⟩ := by decide +kernel
theorem pd28 : parseMethodDescriptor "()[B" = some ⟨[], some (.array .byte)⟩ := by decide +kernel
theorem pd29 : parseMethodDescriptor "(Ljava/lang/AbstractStringBuilder;Ljava/lang/Void;)V" = some ⟨[(.object "java/lang/AbstractStringBuilder"), (.object "java/lang/Void")], none⟩ := by decide +kernel
theorem pd30 : parseMethodDescriptor "(Ljava/lang/StringBuilder;)V" = some ⟨[(.object "java/lang/StringBuilder")], none⟩ := by decide +kernel
theorem pd31 : parseMethodDescriptor "([BII)I" = some ⟨[(.array .byte), .int, .int], some .int⟩ := by decide +kernel
theorem pd32 : parseMethodDescriptor "(C)Z" = some ⟨[.char], some .boolean⟩ := by decide +kernel
theorem pd33 : parseMethodDescriptor "(CC)I" = some ⟨[.char, .char], some .int⟩ := by decide +kernel
theorem pd34 : parseMethodDescriptor "([BZ)[B" = some ⟨[(.array .byte), .boolean], some (.array .byte)⟩ := by decide +kernel
theorem pd35 : parseMethodDescriptor "([BII)Z" = some ⟨[(.array .byte), .int, .int], some .boolean⟩ := by decide +kernel
theorem pd36 : parseMethodDescriptor "(B[BZ)[B" = some ⟨[.byte, (.array .byte), .boolean], some (.array .byte)⟩ := by decide +kernel
theorem pd37 : parseMethodDescriptor "(Ljava/nio/charset/Charset;B[B)[B" = some ⟨[(.object "java/nio/charset/Charset"), .byte, (.array .byte)], some (.array .byte)⟩ := by decide +kernel
theorem pd38 : parseMethodDescriptor "(Ljava/nio/charset/Charset;)[B" = some ⟨[(.object "java/nio/charset/Charset")], some (.array .byte)⟩ := by decide +kernel
theorem pd39 : parseMethodDescriptor "([BIIZ)I" = some ⟨[(.array .byte), .int, .int, .boolean], some .int⟩ := by decide +kernel
theorem pd40 : parseMethodDescriptor "(I)C" = some ⟨[.int], some .char⟩ := by decide +kernel
theorem pd41 : parseMethodDescriptor "(I)Z" = some ⟨[.int], some .boolean⟩ := by decide +kernel
theorem pd42 : parseMethodDescriptor "(C)[B" = some ⟨[.char], some (.array .byte)⟩ := by decide +kernel
theorem pd43 : parseMethodDescriptor "([BB)V" = some ⟨[(.array .byte), .byte], none⟩ := by decide +kernel
theorem pd44 : parseMethodDescriptor "(I)Ljava/lang/String;" = some ⟨[.int], some (.object "java/lang/String")⟩ := by decide +kernel
theorem pd45 : parseMethodDescriptor "([BI[BII)I" = some ⟨[(.array .byte), .int, (.array .byte), .int, .int], some .int⟩ := by decide +kernel
theorem pd46 : parseMethodDescriptor "(III)V" = some ⟨[.int, .int, .int], none⟩ := by decide +kernel
theorem pd47 : parseMethodDescriptor "([BII)Ljava/lang/String;" = some ⟨[(.array .byte), .int, .int], some (.object "java/lang/String")⟩ := by decide +kernel
theorem pd48 : parseMethodDescriptor "(II)Ljava/lang/String;" = some ⟨[.int, .int], some (.object "java/lang/String")⟩ := by decide +kernel
theorem pd49 : parseMethodDescriptor "(Ljava/lang/String;)I" = some ⟨[(.object "java/lang/String")], some .int⟩ := by decide +kernel
theorem pd50 : parseMethodDescriptor "(Ljava/lang/String;)Ljava/lang/StringBuilder;" = some ⟨[(.object "java/lang/String")], some (.object "java/lang/StringBuilder")⟩ := by decide +kernel
theorem pd51 : parseMethodDescriptor "(Ljava/lang/String;I)Ljava/lang/String;" = some ⟨[(.object "java/lang/String"), .int], some (.object "java/lang/String")⟩ := by decide +kernel
theorem pd52 : parseMethodDescriptor "()Ljava/lang/String;" = some ⟨[], some (.object "java/lang/String")⟩ := by decide +kernel
theorem pd53 : parseMethodDescriptor "(III)[C" = some ⟨[.int, .int, .int], some (.array .char)⟩ := by decide +kernel
theorem pd54 : parseMethodDescriptor "([C)V" = some ⟨[(.array .char)], none⟩ := by decide +kernel
theorem pd55 : parseMethodDescriptor "(Ljava/lang/String;Ljava/lang/String;Ljava/lang/String;)Ljava/lang/String;" = some ⟨[(.object "java/lang/String"), (.object "java/lang/String"), (.object "java/lang/String")], some (.object "java/lang/String")⟩ := by decide +kernel
theorem pd56 : parseMethodDescriptor "(IIII)I" = some ⟨[.int, .int, .int, .int], some .int⟩ := by decide +kernel
theorem pd57 : parseMethodDescriptor "(IIIII)I" = some ⟨[.int, .int, .int, .int, .int], some .int⟩ := by decide +kernel
theorem pd58 : parseMethodDescriptor "(Ljava/lang/String;I[CI)Z" = some ⟨[(.object "java/lang/String"), .int, (.array .char), .int], some .boolean⟩ := by decide +kernel
abbrev b20 := jdk_42_method_152_code
theorem d20_0 : Dc b20 0 (.getstatic 38) 3 3 := by decide +kernel
theorem d20_3 : Dc b20 3 (.ifCond .eq 10) 3 6 := by decide +kernel
theorem d20_6 : Dc b20 6 (.aload_n 0) 1 7 := by decide +kernel
theorem d20_7 : Dc b20 7 (.getfield 15) 3 10 := by decide +kernel
theorem d20_10 : Dc b20 10 (.goto 4) 3 13 := by decide +kernel
theorem d20_14 : Dc b20 14 (.ireturn) 1 15 := by decide +kernel
abbrev b35 := jdk_42_method_54_code
theorem d35_0 : Dc b35 0 (.aload_n 0) 1 1 := by decide +kernel
theorem d35_1 : Dc b35 1 (.getfield 9) 3 4 := by decide +kernel
theorem d35_4 : Dc b35 4 (.arraylength) 1 5 := by decide +kernel
theorem d35_5 : Dc b35 5 (.aload_n 0) 1 6 := by decide +kernel
theorem d35_6 : Dc b35 6 (.invokevirtual 335) 3 9 := by decide +kernel
theorem d35_9 : Dc b35 9 (.ishr) 1 10 := by decide +kernel
theorem d35_10 : Dc b35 10 (.ireturn) 1 11 := by decide +kernel
abbrev b37 := jdk_42_method_154_code
theorem d37_0 : Dc b37 0 (.getstatic 38) 3 3 := by decide +kernel
theorem d37_3 : Dc b37 3 (.ifCond .eq 14) 3 6 := by decide +kernel
theorem d37_6 : Dc b37 6 (.aload_n 0) 1 7 := by decide +kernel
theorem d37_7 : Dc b37 7 (.getfield 15) 3 10 := by decide +kernel
theorem d37_10 : Dc b37 10 (.ifCond .ne 7) 3 13 := by decide +kernel
theorem d37_13 : Dc b37 13 (.iconst 1) 1 14 := by decide +kernel
theorem d37_14 : Dc b37 14 (.goto 4) 3 17 := by decide +kernel
theorem d37_17 : Dc b37 17 (.iconst 0) 1 18 := by decide +kernel
theorem d37_18 : Dc b37 18 (.ireturn) 1 19 := by decide +kernel
abbrev b39 := jdk_41_method_11_code
theorem d39_0 : Dc b39 0 (.iload_n 0) 1 1 := by decide +kernel
theorem d39_1 : Dc b39 1 (.ifCond .lt 8) 3 4 := by decide +kernel
theorem d39_4 : Dc b39 4 (.iload_n 0) 1 5 := by decide +kernel
theorem d39_5 : Dc b39 5 (.iload_n 1) 1 6 := by decide +kernel
theorem d39_6 : Dc b39 6 (.if_icmp .lt 10) 3 9 := by decide +kernel
theorem d39_16 : Dc b39 16 (.iload_n 0) 1 17 := by decide +kernel
theorem d39_17 : Dc b39 17 (.ireturn) 1 18 := by decide +kernel
abbrev b38 := jdk_42_method_155_code
theorem d38_0 : Dc b38 0 (.iload_n 0) 1 1 := by decide +kernel
theorem d38_1 : Dc b38 1 (.iload_n 1) 1 2 := by decide +kernel
theorem d38_2 : Dc b38 2 (.getstatic 1053) 3 5 := by decide +kernel
theorem d38_5 : Dc b38 5 (.invokestatic 1059) 3 8 := by decide +kernel
theorem d38_8 : Dc b38 8 (.pop) 1 9 := by decide +kernel
theorem d38_9 : Dc b38 9 (.return_) 1 10 := by decide +kernel
abbrev b95 := jdk_43_method_2_code
theorem d95_0 : Dc b95 0 (.iload_n 1) 1 1 := by decide +kernel
theorem d95_1 : Dc b95 1 (.aload_n 0) 1 2 := by decide +kernel
theorem d95_2 : Dc b95 2 (.arraylength) 1 3 := by decide +kernel
theorem d95_3 : Dc b95 3 (.invokestatic 9) 3 6 := by decide +kernel
theorem d95_6 : Dc b95 6 (.aload_n 0) 1 7 := by decide +kernel
theorem d95_7 : Dc b95 7 (.iload_n 1) 1 8 := by decide +kernel
theorem d95_8 : Dc b95 8 (.baload) 1 9 := by decide +kernel
theorem d95_9 : Dc b95 9 (.sipush 255) 3 12 := by decide +kernel
theorem d95_12 : Dc b95 12 (.iand) 1 13 := by decide +kernel
theorem d95_13 : Dc b95 13 (.i2c) 1 14 := by decide +kernel
theorem d95_14 : Dc b95 14 (.ireturn) 1 15 := by decide +kernel
abbrev b14 := jdk_52_method_4_code
theorem d14_0 : Dc b14 0 (.getstatic 44) 3 3 := by decide +kernel
theorem d14_3 : Dc b14 3 (.ifCond .ne 25) 3 6 := by decide +kernel
theorem d14_28 : Dc b14 28 (.iload_n 1) 1 29 := by decide +kernel
theorem d14_29 : Dc b14 29 (.iconst 1) 1 30 := by decide +kernel
theorem d14_30 : Dc b14 30 (.ishl) 1 31 := by decide +kernel
theorem d14_31 : Dc b14 31 (.istore_n 1) 1 32 := by decide +kernel
theorem d14_32 : Dc b14 32 (.aload_n 0) 1 33 := by decide +kernel
theorem d14_33 : Dc b14 33 (.iload_n 1) 1 34 := by decide +kernel
theorem d14_34 : Dc b14 34 (.iinc 1 1) 3 37 := by decide +kernel
theorem d14_37 : Dc b14 37 (.iload_n 2) 1 38 := by decide +kernel
theorem d14_38 : Dc b14 38 (.getstatic 59) 3 41 := by decide +kernel
theorem d14_41 : Dc b14 41 (.ishr) 1 42 := by decide +kernel
theorem d14_42 : Dc b14 42 (.i2b) 1 43 := by decide +kernel
theorem d14_43 : Dc b14 43 (.bastore) 1 44 := by decide +kernel
theorem d14_44 : Dc b14 44 (.aload_n 0) 1 45 := by decide +kernel
theorem d14_45 : Dc b14 45 (.iload_n 1) 1 46 := by decide +kernel
theorem d14_46 : Dc b14 46 (.iload_n 2) 1 47 := by decide +kernel
theorem d14_47 : Dc b14 47 (.getstatic 63) 3 50 := by decide +kernel
theorem d14_50 : Dc b14 50 (.ishr) 1 51 := by decide +kernel
theorem d14_51 : Dc b14 51 (.i2b) 1 52 := by decide +kernel
theorem d14_52 : Dc b14 52 (.bastore) 1 53 := by decide +kernel
theorem d14_53 : Dc b14 53 (.return_) 1 54 := by decide +kernel
abbrev b15 := jdk_52_method_5_code
theorem d15_0 : Dc b15 0 (.getstatic 44) 3 3 := by decide +kernel
theorem d15_3 : Dc b15 3 (.ifCond .ne 25) 3 6 := by decide +kernel
theorem d15_28 : Dc b15 28 (.iload_n 1) 1 29 := by decide +kernel
theorem d15_29 : Dc b15 29 (.iconst 1) 1 30 := by decide +kernel
theorem d15_30 : Dc b15 30 (.ishl) 1 31 := by decide +kernel
theorem d15_31 : Dc b15 31 (.istore_n 1) 1 32 := by decide +kernel
theorem d15_32 : Dc b15 32 (.aload_n 0) 1 33 := by decide +kernel
theorem d15_33 : Dc b15 33 (.iload_n 1) 1 34 := by decide +kernel
theorem d15_34 : Dc b15 34 (.iinc 1 1) 3 37 := by decide +kernel
theorem d15_37 : Dc b15 37 (.baload) 1 38 := by decide +kernel
theorem d15_38 : Dc b15 38 (.sipush 255) 3 41 := by decide +kernel
theorem d15_41 : Dc b15 41 (.iand) 1 42 := by decide +kernel
theorem d15_42 : Dc b15 42 (.getstatic 59) 3 45 := by decide +kernel
theorem d15_45 : Dc b15 45 (.ishl) 1 46 := by decide +kernel
theorem d15_46 : Dc b15 46 (.aload_n 0) 1 47 := by decide +kernel
theorem d15_47 : Dc b15 47 (.iload_n 1) 1 48 := by decide +kernel
theorem d15_48 : Dc b15 48 (.baload) 1 49 := by decide +kernel
theorem d15_49 : Dc b15 49 (.sipush 255) 3 52 := by decide +kernel
theorem d15_52 : Dc b15 52 (.iand) 1 53 := by decide +kernel
theorem d15_53 : Dc b15 53 (.getstatic 63) 3 56 := by decide +kernel
theorem d15_56 : Dc b15 56 (.ishl) 1 57 := by decide +kernel
theorem d15_57 : Dc b15 57 (.ior) 1 58 := by decide +kernel
theorem d15_58 : Dc b15 58 (.i2c) 1 59 := by decide +kernel
theorem d15_59 : Dc b15 59 (.ireturn) 1 60 := by decide +kernel
abbrev b13 := jdk_52_method_3_code
theorem d13_0 : Dc b13 0 (.iload_n 0) 1 1 := by decide +kernel
theorem d13_1 : Dc b13 1 (.ifCond .ge 11) 3 4 := by decide +kernel
theorem d13_12 : Dc b13 12 (.iload_n 0) 1 13 := by decide +kernel
theorem d13_13 : Dc b13 13 (.ldc 20) 2 15 := by decide +kernel
theorem d13_15 : Dc b13 15 (.if_icmp .lt 40) 3 18 := by decide +kernel
theorem d13_55 : Dc b13 55 (.iload_n 0) 1 56 := by decide +kernel
theorem d13_56 : Dc b13 56 (.iconst 1) 1 57 := by decide +kernel
theorem d13_57 : Dc b13 57 (.ishl) 1 58 := by decide +kernel
theorem d13_58 : Dc b13 58 (.ireturn) 1 59 := by decide +kernel
abbrev b12 := jdk_52_method_2_code
theorem d12_0 : Dc b12 0 (.iload_n 0) 1 1 := by decide +kernel
theorem d12_1 : Dc b12 1 (.invokestatic 11) 3 4 := by decide +kernel
theorem d12_4 : Dc b12 4 (.newarray .byte) 2 6 := by decide +kernel
theorem d12_6 : Dc b12 6 (.areturn) 1 7 := by decide +kernel
abbrev b10 := jdk_52_method_21_code
theorem d10_0 : Dc b10 0 (.iconst 0) 1 1 := by decide +kernel
theorem d10_1 : Dc b10 1 (.istore 5) 2 3 := by decide +kernel
theorem d10_3 : Dc b10 3 (.iload 5) 2 5 := by decide +kernel
theorem d10_5 : Dc b10 5 (.iload 4) 2 7 := by decide +kernel
theorem d10_7 : Dc b10 7 (.if_icmp .ge 37) 3 10 := by decide +kernel
theorem d10_10 : Dc b10 10 (.aload_n 0) 1 11 := by decide +kernel
theorem d10_11 : Dc b10 11 (.iload_n 1) 1 12 := by decide +kernel
theorem d10_12 : Dc b10 12 (.caload) 1 13 := by decide +kernel
theorem d10_13 : Dc b10 13 (.istore 6) 2 15 := by decide +kernel
theorem d10_15 : Dc b10 15 (.iload 6) 2 17 := by decide +kernel
theorem d10_17 : Dc b10 17 (.sipush 255) 3 20 := by decide +kernel
theorem d10_20 : Dc b10 20 (.if_icmp .le 6) 3 23 := by decide +kernel
theorem d10_23 : Dc b10 23 (.iload 5) 2 25 := by decide +kernel
theorem d10_25 : Dc b10 25 (.ireturn) 1 26 := by decide +kernel
theorem d10_26 : Dc b10 26 (.aload_n 2) 1 27 := by decide +kernel
theorem d10_27 : Dc b10 27 (.iload_n 3) 1 28 := by decide +kernel
theorem d10_28 : Dc b10 28 (.iload 6) 2 30 := by decide +kernel
theorem d10_30 : Dc b10 30 (.i2b) 1 31 := by decide +kernel
theorem d10_31 : Dc b10 31 (.bastore) 1 32 := by decide +kernel
theorem d10_32 : Dc b10 32 (.iinc 1 1) 3 35 := by decide +kernel
theorem d10_35 : Dc b10 35 (.iinc 3 1) 3 38 := by decide +kernel
theorem d10_38 : Dc b10 38 (.iinc 5 1) 3 41 := by decide +kernel
theorem d10_41 : Dc b10 41 (.goto (-38)) 3 44 := by decide +kernel
theorem d10_44 : Dc b10 44 (.iload 4) 2 46 := by decide +kernel
theorem d10_46 : Dc b10 46 (.ireturn) 1 47 := by decide +kernel
abbrev b11 := jdk_52_method_14_code
theorem d11_0 : Dc b11 0 (.iload_n 2) 1 1 := by decide +kernel
theorem d11_1 : Dc b11 1 (.invokestatic 107) 3 4 := by decide +kernel
theorem d11_4 : Dc b11 4 (.astore_n 3) 1 5 := by decide +kernel
theorem d11_5 : Dc b11 5 (.iconst 0) 1 6 := by decide +kernel
theorem d11_6 : Dc b11 6 (.istore 4) 2 8 := by decide +kernel
theorem d11_8 : Dc b11 8 (.iload 4) 2 10 := by decide +kernel
theorem d11_10 : Dc b11 10 (.iload_n 2) 1 11 := by decide +kernel
theorem d11_11 : Dc b11 11 (.if_icmp .ge 21) 3 14 := by decide +kernel
theorem d11_14 : Dc b11 14 (.aload_n 3) 1 15 := by decide +kernel
theorem d11_15 : Dc b11 15 (.iload 4) 2 17 := by decide +kernel
theorem d11_17 : Dc b11 17 (.aload_n 0) 1 18 := by decide +kernel
theorem d11_18 : Dc b11 18 (.iload_n 1) 1 19 := by decide +kernel
theorem d11_19 : Dc b11 19 (.caload) 1 20 := by decide +kernel
theorem d11_20 : Dc b11 20 (.invokestatic 111) 3 23 := by decide +kernel
theorem d11_23 : Dc b11 23 (.iinc 1 1) 3 26 := by decide +kernel
theorem d11_26 : Dc b11 26 (.iinc 4 1) 3 29 := by decide +kernel
theorem d11_29 : Dc b11 29 (.goto (-21)) 3 32 := by decide +kernel
theorem d11_32 : Dc b11 32 (.aload_n 3) 1 33 := by decide +kernel
theorem d11_33 : Dc b11 33 (.areturn) 1 34 := by decide +kernel
abbrev b9 := jdk_52_method_16_code
theorem d9_0 : Dc b9 0 (.iload_n 2) 1 1 := by decide +kernel
theorem d9_1 : Dc b9 1 (.newarray .byte) 2 3 := by decide +kernel
theorem d9_3 : Dc b9 3 (.astore_n 3) 1 4 := by decide +kernel
theorem d9_4 : Dc b9 4 (.aload_n 0) 1 5 := by decide +kernel
theorem d9_5 : Dc b9 5 (.iload_n 1) 1 6 := by decide +kernel
theorem d9_6 : Dc b9 6 (.aload_n 3) 1 7 := by decide +kernel
theorem d9_7 : Dc b9 7 (.iconst 0) 1 8 := by decide +kernel
theorem d9_8 : Dc b9 8 (.iload_n 2) 1 9 := by decide +kernel
theorem d9_9 : Dc b9 9 (.invokestatic 115) 3 12 := by decide +kernel
theorem d9_12 : Dc b9 12 (.istore 4) 2 14 := by decide +kernel
theorem d9_14 : Dc b9 14 (.iload 4) 2 16 := by decide +kernel
theorem d9_16 : Dc b9 16 (.iload_n 2) 1 17 := by decide +kernel
theorem d9_17 : Dc b9 17 (.if_icmp .eq 40) 3 20 := by decide +kernel
theorem d9_20 : Dc b9 20 (.aload_n 0) 1 21 := by decide +kernel
theorem d9_21 : Dc b9 21 (.iload_n 1) 1 22 := by decide +kernel
theorem d9_22 : Dc b9 22 (.iload_n 2) 1 23 := by decide +kernel
theorem d9_23 : Dc b9 23 (.invokestatic 119) 3 26 := by decide +kernel
theorem d9_26 : Dc b9 26 (.astore 5) 2 28 := by decide +kernel
theorem d9_28 : Dc b9 28 (.aload 5) 2 30 := by decide +kernel
theorem d9_30 : Dc b9 30 (.iload 4) 2 32 := by decide +kernel
theorem d9_32 : Dc b9 32 (.invokestatic 71) 3 35 := by decide +kernel
theorem d9_35 : Dc b9 35 (.sipush 255) 3 38 := by decide +kernel
theorem d9_38 : Dc b9 38 (.if_icmp .gt 16) 3 41 := by decide +kernel
theorem d9_54 : Dc b9 54 (.aload 5) 2 56 := by decide +kernel
theorem d9_56 : Dc b9 56 (.areturn) 1 57 := by decide +kernel
theorem d9_57 : Dc b9 57 (.aload_n 3) 1 58 := by decide +kernel
theorem d9_58 : Dc b9 58 (.areturn) 1 59 := by decide +kernel
abbrev b16 := jdk_52_method_15_code
theorem d16_0 : Dc b16 0 (.iload_n 1) 1 1 := by decide +kernel
theorem d16_1 : Dc b16 1 (.aload_n 0) 1 2 := by decide +kernel
theorem d16_2 : Dc b16 2 (.arraylength) 1 3 := by decide +kernel
theorem d16_3 : Dc b16 3 (.isub) 1 4 := by decide +kernel
theorem d16_4 : Dc b16 4 (.bipush 31) 2 6 := by decide +kernel
theorem d16_6 : Dc b16 6 (.iushr) 1 7 := by decide +kernel
theorem d16_7 : Dc b16 7 (.i2b) 1 8 := by decide +kernel
theorem d16_8 : Dc b16 8 (.ireturn) 1 9 := by decide +kernel
abbrev b7 := jdk_42_method_149_code
theorem d7_0 : Dc b7 0 (.aload_n 0) 1 1 := by decide +kernel
theorem d7_1 : Dc b7 1 (.invokespecial 1) 3 4 := by decide +kernel
theorem d7_4 : Dc b7 4 (.iload_n 3) 1 5 := by decide +kernel
theorem d7_5 : Dc b7 5 (.ifCond .ne 22) 3 8 := by decide +kernel
theorem d7_27 : Dc b7 27 (.getstatic 38) 3 30 := by decide +kernel
theorem d7_30 : Dc b7 30 (.ifCond .eq 28) 3 33 := by decide +kernel
theorem d7_33 : Dc b7 33 (.aload_n 1) 1 34 := by decide +kernel
theorem d7_34 : Dc b7 34 (.iload_n 2) 1 35 := by decide +kernel
theorem d7_35 : Dc b7 35 (.iload_n 3) 1 36 := by decide +kernel
theorem d7_36 : Dc b7 36 (.invokestatic 177) 3 39 := by decide +kernel
theorem d7_39 : Dc b7 39 (.astore 5) 2 41 := by decide +kernel
theorem d7_41 : Dc b7 41 (.aload_n 0) 1 42 := by decide +kernel
theorem d7_42 : Dc b7 42 (.aload 5) 2 44 := by decide +kernel
theorem d7_44 : Dc b7 44 (.iload_n 3) 1 45 := by decide +kernel
theorem d7_45 : Dc b7 45 (.invokestatic 47) 3 48 := by decide +kernel
theorem d7_48 : Dc b7 48 (.putfield 15) 3 51 := by decide +kernel
theorem d7_51 : Dc b7 51 (.aload_n 0) 1 52 := by decide +kernel
theorem d7_52 : Dc b7 52 (.aload 5) 2 54 := by decide +kernel
theorem d7_54 : Dc b7 54 (.putfield 9) 3 57 := by decide +kernel
theorem d7_57 : Dc b7 57 (.return_) 1 58 := by decide +kernel
abbrev b6 := jdk_42_method_3_code
theorem d6_0 : Dc b6 0 (.aload_n 0) 1 1 := by decide +kernel
theorem d6_1 : Dc b6 1 (.aload_n 1) 1 2 := by decide +kernel
theorem d6_2 : Dc b6 2 (.iconst 0) 1 3 := by decide +kernel
theorem d6_3 : Dc b6 3 (.aload_n 1) 1 4 := by decide +kernel
theorem d6_4 : Dc b6 4 (.arraylength) 1 5 := by decide +kernel
theorem d6_5 : Dc b6 5 (.aconst_null) 1 6 := by decide +kernel
theorem d6_6 : Dc b6 6 (.invokespecial 27) 3 9 := by decide +kernel
theorem d6_9 : Dc b6 9 (.return_) 1 10 := by decide +kernel
abbrev b59 := jdk_52_method_6_code
theorem d59_0 : Dc b59 0 (.aload_n 0) 1 1 := by decide +kernel
theorem d59_1 : Dc b59 1 (.arraylength) 1 2 := by decide +kernel
theorem d59_2 : Dc b59 2 (.iconst 1) 1 3 := by decide +kernel
theorem d59_3 : Dc b59 3 (.ishr) 1 4 := by decide +kernel
theorem d59_4 : Dc b59 4 (.ireturn) 1 5 := by decide +kernel
abbrev b93 := jdk_52_method_91_code
theorem d93_0 : Dc b93 0 (.iload_n 0) 1 1 := by decide +kernel
theorem d93_1 : Dc b93 1 (.aload_n 1) 1 2 := by decide +kernel
theorem d93_2 : Dc b93 2 (.invokestatic 48) 3 5 := by decide +kernel
theorem d93_5 : Dc b93 5 (.invokestatic 414) 3 8 := by decide +kernel
theorem d93_8 : Dc b93 8 (.return_) 1 9 := by decide +kernel
abbrev b92 := jdk_52_method_83_code
theorem d92_0 : Dc b92 0 (.iload_n 1) 1 1 := by decide +kernel
theorem d92_1 : Dc b92 1 (.aload_n 0) 1 2 := by decide +kernel
theorem d92_2 : Dc b92 2 (.invokestatic 67) 3 5 := by decide +kernel
theorem d92_5 : Dc b92 5 (.aload_n 0) 1 6 := by decide +kernel
theorem d92_6 : Dc b92 6 (.iload_n 1) 1 7 := by decide +kernel
theorem d92_7 : Dc b92 7 (.invokestatic 71) 3 10 := by decide +kernel
theorem d92_10 : Dc b92 10 (.ireturn) 1 11 := by decide +kernel
abbrev b91 := jdk_42_method_56_code
theorem d91_0 : Dc b91 0 (.aload_n 0) 1 1 := by decide +kernel
theorem d91_1 : Dc b91 1 (.invokevirtual 492) 3 4 := by decide +kernel
theorem d91_4 : Dc b91 4 (.ifCond .eq 12) 3 7 := by decide +kernel
theorem d91_7 : Dc b91 7 (.aload_n 0) 1 8 := by decide +kernel
theorem d91_8 : Dc b91 8 (.getfield 9) 3 11 := by decide +kernel
theorem d91_11 : Dc b91 11 (.iload_n 1) 1 12 := by decide +kernel
theorem d91_12 : Dc b91 12 (.invokestatic 495) 3 15 := by decide +kernel
theorem d91_15 : Dc b91 15 (.ireturn) 1 16 := by decide +kernel
theorem d91_16 : Dc b91 16 (.aload_n 0) 1 17 := by decide +kernel
theorem d91_17 : Dc b91 17 (.getfield 9) 3 20 := by decide +kernel
theorem d91_20 : Dc b91 20 (.iload_n 1) 1 21 := by decide +kernel
theorem d91_21 : Dc b91 21 (.invokestatic 498) 3 24 := by decide +kernel
theorem d91_24 : Dc b91 24 (.ireturn) 1 25 := by decide +kernel
abbrev b71 := jdk_68_method_68_code
theorem d71_0 : Dc b71 0 (.getstatic 18) 3 3 := by decide +kernel
theorem d71_3 : Dc b71 3 (.ifCond .eq 14) 3 6 := by decide +kernel
theorem d71_6 : Dc b71 6 (.aload_n 0) 1 7 := by decide +kernel
theorem d71_7 : Dc b71 7 (.getfield 22) 3 10 := by decide +kernel
theorem d71_10 : Dc b71 10 (.ifCond .ne 7) 3 13 := by decide +kernel
theorem d71_13 : Dc b71 13 (.iconst 1) 1 14 := by decide +kernel
theorem d71_14 : Dc b71 14 (.goto 4) 3 17 := by decide +kernel
theorem d71_17 : Dc b71 17 (.iconst 0) 1 18 := by decide +kernel
theorem d71_18 : Dc b71 18 (.ireturn) 1 19 := by decide +kernel
abbrev b83 := jdk_68_method_64_code
theorem d83_0 : Dc b83 0 (.aload_n 0) 1 1 := by decide +kernel
theorem d83_1 : Dc b83 1 (.getfield 15) 3 4 := by decide +kernel
theorem d83_4 : Dc b83 4 (.areturn) 1 5 := by decide +kernel
abbrev b85 := jdk_68_method_6_code
theorem d85_0 : Dc b85 0 (.aload_n 0) 1 1 := by decide +kernel
theorem d85_1 : Dc b85 1 (.getfield 79) 3 4 := by decide +kernel
theorem d85_4 : Dc b85 4 (.ireturn) 1 5 := by decide +kernel
abbrev b84 := jdk_67_method_93_code
theorem d84_0 : Dc b84 0 (.aload_n 0) 1 1 := by decide +kernel
theorem d84_1 : Dc b84 1 (.invokespecial 343) 3 4 := by decide +kernel
theorem d84_4 : Dc b84 4 (.ireturn) 1 5 := by decide +kernel
abbrev b79 := jdk_29_method_65_code
theorem d79_0 : Dc b79 0 (.iload_n 0) 1 1 := by decide +kernel
theorem d79_1 : Dc b79 1 (.iload_n 1) 1 2 := by decide +kernel
theorem d79_2 : Dc b79 2 (.if_icmp .lt 7) 3 5 := by decide +kernel
theorem d79_5 : Dc b79 5 (.iload_n 0) 1 6 := by decide +kernel
theorem d79_6 : Dc b79 6 (.goto 4) 3 9 := by decide +kernel
theorem d79_9 : Dc b79 9 (.iload_n 1) 1 10 := by decide +kernel
theorem d79_10 : Dc b79 10 (.ireturn) 1 11 := by decide +kernel
abbrev b29 := jdk_29_method_69_code
theorem d29_0 : Dc b29 0 (.iload_n 0) 1 1 := by decide +kernel
theorem d29_1 : Dc b29 1 (.iload_n 1) 1 2 := by decide +kernel
theorem d29_2 : Dc b29 2 (.if_icmp .gt 7) 3 5 := by decide +kernel
theorem d29_5 : Dc b29 5 (.iload_n 0) 1 6 := by decide +kernel
theorem d29_6 : Dc b29 6 (.goto 4) 3 9 := by decide +kernel
theorem d29_9 : Dc b29 9 (.iload_n 1) 1 10 := by decide +kernel
theorem d29_10 : Dc b29 10 (.ireturn) 1 11 := by decide +kernel
abbrev b78 := jdk_48_method_27_code
theorem d78_0 : Dc b78 0 (.iload_n 0) 1 1 := by decide +kernel
theorem d78_1 : Dc b78 1 (.iload_n 1) 1 2 := by decide +kernel
theorem d78_2 : Dc b78 2 (.iload_n 2) 1 3 := by decide +kernel
theorem d78_3 : Dc b78 3 (.invokestatic 194) 3 6 := by decide +kernel
theorem d78_6 : Dc b78 6 (.iadd) 1 7 := by decide +kernel
theorem d78_7 : Dc b78 7 (.istore_n 3) 1 8 := by decide +kernel
theorem d78_8 : Dc b78 8 (.iconst 0) 1 9 := by decide +kernel
theorem d78_9 : Dc b78 9 (.iload_n 3) 1 10 := by decide +kernel
theorem d78_10 : Dc b78 10 (.if_icmp .ge 11) 3 13 := by decide +kernel
theorem d78_13 : Dc b78 13 (.iload_n 3) 1 14 := by decide +kernel
theorem d78_14 : Dc b78 14 (.ldc 200) 2 16 := by decide +kernel
theorem d78_16 : Dc b78 16 (.if_icmp .gt 5) 3 19 := by decide +kernel
theorem d78_19 : Dc b78 19 (.iload_n 3) 1 20 := by decide +kernel
theorem d78_20 : Dc b78 20 (.ireturn) 1 21 := by decide +kernel
abbrev b77 := jdk_68_method_10_code
theorem d77_0 : Dc b77 0 (.aload_n 0) 1 1 := by decide +kernel
theorem d77_1 : Dc b77 1 (.getfield 15) 3 4 := by decide +kernel
theorem d77_4 : Dc b77 4 (.arraylength) 1 5 := by decide +kernel
theorem d77_5 : Dc b77 5 (.istore_n 2) 1 6 := by decide +kernel
theorem d77_6 : Dc b77 6 (.iload_n 1) 1 7 := by decide +kernel
theorem d77_7 : Dc b77 7 (.aload_n 0) 1 8 := by decide +kernel
theorem d77_8 : Dc b77 8 (.getfield 22) 3 11 := by decide +kernel
theorem d77_11 : Dc b77 11 (.ishl) 1 12 := by decide +kernel
theorem d77_12 : Dc b77 12 (.istore_n 3) 1 13 := by decide +kernel
theorem d77_13 : Dc b77 13 (.iload_n 3) 1 14 := by decide +kernel
theorem d77_14 : Dc b77 14 (.iload_n 2) 1 15 := by decide +kernel
theorem d77_15 : Dc b77 15 (.isub) 1 16 := by decide +kernel
theorem d77_16 : Dc b77 16 (.istore 4) 2 18 := by decide +kernel
theorem d77_18 : Dc b77 18 (.iload_n 2) 1 19 := by decide +kernel
theorem d77_19 : Dc b77 19 (.iload 4) 2 21 := by decide +kernel
theorem d77_21 : Dc b77 21 (.iload_n 2) 1 22 := by decide +kernel
theorem d77_22 : Dc b77 22 (.iconst 2) 1 23 := by decide +kernel
theorem d77_23 : Dc b77 23 (.aload_n 0) 1 24 := by decide +kernel
theorem d77_24 : Dc b77 24 (.getfield 22) 3 27 := by decide +kernel
theorem d77_27 : Dc b77 27 (.ishl) 1 28 := by decide +kernel
theorem d77_28 : Dc b77 28 (.iadd) 1 29 := by decide +kernel
theorem d77_29 : Dc b77 29 (.invokestatic 114) 3 32 := by decide +kernel
theorem d77_32 : Dc b77 32 (.istore 5) 2 34 := by decide +kernel
theorem d77_34 : Dc b77 34 (.iload 5) 2 36 := by decide +kernel
theorem d77_36 : Dc b77 36 (.ldc 39) 2 38 := by decide +kernel
theorem d77_38 : Dc b77 38 (.if_icmp .ne 13) 3 41 := by decide +kernel
theorem d77_51 : Dc b77 51 (.iload 5) 2 53 := by decide +kernel
theorem d77_53 : Dc b77 53 (.aload_n 0) 1 54 := by decide +kernel
theorem d77_54 : Dc b77 54 (.getfield 22) 3 57 := by decide +kernel
theorem d77_57 : Dc b77 57 (.ishr) 1 58 := by decide +kernel
theorem d77_58 : Dc b77 58 (.ireturn) 1 59 := by decide +kernel
abbrev b28 := jdk_65_method_121_code
theorem d28_0 : Dc b28 0 (.iload_n 1) 1 1 := by decide +kernel
theorem d28_1 : Dc b28 1 (.aload_n 0) 1 2 := by decide +kernel
theorem d28_2 : Dc b28 2 (.arraylength) 1 3 := by decide +kernel
theorem d28_3 : Dc b28 3 (.if_icmp .ne 11) 3 6 := by decide +kernel
theorem d28_14 : Dc b28 14 (.iload_n 1) 1 15 := by decide +kernel
theorem d28_15 : Dc b28 15 (.newarray .byte) 2 17 := by decide +kernel
theorem d28_17 : Dc b28 17 (.astore_n 2) 1 18 := by decide +kernel
theorem d28_18 : Dc b28 18 (.aload_n 0) 1 19 := by decide +kernel
theorem d28_19 : Dc b28 19 (.iconst 0) 1 20 := by decide +kernel
theorem d28_20 : Dc b28 20 (.aload_n 2) 1 21 := by decide +kernel
theorem d28_21 : Dc b28 21 (.iconst 0) 1 22 := by decide +kernel
theorem d28_22 : Dc b28 22 (.aload_n 0) 1 23 := by decide +kernel
theorem d28_23 : Dc b28 23 (.arraylength) 1 24 := by decide +kernel
theorem d28_24 : Dc b28 24 (.iload_n 1) 1 25 := by decide +kernel
theorem d28_25 : Dc b28 25 (.invokestatic 304) 3 28 := by decide +kernel
theorem d28_28 : Dc b28 28 (.invokestatic 150) 3 31 := by decide +kernel
theorem d28_31 : Dc b28 31 (.aload_n 2) 1 32 := by decide +kernel
theorem d28_32 : Dc b28 32 (.areturn) 1 33 := by decide +kernel
abbrev b67 := jdk_68_method_9_code
theorem d67_0 : Dc b67 0 (.aload_n 0) 1 1 := by decide +kernel
theorem d67_1 : Dc b67 1 (.getfield 15) 3 4 := by decide +kernel
theorem d67_4 : Dc b67 4 (.arraylength) 1 5 := by decide +kernel
theorem d67_5 : Dc b67 5 (.aload_n 0) 1 6 := by decide +kernel
theorem d67_6 : Dc b67 6 (.getfield 22) 3 9 := by decide +kernel
theorem d67_9 : Dc b67 9 (.ishr) 1 10 := by decide +kernel
theorem d67_10 : Dc b67 10 (.istore_n 2) 1 11 := by decide +kernel
theorem d67_11 : Dc b67 11 (.iload_n 1) 1 12 := by decide +kernel
theorem d67_12 : Dc b67 12 (.iload_n 2) 1 13 := by decide +kernel
theorem d67_13 : Dc b67 13 (.isub) 1 14 := by decide +kernel
theorem d67_14 : Dc b67 14 (.ifCond .le 24) 3 17 := by decide +kernel
theorem d67_17 : Dc b67 17 (.aload_n 0) 1 18 := by decide +kernel
theorem d67_18 : Dc b67 18 (.aload_n 0) 1 19 := by decide +kernel
theorem d67_19 : Dc b67 19 (.getfield 15) 3 22 := by decide +kernel
theorem d67_22 : Dc b67 22 (.aload_n 0) 1 23 := by decide +kernel
theorem d67_23 : Dc b67 23 (.iload_n 1) 1 24 := by decide +kernel
theorem d67_24 : Dc b67 24 (.invokevirtual 104) 3 27 := by decide +kernel
theorem d67_27 : Dc b67 27 (.aload_n 0) 1 28 := by decide +kernel
theorem d67_28 : Dc b67 28 (.getfield 22) 3 31 := by decide +kernel
theorem d67_31 : Dc b67 31 (.ishl) 1 32 := by decide +kernel
theorem d67_32 : Dc b67 32 (.invokestatic 108) 3 35 := by decide +kernel
theorem d67_35 : Dc b67 35 (.putfield 15) 3 38 := by decide +kernel
theorem d67_38 : Dc b67 38 (.return_) 1 39 := by decide +kernel
abbrev b61 := jdk_41_method_13_code
theorem d61_0 : Dc b61 0 (.iload_n 2) 1 1 := by decide +kernel
theorem d61_1 : Dc b61 1 (.iload_n 0) 1 2 := by decide +kernel
theorem d61_2 : Dc b61 2 (.ior) 1 3 := by decide +kernel
theorem d61_3 : Dc b61 3 (.iload_n 1) 1 4 := by decide +kernel
theorem d61_4 : Dc b61 4 (.ior) 1 5 := by decide +kernel
theorem d61_5 : Dc b61 5 (.ifCond .lt 10) 3 8 := by decide +kernel
theorem d61_8 : Dc b61 8 (.iload_n 1) 1 9 := by decide +kernel
theorem d61_9 : Dc b61 9 (.iload_n 2) 1 10 := by decide +kernel
theorem d61_10 : Dc b61 10 (.iload_n 0) 1 11 := by decide +kernel
theorem d61_11 : Dc b61 11 (.isub) 1 12 := by decide +kernel
theorem d61_12 : Dc b61 12 (.if_icmp .le 11) 3 15 := by decide +kernel
theorem d61_23 : Dc b61 23 (.iload_n 0) 1 24 := by decide +kernel
theorem d61_24 : Dc b61 24 (.ireturn) 1 25 := by decide +kernel
abbrev b60 := jdk_42_method_157_code
theorem d60_0 : Dc b60 0 (.iload_n 0) 1 1 := by decide +kernel
theorem d60_1 : Dc b60 1 (.iload_n 1) 1 2 := by decide +kernel
theorem d60_2 : Dc b60 2 (.iload_n 2) 1 3 := by decide +kernel
theorem d60_3 : Dc b60 3 (.getstatic 1053) 3 6 := by decide +kernel
theorem d60_6 : Dc b60 6 (.invokestatic 1065) 3 9 := by decide +kernel
theorem d60_9 : Dc b60 9 (.ireturn) 1 10 := by decide +kernel
abbrev b58 := jdk_52_method_94_code
theorem d58_0 : Dc b58 0 (.iload_n 0) 1 1 := by decide +kernel
theorem d58_1 : Dc b58 1 (.iload_n 1) 1 2 := by decide +kernel
theorem d58_2 : Dc b58 2 (.aload_n 2) 1 3 := by decide +kernel
theorem d58_3 : Dc b58 3 (.invokestatic 48) 3 6 := by decide +kernel
theorem d58_6 : Dc b58 6 (.invokestatic 419) 3 9 := by decide +kernel
theorem d58_9 : Dc b58 9 (.pop) 1 10 := by decide +kernel
theorem d58_10 : Dc b58 10 (.return_) 1 11 := by decide +kernel
abbrev b73 := jdk_52_method_86_code
theorem d73_0 : Dc b73 0 (.iload_n 3) 1 1 := by decide +kernel
theorem d73_1 : Dc b73 1 (.iload 4) 2 3 := by decide +kernel
theorem d73_3 : Dc b73 3 (.aload_n 2) 1 4 := by decide +kernel
theorem d73_4 : Dc b73 4 (.invokestatic 173) 3 7 := by decide +kernel
theorem d73_7 : Dc b73 7 (.iconst 0) 1 8 := by decide +kernel
theorem d73_8 : Dc b73 8 (.istore 5) 2 10 := by decide +kernel
theorem d73_10 : Dc b73 10 (.iload 5) 2 12 := by decide +kernel
theorem d73_12 : Dc b73 12 (.iload 4) 2 14 := by decide +kernel
theorem d73_14 : Dc b73 14 (.if_icmp .ge 27) 3 17 := by decide +kernel
theorem d73_17 : Dc b73 17 (.aload_n 2) 1 18 := by decide +kernel
theorem d73_18 : Dc b73 18 (.iload_n 3) 1 19 := by decide +kernel
theorem d73_19 : Dc b73 19 (.iinc 3 1) 3 22 := by decide +kernel
theorem d73_22 : Dc b73 22 (.aload_n 0) 1 23 := by decide +kernel
theorem d73_23 : Dc b73 23 (.iload_n 1) 1 24 := by decide +kernel
theorem d73_24 : Dc b73 24 (.iinc 1 1) 3 27 := by decide +kernel
theorem d73_27 : Dc b73 27 (.baload) 1 28 := by decide +kernel
theorem d73_28 : Dc b73 28 (.sipush 255) 3 31 := by decide +kernel
theorem d73_31 : Dc b73 31 (.iand) 1 32 := by decide +kernel
theorem d73_32 : Dc b73 32 (.invokestatic 111) 3 35 := by decide +kernel
theorem d73_35 : Dc b73 35 (.iinc 5 1) 3 38 := by decide +kernel
theorem d73_38 : Dc b73 38 (.goto (-28)) 3 41 := by decide +kernel
theorem d73_41 : Dc b73 41 (.return_) 1 42 := by decide +kernel
abbrev b72 := jdk_43_method_50_code
theorem d72_0 : Dc b72 0 (.aload_n 0) 1 1 := by decide +kernel
theorem d72_1 : Dc b72 1 (.iload_n 1) 1 2 := by decide +kernel
theorem d72_2 : Dc b72 2 (.aload_n 2) 1 3 := by decide +kernel
theorem d72_3 : Dc b72 3 (.iload_n 3) 1 4 := by decide +kernel
theorem d72_4 : Dc b72 4 (.iload 4) 2 6 := by decide +kernel
theorem d72_6 : Dc b72 6 (.invokestatic 240) 3 9 := by decide +kernel
theorem d72_9 : Dc b72 9 (.return_) 1 10 := by decide +kernel
abbrev b70 := jdk_68_method_11_code
theorem d70_0 : Dc b70 0 (.aload_n 0) 1 1 := by decide +kernel
theorem d70_1 : Dc b70 1 (.invokevirtual 83) 3 4 := by decide +kernel
theorem d70_4 : Dc b70 4 (.ifCond .ne 4) 3 7 := by decide +kernel
theorem d70_7 : Dc b70 7 (.return_) 1 8 := by decide +kernel
theorem d70_8 : Dc b70 8 (.aload_n 0) 1 9 := by decide +kernel
theorem d70_9 : Dc b70 9 (.getfield 15) 3 12 := by decide +kernel
theorem d70_12 : Dc b70 12 (.arraylength) 1 13 := by decide +kernel
theorem d70_13 : Dc b70 13 (.invokestatic 26) 3 16 := by decide +kernel
theorem d70_16 : Dc b70 16 (.astore_n 1) 1 17 := by decide +kernel
theorem d70_17 : Dc b70 17 (.aload_n 0) 1 18 := by decide +kernel
theorem d70_18 : Dc b70 18 (.getfield 15) 3 21 := by decide +kernel
theorem d70_21 : Dc b70 21 (.iconst 0) 1 22 := by decide +kernel
theorem d70_22 : Dc b70 22 (.aload_n 1) 1 23 := by decide +kernel
theorem d70_23 : Dc b70 23 (.iconst 0) 1 24 := by decide +kernel
theorem d70_24 : Dc b70 24 (.aload_n 0) 1 25 := by decide +kernel
theorem d70_25 : Dc b70 25 (.getfield 79) 3 28 := by decide +kernel
theorem d70_28 : Dc b70 28 (.invokestatic 125) 3 31 := by decide +kernel
theorem d70_31 : Dc b70 31 (.aload_n 0) 1 32 := by decide +kernel
theorem d70_32 : Dc b70 32 (.aload_n 1) 1 33 := by decide +kernel
theorem d70_33 : Dc b70 33 (.putfield 15) 3 36 := by decide +kernel
theorem d70_36 : Dc b70 36 (.aload_n 0) 1 37 := by decide +kernel
theorem d70_37 : Dc b70 37 (.iconst 1) 1 38 := by decide +kernel
theorem d70_38 : Dc b70 38 (.putfield 22) 3 41 := by decide +kernel
theorem d70_41 : Dc b70 41 (.return_) 1 42 := by decide +kernel
abbrev b33 := jdk_68_method_2_code
theorem d33_0 : Dc b33 0 (.aload_n 0) 1 1 := by decide +kernel
theorem d33_1 : Dc b33 1 (.invokespecial 3) 3 4 := by decide +kernel
theorem d33_4 : Dc b33 4 (.getstatic 18) 3 7 := by decide +kernel
theorem d33_7 : Dc b33 7 (.ifCond .eq 18) 3 10 := by decide +kernel
theorem d33_10 : Dc b33 10 (.aload_n 0) 1 11 := by decide +kernel
theorem d33_11 : Dc b33 11 (.iload_n 1) 1 12 := by decide +kernel
theorem d33_12 : Dc b33 12 (.newarray .byte) 2 14 := by decide +kernel
theorem d33_14 : Dc b33 14 (.putfield 15) 3 17 := by decide +kernel
theorem d33_17 : Dc b33 17 (.aload_n 0) 1 18 := by decide +kernel
theorem d33_18 : Dc b33 18 (.iconst 0) 1 19 := by decide +kernel
theorem d33_19 : Dc b33 19 (.putfield 22) 3 22 := by decide +kernel
theorem d33_22 : Dc b33 22 (.goto 16) 3 25 := by decide +kernel
theorem d33_38 : Dc b33 38 (.return_) 1 39 := by decide +kernel
abbrev b74 := jdk_42_method_147_code
theorem d74_0 : Dc b74 0 (.aload_n 0) 1 1 := by decide +kernel
theorem d74_1 : Dc b74 1 (.invokevirtual 335) 3 4 := by decide +kernel
theorem d74_4 : Dc b74 4 (.iload_n 3) 1 5 := by decide +kernel
theorem d74_5 : Dc b74 5 (.if_icmp .ne 23) 3 8 := by decide +kernel
theorem d74_8 : Dc b74 8 (.aload_n 0) 1 9 := by decide +kernel
theorem d74_9 : Dc b74 9 (.getfield 9) 3 12 := by decide +kernel
theorem d74_12 : Dc b74 12 (.iconst 0) 1 13 := by decide +kernel
theorem d74_13 : Dc b74 13 (.aload_n 1) 1 14 := by decide +kernel
theorem d74_14 : Dc b74 14 (.iload_n 2) 1 15 := by decide +kernel
theorem d74_15 : Dc b74 15 (.iload_n 3) 1 16 := by decide +kernel
theorem d74_16 : Dc b74 16 (.ishl) 1 17 := by decide +kernel
theorem d74_17 : Dc b74 17 (.aload_n 0) 1 18 := by decide +kernel
theorem d74_18 : Dc b74 18 (.getfield 9) 3 21 := by decide +kernel
theorem d74_21 : Dc b74 21 (.arraylength) 1 22 := by decide +kernel
theorem d74_22 : Dc b74 22 (.invokestatic 212) 3 25 := by decide +kernel
theorem d74_25 : Dc b74 25 (.goto 18) 3 28 := by decide +kernel
theorem d74_28 : Dc b74 28 (.aload_n 0) 1 29 := by decide +kernel
theorem d74_29 : Dc b74 29 (.getfield 9) 3 32 := by decide +kernel
theorem d74_32 : Dc b74 32 (.iconst 0) 1 33 := by decide +kernel
theorem d74_33 : Dc b74 33 (.aload_n 1) 1 34 := by decide +kernel
theorem d74_34 : Dc b74 34 (.iload_n 2) 1 35 := by decide +kernel
theorem d74_35 : Dc b74 35 (.aload_n 0) 1 36 := by decide +kernel
theorem d74_36 : Dc b74 36 (.getfield 9) 3 39 := by decide +kernel
theorem d74_39 : Dc b74 39 (.arraylength) 1 40 := by decide +kernel
theorem d74_40 : Dc b74 40 (.invokestatic 106) 3 43 := by decide +kernel
theorem d74_43 : Dc b74 43 (.return_) 1 44 := by decide +kernel
abbrev b69 := jdk_68_method_71_code
theorem d69_0 : Dc b69 0 (.getstatic 18) 3 3 := by decide +kernel
theorem d69_3 : Dc b69 3 (.ifCond .eq 18) 3 6 := by decide +kernel
theorem d69_6 : Dc b69 6 (.aload_n 0) 1 7 := by decide +kernel
theorem d69_7 : Dc b69 7 (.getfield 22) 3 10 := by decide +kernel
theorem d69_10 : Dc b69 10 (.aload_n 1) 1 11 := by decide +kernel
theorem d69_11 : Dc b69 11 (.invokevirtual 40) 3 14 := by decide +kernel
theorem d69_14 : Dc b69 14 (.if_icmp .eq 7) 3 17 := by decide +kernel
theorem d69_17 : Dc b69 17 (.aload_n 0) 1 18 := by decide +kernel
theorem d69_18 : Dc b69 18 (.invokevirtual 195) 3 21 := by decide +kernel
theorem d69_21 : Dc b69 21 (.return_) 1 22 := by decide +kernel
abbrev b68 := jdk_68_method_73_code
theorem d68_0 : Dc b68 0 (.aload_n 0) 1 1 := by decide +kernel
theorem d68_1 : Dc b68 1 (.aload_n 2) 1 2 := by decide +kernel
theorem d68_2 : Dc b68 2 (.invokevirtual 397) 3 5 := by decide +kernel
theorem d68_5 : Dc b68 5 (.aload_n 2) 1 6 := by decide +kernel
theorem d68_6 : Dc b68 6 (.aload_n 0) 1 7 := by decide +kernel
theorem d68_7 : Dc b68 7 (.getfield 15) 3 10 := by decide +kernel
theorem d68_10 : Dc b68 10 (.iload_n 1) 1 11 := by decide +kernel
theorem d68_11 : Dc b68 11 (.aload_n 0) 1 12 := by decide +kernel
theorem d68_12 : Dc b68 12 (.getfield 22) 3 15 := by decide +kernel
theorem d68_15 : Dc b68 15 (.invokevirtual 399) 3 18 := by decide +kernel
theorem d68_18 : Dc b68 18 (.return_) 1 19 := by decide +kernel
abbrev b66 := jdk_68_method_22_code
theorem d66_0 : Dc b66 0 (.aload_n 1) 1 1 := by decide +kernel
theorem d66_1 : Dc b66 1 (.ifnonnull 8) 3 4 := by decide +kernel
theorem d66_9 : Dc b66 9 (.aload_n 1) 1 10 := by decide +kernel
theorem d66_10 : Dc b66 10 (.invokevirtual 32) 3 13 := by decide +kernel
theorem d66_13 : Dc b66 13 (.istore_n 2) 1 14 := by decide +kernel
theorem d66_14 : Dc b66 14 (.aload_n 0) 1 15 := by decide +kernel
theorem d66_15 : Dc b66 15 (.aload_n 0) 1 16 := by decide +kernel
theorem d66_16 : Dc b66 16 (.getfield 79) 3 19 := by decide +kernel
theorem d66_19 : Dc b66 19 (.iload_n 2) 1 20 := by decide +kernel
theorem d66_20 : Dc b66 20 (.iadd) 1 21 := by decide +kernel
theorem d66_21 : Dc b66 21 (.invokevirtual 100) 3 24 := by decide +kernel
theorem d66_24 : Dc b66 24 (.aload_n 0) 1 25 := by decide +kernel
theorem d66_25 : Dc b66 25 (.aload_n 0) 1 26 := by decide +kernel
theorem d66_26 : Dc b66 26 (.getfield 79) 3 29 := by decide +kernel
theorem d66_29 : Dc b66 29 (.aload_n 1) 1 30 := by decide +kernel
theorem d66_30 : Dc b66 30 (.invokevirtual 208) 3 33 := by decide +kernel
theorem d66_33 : Dc b66 33 (.aload_n 0) 1 34 := by decide +kernel
theorem d66_34 : Dc b66 34 (.dup) 1 35 := by decide +kernel
theorem d66_35 : Dc b66 35 (.getfield 79) 3 38 := by decide +kernel
theorem d66_38 : Dc b66 38 (.iload_n 2) 1 39 := by decide +kernel
theorem d66_39 : Dc b66 39 (.iadd) 1 40 := by decide +kernel
theorem d66_40 : Dc b66 40 (.putfield 79) 3 43 := by decide +kernel
theorem d66_43 : Dc b66 43 (.aload_n 0) 1 44 := by decide +kernel
theorem d66_44 : Dc b66 44 (.areturn) 1 45 := by decide +kernel
abbrev b65 := jdk_67_method_7_code
theorem d65_0 : Dc b65 0 (.aload_n 0) 1 1 := by decide +kernel
theorem d65_1 : Dc b65 1 (.aload_n 1) 1 2 := by decide +kernel
theorem d65_2 : Dc b65 2 (.invokespecial 29) 3 5 := by decide +kernel
theorem d65_5 : Dc b65 5 (.pop) 1 6 := by decide +kernel
theorem d65_6 : Dc b65 6 (.aload_n 0) 1 7 := by decide +kernel
theorem d65_7 : Dc b65 7 (.areturn) 1 8 := by decide +kernel
abbrev b64 := jdk_65_method_131_code
theorem d64_0 : Dc b64 0 (.iload_n 1) 1 1 := by decide +kernel
theorem d64_1 : Dc b64 1 (.iload_n 0) 1 2 := by decide +kernel
theorem d64_2 : Dc b64 2 (.if_icmp .ge 35) 3 5 := by decide +kernel
theorem d64_37 : Dc b64 37 (.return_) 1 38 := by decide +kernel
abbrev b63 := jdk_65_method_133_code
theorem d63_0 : Dc b63 0 (.iload_n 1) 1 1 := by decide +kernel
theorem d63_1 : Dc b63 1 (.iload_n 2) 1 2 := by decide +kernel
theorem d63_2 : Dc b63 2 (.invokestatic 343) 3 5 := by decide +kernel
theorem d63_5 : Dc b63 5 (.iload_n 2) 1 6 := by decide +kernel
theorem d63_6 : Dc b63 6 (.iload_n 1) 1 7 := by decide +kernel
theorem d63_7 : Dc b63 7 (.isub) 1 8 := by decide +kernel
theorem d63_8 : Dc b63 8 (.istore_n 3) 1 9 := by decide +kernel
theorem d63_9 : Dc b63 9 (.iload_n 3) 1 10 := by decide +kernel
theorem d63_10 : Dc b63 10 (.newarray .byte) 2 12 := by decide +kernel
theorem d63_12 : Dc b63 12 (.astore 4) 2 14 := by decide +kernel
theorem d63_14 : Dc b63 14 (.aload_n 0) 1 15 := by decide +kernel
theorem d63_15 : Dc b63 15 (.iload_n 1) 1 16 := by decide +kernel
theorem d63_16 : Dc b63 16 (.aload 4) 2 18 := by decide +kernel
theorem d63_18 : Dc b63 18 (.iconst 0) 1 19 := by decide +kernel
theorem d63_19 : Dc b63 19 (.aload_n 0) 1 20 := by decide +kernel
theorem d63_20 : Dc b63 20 (.arraylength) 1 21 := by decide +kernel
theorem d63_21 : Dc b63 21 (.iload_n 1) 1 22 := by decide +kernel
theorem d63_22 : Dc b63 22 (.isub) 1 23 := by decide +kernel
theorem d63_23 : Dc b63 23 (.iload_n 3) 1 24 := by decide +kernel
theorem d63_24 : Dc b63 24 (.invokestatic 304) 3 27 := by decide +kernel
theorem d63_27 : Dc b63 27 (.invokestatic 150) 3 30 := by decide +kernel
theorem d63_30 : Dc b63 30 (.aload 4) 2 32 := by decide +kernel
theorem d63_32 : Dc b63 32 (.areturn) 1 33 := by decide +kernel
abbrev b62 := jdk_65_method_132_code
theorem d62_0 : Dc b62 0 (.iload_n 1) 1 1 := by decide +kernel
theorem d62_1 : Dc b62 1 (.ifCond .ne 9) 3 4 := by decide +kernel
theorem d62_4 : Dc b62 4 (.iload_n 2) 1 5 := by decide +kernel
theorem d62_5 : Dc b62 5 (.aload_n 0) 1 6 := by decide +kernel
theorem d62_6 : Dc b62 6 (.arraylength) 1 7 := by decide +kernel
theorem d62_7 : Dc b62 7 (.if_icmp .eq 10) 3 10 := by decide +kernel
theorem d62_10 : Dc b62 10 (.aload_n 0) 1 11 := by decide +kernel
theorem d62_11 : Dc b62 11 (.iload_n 1) 1 12 := by decide +kernel
theorem d62_12 : Dc b62 12 (.iload_n 2) 1 13 := by decide +kernel
theorem d62_13 : Dc b62 13 (.invokestatic 339) 3 16 := by decide +kernel
theorem d62_16 : Dc b62 16 (.areturn) 1 17 := by decide +kernel
theorem d62_17 : Dc b62 17 (.aload_n 0) 1 18 := by decide +kernel
theorem d62_18 : Dc b62 18 (.invokevirtual 310) 3 21 := by decide +kernel
theorem d62_21 : Dc b62 21 (.checkcast 311) 3 24 := by decide +kernel
theorem d62_24 : Dc b62 24 (.areturn) 1 25 := by decide +kernel
abbrev b82 := jdk_42_method_150_code
theorem d82_0 : Dc b82 0 (.aload_n 0) 1 1 := by decide +kernel
theorem d82_1 : Dc b82 1 (.invokespecial 1) 3 4 := by decide +kernel
theorem d82_4 : Dc b82 4 (.aload_n 1) 1 5 := by decide +kernel
theorem d82_5 : Dc b82 5 (.invokevirtual 552) 3 8 := by decide +kernel
theorem d82_8 : Dc b82 8 (.astore_n 3) 1 9 := by decide +kernel
theorem d82_9 : Dc b82 9 (.aload_n 1) 1 10 := by decide +kernel
theorem d82_10 : Dc b82 10 (.invokevirtual 549) 3 13 := by decide +kernel
theorem d82_13 : Dc b82 13 (.istore 4) 2 15 := by decide +kernel
theorem d82_15 : Dc b82 15 (.aload_n 1) 1 16 := by decide +kernel
theorem d82_16 : Dc b82 16 (.invokevirtual 1047) 3 19 := by decide +kernel
theorem d82_19 : Dc b82 19 (.ifCond .eq 22) 3 22 := by decide +kernel
theorem d82_22 : Dc b82 22 (.aload_n 0) 1 23 := by decide +kernel
theorem d82_23 : Dc b82 23 (.iconst 0) 1 24 := by decide +kernel
theorem d82_24 : Dc b82 24 (.putfield 15) 3 27 := by decide +kernel
theorem d82_27 : Dc b82 27 (.aload_n 0) 1 28 := by decide +kernel
theorem d82_28 : Dc b82 28 (.aload_n 3) 1 29 := by decide +kernel
theorem d82_29 : Dc b82 29 (.iconst 0) 1 30 := by decide +kernel
theorem d82_30 : Dc b82 30 (.iload 4) 2 32 := by decide +kernel
theorem d82_32 : Dc b82 32 (.invokestatic 54) 3 35 := by decide +kernel
theorem d82_35 : Dc b82 35 (.putfield 9) 3 38 := by decide +kernel
theorem d82_38 : Dc b82 38 (.goto 59) 3 41 := by decide +kernel
theorem d82_41 : Dc b82 41 (.getstatic 38) 3 44 := by decide +kernel
theorem d82_44 : Dc b82 44 (.ifCond .eq 35) 3 47 := by decide +kernel
theorem d82_47 : Dc b82 47 (.aload_n 1) 1 48 := by decide +kernel
theorem d82_48 : Dc b82 48 (.getfield 1048) 3 51 := by decide +kernel
theorem d82_51 : Dc b82 51 (.ifCond .eq 28) 3 54 := by decide +kernel
theorem d82_79 : Dc b82 79 (.aload_n 0) 1 80 := by decide +kernel
theorem d82_80 : Dc b82 80 (.iconst 1) 1 81 := by decide +kernel
theorem d82_81 : Dc b82 81 (.putfield 15) 3 84 := by decide +kernel
theorem d82_84 : Dc b82 84 (.aload_n 0) 1 85 := by decide +kernel
theorem d82_85 : Dc b82 85 (.aload_n 3) 1 86 := by decide +kernel
theorem d82_86 : Dc b82 86 (.iconst 0) 1 87 := by decide +kernel
theorem d82_87 : Dc b82 87 (.iload 4) 2 89 := by decide +kernel
theorem d82_89 : Dc b82 89 (.iconst 1) 1 90 := by decide +kernel
theorem d82_90 : Dc b82 90 (.ishl) 1 91 := by decide +kernel
theorem d82_91 : Dc b82 91 (.invokestatic 54) 3 94 := by decide +kernel
theorem d82_94 : Dc b82 94 (.putfield 9) 3 97 := by decide +kernel
theorem d82_97 : Dc b82 97 (.return_) 1 98 := by decide +kernel
abbrev b81 := jdk_42_method_53_code
theorem d81_0 : Dc b81 0 (.aload_n 0) 1 1 := by decide +kernel
theorem d81_1 : Dc b81 1 (.aload_n 1) 1 2 := by decide +kernel
theorem d81_2 : Dc b81 2 (.aconst_null) 1 3 := by decide +kernel
theorem d81_3 : Dc b81 3 (.invokespecial 489) 3 6 := by decide +kernel
theorem d81_6 : Dc b81 6 (.return_) 1 7 := by decide +kernel
abbrev b80 := jdk_67_method_42_code
theorem d80_0 : Dc b80 0 (.new 18) 3 3 := by decide +kernel
theorem d80_3 : Dc b80 3 (.dup) 1 4 := by decide +kernel
theorem d80_4 : Dc b80 4 (.aload_n 0) 1 5 := by decide +kernel
theorem d80_5 : Dc b80 5 (.invokespecial 137) 3 8 := by decide +kernel
theorem d80_8 : Dc b80 8 (.areturn) 1 9 := by decide +kernel
abbrev b24 := jdk_89_method_16_code
theorem d24_0 : Dc b24 0 (.iload_n 0) 1 1 := by decide +kernel
theorem d24_1 : Dc b24 1 (.ldc 75) 2 3 := by decide +kernel
theorem d24_3 : Dc b24 3 (.if_icmp .lt 13) 3 6 := by decide +kernel
theorem d24_6 : Dc b24 6 (.iload_n 0) 1 7 := by decide +kernel
theorem d24_7 : Dc b24 7 (.ldc 77) 2 9 := by decide +kernel
theorem d24_9 : Dc b24 9 (.if_icmp .ge 7) 3 12 := by decide +kernel
theorem d24_12 : Dc b24 12 (.iconst 1) 1 13 := by decide +kernel
theorem d24_13 : Dc b24 13 (.goto 4) 3 16 := by decide +kernel
theorem d24_16 : Dc b24 16 (.iconst 0) 1 17 := by decide +kernel
theorem d24_17 : Dc b24 17 (.ireturn) 1 18 := by decide +kernel
abbrev b25 := jdk_89_method_14_code
theorem d25_0 : Dc b25 0 (.iload_n 0) 1 1 := by decide +kernel
theorem d25_1 : Dc b25 1 (.ldc 75) 2 3 := by decide +kernel
theorem d25_3 : Dc b25 3 (.if_icmp .lt 13) 3 6 := by decide +kernel
theorem d25_6 : Dc b25 6 (.iload_n 0) 1 7 := by decide +kernel
theorem d25_7 : Dc b25 7 (.ldc 76) 2 9 := by decide +kernel
theorem d25_9 : Dc b25 9 (.if_icmp .ge 7) 3 12 := by decide +kernel
theorem d25_12 : Dc b25 12 (.iconst 1) 1 13 := by decide +kernel
theorem d25_13 : Dc b25 13 (.goto 4) 3 16 := by decide +kernel
theorem d25_16 : Dc b25 16 (.iconst 0) 1 17 := by decide +kernel
theorem d25_17 : Dc b25 17 (.ireturn) 1 18 := by decide +kernel
abbrev b26 := jdk_89_method_15_code
theorem d26_0 : Dc b26 0 (.iload_n 0) 1 1 := by decide +kernel
theorem d26_1 : Dc b26 1 (.ldc 76) 2 3 := by decide +kernel
theorem d26_3 : Dc b26 3 (.if_icmp .lt 13) 3 6 := by decide +kernel
theorem d26_6 : Dc b26 6 (.iload_n 0) 1 7 := by decide +kernel
theorem d26_7 : Dc b26 7 (.ldc 77) 2 9 := by decide +kernel
theorem d26_9 : Dc b26 9 (.if_icmp .ge 7) 3 12 := by decide +kernel
theorem d26_12 : Dc b26 12 (.iconst 1) 1 13 := by decide +kernel
theorem d26_13 : Dc b26 13 (.goto 4) 3 16 := by decide +kernel
theorem d26_16 : Dc b26 16 (.iconst 0) 1 17 := by decide +kernel
theorem d26_17 : Dc b26 17 (.ireturn) 1 18 := by decide +kernel
abbrev b46 := jdk_89_method_13_code
theorem d46_0 : Dc b46 0 (.iload_n 0) 1 1 := by decide +kernel
theorem d46_1 : Dc b46 1 (.ldc 73) 2 3 := by decide +kernel
theorem d46_3 : Dc b46 3 (.if_icmp .lt 13) 3 6 := by decide +kernel
theorem d46_6 : Dc b46 6 (.iload_n 0) 1 7 := by decide +kernel
theorem d46_7 : Dc b46 7 (.ldc 74) 2 9 := by decide +kernel
theorem d46_9 : Dc b46 9 (.if_icmp .ge 7) 3 12 := by decide +kernel
theorem d46_12 : Dc b46 12 (.iconst 1) 1 13 := by decide +kernel
theorem d46_13 : Dc b46 13 (.goto 4) 3 16 := by decide +kernel
theorem d46_16 : Dc b46 16 (.iconst 0) 1 17 := by decide +kernel
theorem d46_17 : Dc b46 17 (.ireturn) 1 18 := by decide +kernel
abbrev b27 := jdk_89_method_19_code
theorem d27_0 : Dc b27 0 (.iload_n 0) 1 1 := by decide +kernel
theorem d27_1 : Dc b27 1 (.bipush 10) 2 3 := by decide +kernel
theorem d27_3 : Dc b27 3 (.ishl) 1 4 := by decide +kernel
theorem d27_4 : Dc b27 4 (.iload_n 1) 1 5 := by decide +kernel
theorem d27_5 : Dc b27 5 (.iadd) 1 6 := by decide +kernel
theorem d27_6 : Dc b27 6 (.ldc 85) 2 8 := by decide +kernel
theorem d27_8 : Dc b27 8 (.iadd) 1 9 := by decide +kernel
theorem d27_9 : Dc b27 9 (.ireturn) 1 10 := by decide +kernel
abbrev b51 := jdk_89_method_18_code
theorem d51_0 : Dc b51 0 (.iload_n 0) 1 1 := by decide +kernel
theorem d51_1 : Dc b51 1 (.ldc 73) 2 3 := by decide +kernel
theorem d51_3 : Dc b51 3 (.if_icmp .lt 7) 3 6 := by decide +kernel
theorem d51_6 : Dc b51 6 (.iconst 2) 1 7 := by decide +kernel
theorem d51_7 : Dc b51 7 (.goto 4) 3 10 := by decide +kernel
theorem d51_10 : Dc b51 10 (.iconst 1) 1 11 := by decide +kernel
theorem d51_11 : Dc b51 11 (.ireturn) 1 12 := by decide +kernel
abbrev b44 := jdk_43_method_4_code
theorem d44_0 : Dc b44 0 (.iload_n 0) 1 1 := by decide +kernel
theorem d44_1 : Dc b44 1 (.ifCond .lt 14) 3 4 := by decide +kernel
theorem d44_4 : Dc b44 4 (.iload_n 0) 1 5 := by decide +kernel
theorem d44_5 : Dc b44 5 (.sipush 255) 3 8 := by decide +kernel
theorem d44_8 : Dc b44 8 (.if_icmp .gt 7) 3 11 := by decide +kernel
theorem d44_11 : Dc b44 11 (.iconst 1) 1 12 := by decide +kernel
theorem d44_12 : Dc b44 12 (.goto 4) 3 15 := by decide +kernel
theorem d44_15 : Dc b44 15 (.iconst 0) 1 16 := by decide +kernel
theorem d44_16 : Dc b44 16 (.ireturn) 1 17 := by decide +kernel
abbrev b45 := jdk_89_method_12_code
theorem d45_0 : Dc b45 0 (.iload_n 0) 1 1 := by decide +kernel
theorem d45_1 : Dc b45 1 (.bipush 16) 2 3 := by decide +kernel
theorem d45_3 : Dc b45 3 (.iushr) 1 4 := by decide +kernel
theorem d45_4 : Dc b45 4 (.ifCond .ne 7) 3 7 := by decide +kernel
theorem d45_7 : Dc b45 7 (.iconst 1) 1 8 := by decide +kernel
theorem d45_8 : Dc b45 8 (.goto 4) 3 11 := by decide +kernel
theorem d45_11 : Dc b45 11 (.iconst 0) 1 12 := by decide +kernel
theorem d45_12 : Dc b45 12 (.ireturn) 1 13 := by decide +kernel
abbrev b48 := jdk_89_method_28_code
theorem d48_0 : Dc b48 0 (.iload_n 0) 1 1 := by decide +kernel
theorem d48_1 : Dc b48 1 (.bipush 10) 2 3 := by decide +kernel
theorem d48_3 : Dc b48 3 (.iushr) 1 4 := by decide +kernel
theorem d48_4 : Dc b48 4 (.ldc 110) 2 6 := by decide +kernel
theorem d48_6 : Dc b48 6 (.iadd) 1 7 := by decide +kernel
theorem d48_7 : Dc b48 7 (.i2c) 1 8 := by decide +kernel
theorem d48_8 : Dc b48 8 (.ireturn) 1 9 := by decide +kernel
abbrev b49 := jdk_89_method_29_code
theorem d49_0 : Dc b49 0 (.iload_n 0) 1 1 := by decide +kernel
theorem d49_1 : Dc b49 1 (.sipush 1023) 3 4 := by decide +kernel
theorem d49_4 : Dc b49 4 (.iand) 1 5 := by decide +kernel
theorem d49_5 : Dc b49 5 (.ldc 76) 2 7 := by decide +kernel
theorem d49_7 : Dc b49 7 (.iadd) 1 8 := by decide +kernel
theorem d49_8 : Dc b49 8 (.i2c) 1 9 := by decide +kernel
theorem d49_9 : Dc b49 9 (.ireturn) 1 10 := by decide +kernel
abbrev b31 := jdk_123_method_3_code
theorem d31_0 : Dc b31 0 (.iload_n 1) 1 1 := by decide +kernel
theorem d31_1 : Dc b31 1 (.iload_n 2) 1 2 := by decide +kernel
theorem d31_2 : Dc b31 2 (.iadd) 1 3 := by decide +kernel
theorem d31_3 : Dc b31 3 (.istore_n 3) 1 4 := by decide +kernel
theorem d31_4 : Dc b31 4 (.iload_n 1) 1 5 := by decide +kernel
theorem d31_5 : Dc b31 5 (.istore 4) 2 7 := by decide +kernel
theorem d31_7 : Dc b31 7 (.iload 4) 2 9 := by decide +kernel
theorem d31_9 : Dc b31 9 (.iload_n 3) 1 10 := by decide +kernel
theorem d31_10 : Dc b31 10 (.if_icmp .ge 21) 3 13 := by decide +kernel
theorem d31_13 : Dc b31 13 (.aload_n 0) 1 14 := by decide +kernel
theorem d31_14 : Dc b31 14 (.iload 4) 2 16 := by decide +kernel
theorem d31_16 : Dc b31 16 (.baload) 1 17 := by decide +kernel
theorem d31_17 : Dc b31 17 (.ifCond .ge 8) 3 20 := by decide +kernel
theorem d31_20 : Dc b31 20 (.iload 4) 2 22 := by decide +kernel
theorem d31_22 : Dc b31 22 (.iload_n 1) 1 23 := by decide +kernel
theorem d31_23 : Dc b31 23 (.isub) 1 24 := by decide +kernel
theorem d31_24 : Dc b31 24 (.ireturn) 1 25 := by decide +kernel
theorem d31_25 : Dc b31 25 (.iinc 4 1) 3 28 := by decide +kernel
theorem d31_28 : Dc b31 28 (.goto (-21)) 3 31 := by decide +kernel
theorem d31_31 : Dc b31 31 (.iload_n 2) 1 32 := by decide +kernel
theorem d31_32 : Dc b31 32 (.ireturn) 1 33 := by decide +kernel
abbrev b30 := jdk_123_method_2_code
theorem d30_0 : Dc b30 0 (.aload_n 0) 1 1 := by decide +kernel
theorem d30_1 : Dc b30 1 (.iload_n 1) 1 2 := by decide +kernel
theorem d30_2 : Dc b30 2 (.iload_n 2) 1 3 := by decide +kernel
theorem d30_3 : Dc b30 3 (.invokestatic 7) 3 6 := by decide +kernel
theorem d30_6 : Dc b30 6 (.iload_n 2) 1 7 := by decide +kernel
theorem d30_7 : Dc b30 7 (.if_icmp .eq 7) 3 10 := by decide +kernel
theorem d30_10 : Dc b30 10 (.iconst 1) 1 11 := by decide +kernel
theorem d30_11 : Dc b30 11 (.goto 4) 3 14 := by decide +kernel
theorem d30_14 : Dc b30 14 (.iconst 0) 1 15 := by decide +kernel
theorem d30_15 : Dc b30 15 (.ireturn) 1 16 := by decide +kernel
abbrev b23 := jdk_42_method_47_code
theorem d23_0 : Dc b23 0 (.iconst 0) 1 1 := by decide +kernel
theorem d23_1 : Dc b23 1 (.istore_n 2) 1 2 := by decide +kernel
theorem d23_2 : Dc b23 2 (.iconst 0) 1 3 := by decide +kernel
theorem d23_3 : Dc b23 3 (.istore_n 3) 1 4 := by decide +kernel
theorem d23_4 : Dc b23 4 (.aload_n 0) 1 5 := by decide +kernel
theorem d23_5 : Dc b23 5 (.arraylength) 1 6 := by decide +kernel
theorem d23_6 : Dc b23 6 (.iconst 1) 1 7 := by decide +kernel
theorem d23_7 : Dc b23 7 (.ishr) 1 8 := by decide +kernel
theorem d23_8 : Dc b23 8 (.istore 4) 2 10 := by decide +kernel
theorem d23_10 : Dc b23 10 (.iload 4) 2 12 := by decide +kernel
theorem d23_12 : Dc b23 12 (.iconst 3) 1 13 := by decide +kernel
theorem d23_13 : Dc b23 13 (.imul) 1 14 := by decide +kernel
theorem d23_14 : Dc b23 14 (.newarray .byte) 2 16 := by decide +kernel
theorem d23_16 : Dc b23 16 (.astore 5) 2 18 := by decide +kernel
theorem d23_18 : Dc b23 18 (.iload_n 3) 1 19 := by decide +kernel
theorem d23_19 : Dc b23 19 (.iload 4) 2 21 := by decide +kernel
theorem d23_21 : Dc b23 21 (.if_icmp .ge 37) 3 24 := by decide +kernel
theorem d23_24 : Dc b23 24 (.aload_n 0) 1 25 := by decide +kernel
theorem d23_25 : Dc b23 25 (.iload_n 3) 1 26 := by decide +kernel
theorem d23_26 : Dc b23 26 (.invokestatic 360) 3 29 := by decide +kernel
theorem d23_29 : Dc b23 29 (.istore 6) 2 31 := by decide +kernel
theorem d23_31 : Dc b23 31 (.iload 6) 2 33 := by decide +kernel
theorem d23_33 : Dc b23 33 (.sipush 128) 3 36 := by decide +kernel
theorem d23_36 : Dc b23 36 (.if_icmp .lt 6) 3 39 := by decide +kernel
theorem d23_39 : Dc b23 39 (.goto 19) 3 42 := by decide +kernel
theorem d23_42 : Dc b23 42 (.aload 5) 2 44 := by decide +kernel
theorem d23_44 : Dc b23 44 (.iload_n 2) 1 45 := by decide +kernel
theorem d23_45 : Dc b23 45 (.iinc 2 1) 3 48 := by decide +kernel
theorem d23_48 : Dc b23 48 (.iload 6) 2 50 := by decide +kernel
theorem d23_50 : Dc b23 50 (.i2b) 1 51 := by decide +kernel
theorem d23_51 : Dc b23 51 (.bastore) 1 52 := by decide +kernel
theorem d23_52 : Dc b23 52 (.iinc 3 1) 3 55 := by decide +kernel
theorem d23_55 : Dc b23 55 (.goto (-37)) 3 58 := by decide +kernel
theorem d23_58 : Dc b23 58 (.iload_n 3) 1 59 := by decide +kernel
theorem d23_59 : Dc b23 59 (.iload 4) 2 61 := by decide +kernel
theorem d23_61 : Dc b23 61 (.if_icmp .ge 294) 3 64 := by decide +kernel
theorem d23_64 : Dc b23 64 (.aload_n 0) 1 65 := by decide +kernel
theorem d23_65 : Dc b23 65 (.iload_n 3) 1 66 := by decide +kernel
theorem d23_66 : Dc b23 66 (.iinc 3 1) 3 69 := by decide +kernel
theorem d23_69 : Dc b23 69 (.invokestatic 360) 3 72 := by decide +kernel
theorem d23_72 : Dc b23 72 (.istore 6) 2 74 := by decide +kernel
theorem d23_74 : Dc b23 74 (.iload 6) 2 76 := by decide +kernel
theorem d23_76 : Dc b23 76 (.sipush 128) 3 79 := by decide +kernel
theorem d23_79 : Dc b23 79 (.if_icmp .ge 16) 3 82 := by decide +kernel
theorem d23_82 : Dc b23 82 (.aload 5) 2 84 := by decide +kernel
theorem d23_84 : Dc b23 84 (.iload_n 2) 1 85 := by decide +kernel
theorem d23_85 : Dc b23 85 (.iinc 2 1) 3 88 := by decide +kernel
theorem d23_88 : Dc b23 88 (.iload 6) 2 90 := by decide +kernel
theorem d23_90 : Dc b23 90 (.i2b) 1 91 := by decide +kernel
theorem d23_91 : Dc b23 91 (.bastore) 1 92 := by decide +kernel
theorem d23_92 : Dc b23 92 (.goto 260) 3 95 := by decide +kernel
theorem d23_95 : Dc b23 95 (.iload 6) 2 97 := by decide +kernel
theorem d23_97 : Dc b23 97 (.sipush 2048) 3 100 := by decide +kernel
theorem d23_100 : Dc b23 100 (.if_icmp .ge 40) 3 103 := by decide +kernel
theorem d23_103 : Dc b23 103 (.aload 5) 2 105 := by decide +kernel
theorem d23_105 : Dc b23 105 (.iload_n 2) 1 106 := by decide +kernel
theorem d23_106 : Dc b23 106 (.iinc 2 1) 3 109 := by decide +kernel
theorem d23_109 : Dc b23 109 (.sipush 192) 3 112 := by decide +kernel
theorem d23_112 : Dc b23 112 (.iload 6) 2 114 := by decide +kernel
theorem d23_114 : Dc b23 114 (.bipush 6) 2 116 := by decide +kernel
theorem d23_116 : Dc b23 116 (.ishr) 1 117 := by decide +kernel
theorem d23_117 : Dc b23 117 (.ior) 1 118 := by decide +kernel
theorem d23_118 : Dc b23 118 (.i2b) 1 119 := by decide +kernel
theorem d23_119 : Dc b23 119 (.bastore) 1 120 := by decide +kernel
theorem d23_120 : Dc b23 120 (.aload 5) 2 122 := by decide +kernel
theorem d23_122 : Dc b23 122 (.iload_n 2) 1 123 := by decide +kernel
theorem d23_123 : Dc b23 123 (.iinc 2 1) 3 126 := by decide +kernel
theorem d23_126 : Dc b23 126 (.sipush 128) 3 129 := by decide +kernel
theorem d23_129 : Dc b23 129 (.iload 6) 2 131 := by decide +kernel
theorem d23_131 : Dc b23 131 (.bipush 63) 2 133 := by decide +kernel
theorem d23_133 : Dc b23 133 (.iand) 1 134 := by decide +kernel
theorem d23_134 : Dc b23 134 (.ior) 1 135 := by decide +kernel
theorem d23_135 : Dc b23 135 (.i2b) 1 136 := by decide +kernel
theorem d23_136 : Dc b23 136 (.bastore) 1 137 := by decide +kernel
theorem d23_137 : Dc b23 137 (.goto 215) 3 140 := by decide +kernel
theorem d23_140 : Dc b23 140 (.iload 6) 2 142 := by decide +kernel
theorem d23_142 : Dc b23 142 (.invokestatic 404) 3 145 := by decide +kernel
theorem d23_145 : Dc b23 145 (.ifCond .eq 153) 3 148 := by decide +kernel
theorem d23_148 : Dc b23 148 (.iconst (-1)) 1 149 := by decide +kernel
theorem d23_149 : Dc b23 149 (.istore 7) 2 151 := by decide +kernel
theorem d23_151 : Dc b23 151 (.iload 6) 2 153 := by decide +kernel
theorem d23_153 : Dc b23 153 (.invokestatic 364) 3 156 := by decide +kernel
theorem d23_156 : Dc b23 156 (.ifCond .eq 32) 3 159 := by decide +kernel
theorem d23_159 : Dc b23 159 (.iload_n 3) 1 160 := by decide +kernel
theorem d23_160 : Dc b23 160 (.iload 4) 2 162 := by decide +kernel
theorem d23_162 : Dc b23 162 (.if_icmp .ge 26) 3 165 := by decide +kernel
theorem d23_165 : Dc b23 165 (.aload_n 0) 1 166 := by decide +kernel
theorem d23_166 : Dc b23 166 (.iload_n 3) 1 167 := by decide +kernel
theorem d23_167 : Dc b23 167 (.invokestatic 360) 3 170 := by decide +kernel
theorem d23_170 : Dc b23 170 (.dup) 1 171 := by decide +kernel
theorem d23_171 : Dc b23 171 (.istore 8) 2 173 := by decide +kernel
theorem d23_173 : Dc b23 173 (.invokestatic 370) 3 176 := by decide +kernel
theorem d23_176 : Dc b23 176 (.ifCond .eq 12) 3 179 := by decide +kernel
theorem d23_179 : Dc b23 179 (.iload 6) 2 181 := by decide +kernel
theorem d23_181 : Dc b23 181 (.iload 8) 2 183 := by decide +kernel
theorem d23_183 : Dc b23 183 (.invokestatic 477) 3 186 := by decide +kernel
theorem d23_186 : Dc b23 186 (.istore 7) 2 188 := by decide +kernel
theorem d23_188 : Dc b23 188 (.iload 7) 2 190 := by decide +kernel
theorem d23_190 : Dc b23 190 (.ifCond .ge 28) 3 193 := by decide +kernel
theorem d23_218 : Dc b23 218 (.aload 5) 2 220 := by decide +kernel
theorem d23_220 : Dc b23 220 (.iload_n 2) 1 221 := by decide +kernel
theorem d23_221 : Dc b23 221 (.iinc 2 1) 3 224 := by decide +kernel
theorem d23_224 : Dc b23 224 (.sipush 240) 3 227 := by decide +kernel
theorem d23_227 : Dc b23 227 (.iload 7) 2 229 := by decide +kernel
theorem d23_229 : Dc b23 229 (.bipush 18) 2 231 := by decide +kernel
theorem d23_231 : Dc b23 231 (.ishr) 1 232 := by decide +kernel
theorem d23_232 : Dc b23 232 (.ior) 1 233 := by decide +kernel
theorem d23_233 : Dc b23 233 (.i2b) 1 234 := by decide +kernel
theorem d23_234 : Dc b23 234 (.bastore) 1 235 := by decide +kernel
theorem d23_235 : Dc b23 235 (.aload 5) 2 237 := by decide +kernel
theorem d23_237 : Dc b23 237 (.iload_n 2) 1 238 := by decide +kernel
theorem d23_238 : Dc b23 238 (.iinc 2 1) 3 241 := by decide +kernel
theorem d23_241 : Dc b23 241 (.sipush 128) 3 244 := by decide +kernel
theorem d23_244 : Dc b23 244 (.iload 7) 2 246 := by decide +kernel
theorem d23_246 : Dc b23 246 (.bipush 12) 2 248 := by decide +kernel
theorem d23_248 : Dc b23 248 (.ishr) 1 249 := by decide +kernel
theorem d23_249 : Dc b23 249 (.bipush 63) 2 251 := by decide +kernel
theorem d23_251 : Dc b23 251 (.iand) 1 252 := by decide +kernel
theorem d23_252 : Dc b23 252 (.ior) 1 253 := by decide +kernel
theorem d23_253 : Dc b23 253 (.i2b) 1 254 := by decide +kernel
theorem d23_254 : Dc b23 254 (.bastore) 1 255 := by decide +kernel
theorem d23_255 : Dc b23 255 (.aload 5) 2 257 := by decide +kernel
theorem d23_257 : Dc b23 257 (.iload_n 2) 1 258 := by decide +kernel
theorem d23_258 : Dc b23 258 (.iinc 2 1) 3 261 := by decide +kernel
theorem d23_261 : Dc b23 261 (.sipush 128) 3 264 := by decide +kernel
theorem d23_264 : Dc b23 264 (.iload 7) 2 266 := by decide +kernel
theorem d23_266 : Dc b23 266 (.bipush 6) 2 268 := by decide +kernel
theorem d23_268 : Dc b23 268 (.ishr) 1 269 := by decide +kernel
theorem d23_269 : Dc b23 269 (.bipush 63) 2 271 := by decide +kernel
theorem d23_271 : Dc b23 271 (.iand) 1 272 := by decide +kernel
theorem d23_272 : Dc b23 272 (.ior) 1 273 := by decide +kernel
theorem d23_273 : Dc b23 273 (.i2b) 1 274 := by decide +kernel
theorem d23_274 : Dc b23 274 (.bastore) 1 275 := by decide +kernel
theorem d23_275 : Dc b23 275 (.aload 5) 2 277 := by decide +kernel
theorem d23_277 : Dc b23 277 (.iload_n 2) 1 278 := by decide +kernel
theorem d23_278 : Dc b23 278 (.iinc 2 1) 3 281 := by decide +kernel
theorem d23_281 : Dc b23 281 (.sipush 128) 3 284 := by decide +kernel
theorem d23_284 : Dc b23 284 (.iload 7) 2 286 := by decide +kernel
theorem d23_286 : Dc b23 286 (.bipush 63) 2 288 := by decide +kernel
theorem d23_288 : Dc b23 288 (.iand) 1 289 := by decide +kernel
theorem d23_289 : Dc b23 289 (.ior) 1 290 := by decide +kernel
theorem d23_290 : Dc b23 290 (.i2b) 1 291 := by decide +kernel
theorem d23_291 : Dc b23 291 (.bastore) 1 292 := by decide +kernel
theorem d23_292 : Dc b23 292 (.iinc 3 1) 3 295 := by decide +kernel
theorem d23_295 : Dc b23 295 (.goto 57) 3 298 := by decide +kernel
theorem d23_298 : Dc b23 298 (.aload 5) 2 300 := by decide +kernel
theorem d23_300 : Dc b23 300 (.iload_n 2) 1 301 := by decide +kernel
theorem d23_301 : Dc b23 301 (.iinc 2 1) 3 304 := by decide +kernel
theorem d23_304 : Dc b23 304 (.sipush 224) 3 307 := by decide +kernel
theorem d23_307 : Dc b23 307 (.iload 6) 2 309 := by decide +kernel
theorem d23_309 : Dc b23 309 (.bipush 12) 2 311 := by decide +kernel
theorem d23_311 : Dc b23 311 (.ishr) 1 312 := by decide +kernel
theorem d23_312 : Dc b23 312 (.ior) 1 313 := by decide +kernel
theorem d23_313 : Dc b23 313 (.i2b) 1 314 := by decide +kernel
theorem d23_314 : Dc b23 314 (.bastore) 1 315 := by decide +kernel
theorem d23_315 : Dc b23 315 (.aload 5) 2 317 := by decide +kernel
theorem d23_317 : Dc b23 317 (.iload_n 2) 1 318 := by decide +kernel
theorem d23_318 : Dc b23 318 (.iinc 2 1) 3 321 := by decide +kernel
theorem d23_321 : Dc b23 321 (.sipush 128) 3 324 := by decide +kernel
theorem d23_324 : Dc b23 324 (.iload 6) 2 326 := by decide +kernel
theorem d23_326 : Dc b23 326 (.bipush 6) 2 328 := by decide +kernel
theorem d23_328 : Dc b23 328 (.ishr) 1 329 := by decide +kernel
theorem d23_329 : Dc b23 329 (.bipush 63) 2 331 := by decide +kernel
theorem d23_331 : Dc b23 331 (.iand) 1 332 := by decide +kernel
theorem d23_332 : Dc b23 332 (.ior) 1 333 := by decide +kernel
theorem d23_333 : Dc b23 333 (.i2b) 1 334 := by decide +kernel
theorem d23_334 : Dc b23 334 (.bastore) 1 335 := by decide +kernel
theorem d23_335 : Dc b23 335 (.aload 5) 2 337 := by decide +kernel
theorem d23_337 : Dc b23 337 (.iload_n 2) 1 338 := by decide +kernel
theorem d23_338 : Dc b23 338 (.iinc 2 1) 3 341 := by decide +kernel
theorem d23_341 : Dc b23 341 (.sipush 128) 3 344 := by decide +kernel
theorem d23_344 : Dc b23 344 (.iload 6) 2 346 := by decide +kernel
theorem d23_346 : Dc b23 346 (.bipush 63) 2 348 := by decide +kernel
theorem d23_348 : Dc b23 348 (.iand) 1 349 := by decide +kernel
theorem d23_349 : Dc b23 349 (.ior) 1 350 := by decide +kernel
theorem d23_350 : Dc b23 350 (.i2b) 1 351 := by decide +kernel
theorem d23_351 : Dc b23 351 (.bastore) 1 352 := by decide +kernel
theorem d23_352 : Dc b23 352 (.goto (-294)) 3 355 := by decide +kernel
theorem d23_355 : Dc b23 355 (.iload_n 2) 1 356 := by decide +kernel
theorem d23_356 : Dc b23 356 (.aload 5) 2 358 := by decide +kernel
theorem d23_358 : Dc b23 358 (.arraylength) 1 359 := by decide +kernel
theorem d23_359 : Dc b23 359 (.if_icmp .ne 6) 3 362 := by decide +kernel
theorem d23_362 : Dc b23 362 (.aload 5) 2 364 := by decide +kernel
theorem d23_364 : Dc b23 364 (.areturn) 1 365 := by decide +kernel
theorem d23_365 : Dc b23 365 (.aload 5) 2 367 := by decide +kernel
theorem d23_367 : Dc b23 367 (.iload_n 2) 1 368 := by decide +kernel
theorem d23_368 : Dc b23 368 (.invokestatic 102) 3 371 := by decide +kernel
theorem d23_371 : Dc b23 371 (.areturn) 1 372 := by decide +kernel
abbrev b22 := jdk_42_method_46_code
theorem d22_0 : Dc b22 0 (.iload_n 0) 1 1 := by decide +kernel
theorem d22_1 : Dc b22 1 (.iconst 1) 1 2 := by decide +kernel
theorem d22_2 : Dc b22 2 (.if_icmp .ne 9) 3 5 := by decide +kernel
theorem d22_5 : Dc b22 5 (.aload_n 1) 1 6 := by decide +kernel
theorem d22_6 : Dc b22 6 (.iload_n 2) 1 7 := by decide +kernel
theorem d22_7 : Dc b22 7 (.invokestatic 473) 3 10 := by decide +kernel
theorem d22_10 : Dc b22 10 (.areturn) 1 11 := by decide +kernel
theorem d22_11 : Dc b22 11 (.aload_n 1) 1 12 := by decide +kernel
theorem d22_12 : Dc b22 12 (.iconst 0) 1 13 := by decide +kernel
theorem d22_13 : Dc b22 13 (.aload_n 1) 1 14 := by decide +kernel
theorem d22_14 : Dc b22 14 (.arraylength) 1 15 := by decide +kernel
theorem d22_15 : Dc b22 15 (.invokestatic 128) 3 18 := by decide +kernel
theorem d22_18 : Dc b22 18 (.ifCond .ne 11) 3 21 := by decide +kernel
theorem d22_21 : Dc b22 21 (.aload_n 1) 1 22 := by decide +kernel
theorem d22_22 : Dc b22 22 (.invokevirtual 279) 3 25 := by decide +kernel
theorem d22_25 : Dc b22 25 (.checkcast 280) 3 28 := by decide +kernel
theorem d22_28 : Dc b22 28 (.areturn) 1 29 := by decide +kernel
theorem d22_29 : Dc b22 29 (.iconst 0) 1 30 := by decide +kernel
theorem d22_30 : Dc b22 30 (.istore_n 3) 1 31 := by decide +kernel
theorem d22_31 : Dc b22 31 (.aload_n 1) 1 32 := by decide +kernel
theorem d22_32 : Dc b22 32 (.arraylength) 1 33 := by decide +kernel
theorem d22_33 : Dc b22 33 (.invokestatic 60) 3 36 := by decide +kernel
theorem d22_36 : Dc b22 36 (.astore 4) 2 38 := by decide +kernel
theorem d22_38 : Dc b22 38 (.aload_n 1) 1 39 := by decide +kernel
theorem d22_39 : Dc b22 39 (.astore 5) 2 41 := by decide +kernel
theorem d22_41 : Dc b22 41 (.aload 5) 2 43 := by decide +kernel
theorem d22_43 : Dc b22 43 (.arraylength) 1 44 := by decide +kernel
theorem d22_44 : Dc b22 44 (.istore 6) 2 46 := by decide +kernel
theorem d22_46 : Dc b22 46 (.iconst 0) 1 47 := by decide +kernel
theorem d22_47 : Dc b22 47 (.istore 7) 2 49 := by decide +kernel
theorem d22_49 : Dc b22 49 (.iload 7) 2 51 := by decide +kernel
theorem d22_51 : Dc b22 51 (.iload 6) 2 53 := by decide +kernel
theorem d22_53 : Dc b22 53 (.if_icmp .ge 71) 3 56 := by decide +kernel
theorem d22_56 : Dc b22 56 (.aload 5) 2 58 := by decide +kernel
theorem d22_58 : Dc b22 58 (.iload 7) 2 60 := by decide +kernel
theorem d22_60 : Dc b22 60 (.baload) 1 61 := by decide +kernel
theorem d22_61 : Dc b22 61 (.istore 8) 2 63 := by decide +kernel
theorem d22_63 : Dc b22 63 (.iload 8) 2 65 := by decide +kernel
theorem d22_65 : Dc b22 65 (.ifCond .ge 44) 3 68 := by decide +kernel
theorem d22_68 : Dc b22 68 (.aload 4) 2 70 := by decide +kernel
theorem d22_70 : Dc b22 70 (.iload_n 3) 1 71 := by decide +kernel
theorem d22_71 : Dc b22 71 (.iinc 3 1) 3 74 := by decide +kernel
theorem d22_74 : Dc b22 74 (.sipush 192) 3 77 := by decide +kernel
theorem d22_77 : Dc b22 77 (.iload 8) 2 79 := by decide +kernel
theorem d22_79 : Dc b22 79 (.sipush 255) 3 82 := by decide +kernel
theorem d22_82 : Dc b22 82 (.iand) 1 83 := by decide +kernel
theorem d22_83 : Dc b22 83 (.bipush 6) 2 85 := by decide +kernel
theorem d22_85 : Dc b22 85 (.ishr) 1 86 := by decide +kernel
theorem d22_86 : Dc b22 86 (.ior) 1 87 := by decide +kernel
theorem d22_87 : Dc b22 87 (.i2b) 1 88 := by decide +kernel
theorem d22_88 : Dc b22 88 (.bastore) 1 89 := by decide +kernel
theorem d22_89 : Dc b22 89 (.aload 4) 2 91 := by decide +kernel
theorem d22_91 : Dc b22 91 (.iload_n 3) 1 92 := by decide +kernel
theorem d22_92 : Dc b22 92 (.iinc 3 1) 3 95 := by decide +kernel
theorem d22_95 : Dc b22 95 (.sipush 128) 3 98 := by decide +kernel
theorem d22_98 : Dc b22 98 (.iload 8) 2 100 := by decide +kernel
theorem d22_100 : Dc b22 100 (.bipush 63) 2 102 := by decide +kernel
theorem d22_102 : Dc b22 102 (.iand) 1 103 := by decide +kernel
theorem d22_103 : Dc b22 103 (.ior) 1 104 := by decide +kernel
theorem d22_104 : Dc b22 104 (.i2b) 1 105 := by decide +kernel
theorem d22_105 : Dc b22 105 (.bastore) 1 106 := by decide +kernel
theorem d22_106 : Dc b22 106 (.goto 12) 3 109 := by decide +kernel
theorem d22_109 : Dc b22 109 (.aload 4) 2 111 := by decide +kernel
theorem d22_111 : Dc b22 111 (.iload_n 3) 1 112 := by decide +kernel
theorem d22_112 : Dc b22 112 (.iinc 3 1) 3 115 := by decide +kernel
theorem d22_115 : Dc b22 115 (.iload 8) 2 117 := by decide +kernel
theorem d22_117 : Dc b22 117 (.bastore) 1 118 := by decide +kernel
theorem d22_118 : Dc b22 118 (.iinc 7 1) 3 121 := by decide +kernel
theorem d22_121 : Dc b22 121 (.goto (-72)) 3 124 := by decide +kernel
theorem d22_124 : Dc b22 124 (.iload_n 3) 1 125 := by decide +kernel
theorem d22_125 : Dc b22 125 (.aload 4) 2 127 := by decide +kernel
theorem d22_127 : Dc b22 127 (.arraylength) 1 128 := by decide +kernel
theorem d22_128 : Dc b22 128 (.if_icmp .ne 6) 3 131 := by decide +kernel
theorem d22_131 : Dc b22 131 (.aload 4) 2 133 := by decide +kernel
theorem d22_133 : Dc b22 133 (.areturn) 1 134 := by decide +kernel
theorem d22_134 : Dc b22 134 (.aload 4) 2 136 := by decide +kernel
theorem d22_136 : Dc b22 136 (.iload_n 3) 1 137 := by decide +kernel
theorem d22_137 : Dc b22 137 (.invokestatic 102) 3 140 := by decide +kernel
theorem d22_140 : Dc b22 140 (.areturn) 1 141 := by decide +kernel
abbrev b21 := jdk_42_method_18_code
theorem d21_0 : Dc b21 0 (.aload_n 0) 1 1 := by decide +kernel
theorem d21_1 : Dc b21 1 (.getstatic 86) 3 4 := by decide +kernel
theorem d21_4 : Dc b21 4 (.if_acmp .ne 10) 3 7 := by decide +kernel
theorem d21_7 : Dc b21 7 (.iload_n 1) 1 8 := by decide +kernel
theorem d21_8 : Dc b21 8 (.aload_n 2) 1 9 := by decide +kernel
theorem d21_9 : Dc b21 9 (.iconst 1) 1 10 := by decide +kernel
theorem d21_10 : Dc b21 10 (.invokestatic 252) 3 13 := by decide +kernel
theorem d21_13 : Dc b21 13 (.areturn) 1 14 := by decide +kernel
abbrev b19 := jdk_42_method_64_code
theorem d19_0 : Dc b19 0 (.aload_n 1) 1 1 := by decide +kernel
theorem d19_1 : Dc b19 1 (.ifnonnull 11) 3 4 := by decide +kernel
theorem d19_12 : Dc b19 12 (.aload_n 1) 1 13 := by decide +kernel
theorem d19_13 : Dc b19 13 (.aload_n 0) 1 14 := by decide +kernel
theorem d19_14 : Dc b19 14 (.invokevirtual 335) 3 17 := by decide +kernel
theorem d19_17 : Dc b19 17 (.aload_n 0) 1 18 := by decide +kernel
theorem d19_18 : Dc b19 18 (.getfield 9) 3 21 := by decide +kernel
theorem d19_21 : Dc b19 21 (.invokestatic 535) 3 24 := by decide +kernel
theorem d19_24 : Dc b19 24 (.areturn) 1 25 := by decide +kernel
abbrev b18 := prog_5_method_7_code
theorem d18_0 : Dc b18 0 (.aload_n 0) 1 1 := by decide +kernel
theorem d18_1 : Dc b18 1 (.getstatic 53) 3 4 := by decide +kernel
theorem d18_4 : Dc b18 4 (.invokevirtual 59) 3 7 := by decide +kernel
theorem d18_7 : Dc b18 7 (.arraylength) 1 8 := by decide +kernel
theorem d18_8 : Dc b18 8 (.ireturn) 1 9 := by decide +kernel
abbrev b41 := jdk_52_method_7_code
theorem d41_0 : Dc b41 0 (.getstatic 44) 3 3 := by decide +kernel
theorem d41_3 : Dc b41 3 (.ifCond .ne 16) 3 6 := by decide +kernel
theorem d41_19 : Dc b41 19 (.iload_n 3) 1 20 := by decide +kernel
theorem d41_20 : Dc b41 20 (.ifCond .eq 8) 3 23 := by decide +kernel
theorem d41_28 : Dc b41 28 (.aload_n 0) 1 29 := by decide +kernel
theorem d41_29 : Dc b41 29 (.iload_n 1) 1 30 := by decide +kernel
theorem d41_30 : Dc b41 30 (.invokestatic 71) 3 33 := by decide +kernel
theorem d41_33 : Dc b41 33 (.istore 4) 2 35 := by decide +kernel
theorem d41_35 : Dc b41 35 (.iload 4) 2 37 := by decide +kernel
theorem d41_37 : Dc b41 37 (.invokestatic 75) 3 40 := by decide +kernel
theorem d41_40 : Dc b41 40 (.ifCond .eq 43) 3 43 := by decide +kernel
theorem d41_43 : Dc b41 43 (.iinc 1 1) 3 46 := by decide +kernel
theorem d41_46 : Dc b41 46 (.iload_n 1) 1 47 := by decide +kernel
theorem d41_47 : Dc b41 47 (.iload_n 2) 1 48 := by decide +kernel
theorem d41_48 : Dc b41 48 (.if_icmp .ge 35) 3 51 := by decide +kernel
theorem d41_51 : Dc b41 51 (.iload_n 3) 1 52 := by decide +kernel
theorem d41_52 : Dc b41 52 (.ifCond .eq 8) 3 55 := by decide +kernel
theorem d41_60 : Dc b41 60 (.aload_n 0) 1 61 := by decide +kernel
theorem d41_61 : Dc b41 61 (.iload_n 1) 1 62 := by decide +kernel
theorem d41_62 : Dc b41 62 (.invokestatic 71) 3 65 := by decide +kernel
theorem d41_65 : Dc b41 65 (.istore 5) 2 67 := by decide +kernel
theorem d41_67 : Dc b41 67 (.iload 5) 2 69 := by decide +kernel
theorem d41_69 : Dc b41 69 (.invokestatic 81) 3 72 := by decide +kernel
theorem d41_72 : Dc b41 72 (.ifCond .eq 11) 3 75 := by decide +kernel
theorem d41_75 : Dc b41 75 (.iload 4) 2 77 := by decide +kernel
theorem d41_77 : Dc b41 77 (.iload 5) 2 79 := by decide +kernel
theorem d41_79 : Dc b41 79 (.invokestatic 84) 3 82 := by decide +kernel
theorem d41_82 : Dc b41 82 (.ireturn) 1 83 := by decide +kernel
theorem d41_83 : Dc b41 83 (.iload 4) 2 85 := by decide +kernel
theorem d41_85 : Dc b41 85 (.ireturn) 1 86 := by decide +kernel
abbrev b40 := jdk_52_method_8_code
theorem d40_0 : Dc b40 0 (.aload_n 0) 1 1 := by decide +kernel
theorem d40_1 : Dc b40 1 (.iload_n 1) 1 2 := by decide +kernel
theorem d40_2 : Dc b40 2 (.iload_n 2) 1 3 := by decide +kernel
theorem d40_3 : Dc b40 3 (.iconst 0) 1 4 := by decide +kernel
theorem d40_4 : Dc b40 4 (.invokestatic 88) 3 7 := by decide +kernel
theorem d40_7 : Dc b40 7 (.ireturn) 1 8 := by decide +kernel
abbrev b36 := jdk_42_method_57_code
theorem d36_0 : Dc b36 0 (.aload_n 0) 1 1 := by decide +kernel
theorem d36_1 : Dc b36 1 (.invokevirtual 492) 3 4 := by decide +kernel
theorem d36_4 : Dc b36 4 (.ifCond .eq 23) 3 7 := by decide +kernel
theorem d36_7 : Dc b36 7 (.iload_n 1) 1 8 := by decide +kernel
theorem d36_8 : Dc b36 8 (.aload_n 0) 1 9 := by decide +kernel
theorem d36_9 : Dc b36 9 (.getfield 9) 3 12 := by decide +kernel
theorem d36_12 : Dc b36 12 (.arraylength) 1 13 := by decide +kernel
theorem d36_13 : Dc b36 13 (.invokestatic 499) 3 16 := by decide +kernel
theorem d36_16 : Dc b36 16 (.aload_n 0) 1 17 := by decide +kernel
theorem d36_17 : Dc b36 17 (.getfield 9) 3 20 := by decide +kernel
theorem d36_20 : Dc b36 20 (.iload_n 1) 1 21 := by decide +kernel
theorem d36_21 : Dc b36 21 (.baload) 1 22 := by decide +kernel
theorem d36_22 : Dc b36 22 (.sipush 255) 3 25 := by decide +kernel
theorem d36_25 : Dc b36 25 (.iand) 1 26 := by decide +kernel
theorem d36_26 : Dc b36 26 (.ireturn) 1 27 := by decide +kernel
theorem d36_27 : Dc b36 27 (.aload_n 0) 1 28 := by decide +kernel
theorem d36_28 : Dc b36 28 (.getfield 9) 3 31 := by decide +kernel
theorem d36_31 : Dc b36 31 (.arraylength) 1 32 := by decide +kernel
theorem d36_32 : Dc b36 32 (.iconst 1) 1 33 := by decide +kernel
theorem d36_33 : Dc b36 33 (.ishr) 1 34 := by decide +kernel
theorem d36_34 : Dc b36 34 (.istore_n 2) 1 35 := by decide +kernel
theorem d36_35 : Dc b36 35 (.iload_n 1) 1 36 := by decide +kernel
theorem d36_36 : Dc b36 36 (.iload_n 2) 1 37 := by decide +kernel
theorem d36_37 : Dc b36 37 (.invokestatic 499) 3 40 := by decide +kernel
theorem d36_40 : Dc b36 40 (.aload_n 0) 1 41 := by decide +kernel
theorem d36_41 : Dc b36 41 (.getfield 9) 3 44 := by decide +kernel
theorem d36_44 : Dc b36 44 (.iload_n 1) 1 45 := by decide +kernel
theorem d36_45 : Dc b36 45 (.iload_n 2) 1 46 := by decide +kernel
theorem d36_46 : Dc b36 46 (.invokestatic 502) 3 49 := by decide +kernel
theorem d36_49 : Dc b36 49 (.ireturn) 1 50 := by decide +kernel
abbrev b50 := jdk_42_method_151_code
theorem d50_0 : Dc b50 0 (.aload_n 0) 1 1 := by decide +kernel
theorem d50_1 : Dc b50 1 (.invokespecial 1) 3 4 := by decide +kernel
theorem d50_4 : Dc b50 4 (.aload_n 0) 1 5 := by decide +kernel
theorem d50_5 : Dc b50 5 (.aload_n 1) 1 6 := by decide +kernel
theorem d50_6 : Dc b50 6 (.putfield 9) 3 9 := by decide +kernel
theorem d50_9 : Dc b50 9 (.aload_n 0) 1 10 := by decide +kernel
theorem d50_10 : Dc b50 10 (.iload_n 2) 1 11 := by decide +kernel
theorem d50_11 : Dc b50 11 (.putfield 15) 3 14 := by decide +kernel
theorem d50_14 : Dc b50 14 (.return_) 1 15 := by decide +kernel
abbrev b75 := jdk_43_method_46_code
theorem d75_0 : Dc b75 0 (.iconst 1) 1 1 := by decide +kernel
theorem d75_1 : Dc b75 1 (.newarray .byte) 2 3 := by decide +kernel
theorem d75_3 : Dc b75 3 (.dup) 1 4 := by decide +kernel
theorem d75_4 : Dc b75 4 (.iconst 0) 1 5 := by decide +kernel
theorem d75_5 : Dc b75 5 (.iload_n 0) 1 6 := by decide +kernel
theorem d75_6 : Dc b75 6 (.i2b) 1 7 := by decide +kernel
theorem d75_7 : Dc b75 7 (.bastore) 1 8 := by decide +kernel
theorem d75_8 : Dc b75 8 (.areturn) 1 9 := by decide +kernel
abbrev b94 := jdk_52_method_24_code
theorem d94_0 : Dc b94 0 (.iconst 2) 1 1 := by decide +kernel
theorem d94_1 : Dc b94 1 (.newarray .byte) 2 3 := by decide +kernel
theorem d94_3 : Dc b94 3 (.astore_n 1) 1 4 := by decide +kernel
theorem d94_4 : Dc b94 4 (.aload_n 1) 1 5 := by decide +kernel
theorem d94_5 : Dc b94 5 (.iconst 0) 1 6 := by decide +kernel
theorem d94_6 : Dc b94 6 (.iload_n 0) 1 7 := by decide +kernel
theorem d94_7 : Dc b94 7 (.invokestatic 111) 3 10 := by decide +kernel
theorem d94_10 : Dc b94 10 (.aload_n 1) 1 11 := by decide +kernel
theorem d94_11 : Dc b94 11 (.areturn) 1 12 := by decide +kernel
abbrev b47 := jdk_52_method_25_code
theorem d47_0 : Dc b47 0 (.iconst 4) 1 1 := by decide +kernel
theorem d47_1 : Dc b47 1 (.newarray .byte) 2 3 := by decide +kernel
theorem d47_3 : Dc b47 3 (.astore_n 1) 1 4 := by decide +kernel
theorem d47_4 : Dc b47 4 (.aload_n 1) 1 5 := by decide +kernel
theorem d47_5 : Dc b47 5 (.iconst 0) 1 6 := by decide +kernel
theorem d47_6 : Dc b47 6 (.iload_n 0) 1 7 := by decide +kernel
theorem d47_7 : Dc b47 7 (.invokestatic 157) 3 10 := by decide +kernel
theorem d47_10 : Dc b47 10 (.invokestatic 111) 3 13 := by decide +kernel
theorem d47_13 : Dc b47 13 (.aload_n 1) 1 14 := by decide +kernel
theorem d47_14 : Dc b47 14 (.iconst 1) 1 15 := by decide +kernel
theorem d47_15 : Dc b47 15 (.iload_n 0) 1 16 := by decide +kernel
theorem d47_16 : Dc b47 16 (.invokestatic 161) 3 19 := by decide +kernel
theorem d47_19 : Dc b47 19 (.invokestatic 111) 3 22 := by decide +kernel
theorem d47_22 : Dc b47 22 (.aload_n 1) 1 23 := by decide +kernel
theorem d47_23 : Dc b47 23 (.areturn) 1 24 := by decide +kernel
abbrev b43 := jdk_42_method_159_code
theorem d43_0 : Dc b43 0 (.getstatic 38) 3 3 := by decide +kernel
theorem d43_3 : Dc b43 3 (.ifCond .eq 24) 3 6 := by decide +kernel
theorem d43_6 : Dc b43 6 (.iload_n 0) 1 7 := by decide +kernel
theorem d43_7 : Dc b43 7 (.invokestatic 1068) 3 10 := by decide +kernel
theorem d43_10 : Dc b43 10 (.ifCond .eq 17) 3 13 := by decide +kernel
theorem d43_13 : Dc b43 13 (.new 10) 3 16 := by decide +kernel
theorem d43_16 : Dc b43 16 (.dup) 1 17 := by decide +kernel
theorem d43_17 : Dc b43 17 (.iload_n 0) 1 18 := by decide +kernel
theorem d43_18 : Dc b43 18 (.i2c) 1 19 := by decide +kernel
theorem d43_19 : Dc b43 19 (.invokestatic 1018) 3 22 := by decide +kernel
theorem d43_22 : Dc b43 22 (.iconst 0) 1 23 := by decide +kernel
theorem d43_23 : Dc b43 23 (.invokespecial 209) 3 26 := by decide +kernel
theorem d43_26 : Dc b43 26 (.areturn) 1 27 := by decide +kernel
theorem d43_27 : Dc b43 27 (.iload_n 0) 1 28 := by decide +kernel
theorem d43_28 : Dc b43 28 (.invokestatic 1070) 3 31 := by decide +kernel
theorem d43_31 : Dc b43 31 (.ifCond .eq 17) 3 34 := by decide +kernel
theorem d43_34 : Dc b43 34 (.new 10) 3 37 := by decide +kernel
theorem d43_37 : Dc b43 37 (.dup) 1 38 := by decide +kernel
theorem d43_38 : Dc b43 38 (.iload_n 0) 1 39 := by decide +kernel
theorem d43_39 : Dc b43 39 (.i2c) 1 40 := by decide +kernel
theorem d43_40 : Dc b43 40 (.invokestatic 1021) 3 43 := by decide +kernel
theorem d43_43 : Dc b43 43 (.iconst 1) 1 44 := by decide +kernel
theorem d43_44 : Dc b43 44 (.invokespecial 209) 3 47 := by decide +kernel
theorem d43_47 : Dc b43 47 (.areturn) 1 48 := by decide +kernel
theorem d43_48 : Dc b43 48 (.iload_n 0) 1 49 := by decide +kernel
theorem d43_49 : Dc b43 49 (.invokestatic 418) 3 52 := by decide +kernel
theorem d43_52 : Dc b43 52 (.ifCond .eq 16) 3 55 := by decide +kernel
theorem d43_55 : Dc b43 55 (.new 10) 3 58 := by decide +kernel
theorem d43_58 : Dc b43 58 (.dup) 1 59 := by decide +kernel
theorem d43_59 : Dc b43 59 (.iload_n 0) 1 60 := by decide +kernel
theorem d43_60 : Dc b43 60 (.invokestatic 1073) 3 63 := by decide +kernel
theorem d43_63 : Dc b43 63 (.iconst 1) 1 64 := by decide +kernel
theorem d43_64 : Dc b43 64 (.invokespecial 209) 3 67 := by decide +kernel
theorem d43_67 : Dc b43 67 (.areturn) 1 68 := by decide +kernel
abbrev b42 := jdk_89_method_10_code
theorem d42_0 : Dc b42 0 (.iload_n 0) 1 1 := by decide +kernel
theorem d42_1 : Dc b42 1 (.invokestatic 69) 3 4 := by decide +kernel
theorem d42_4 : Dc b42 4 (.areturn) 1 5 := by decide +kernel
abbrev b54 := jdk_41_method_12_code
theorem d54_0 : Dc b54 0 (.iload_n 0) 1 1 := by decide +kernel
theorem d54_1 : Dc b54 1 (.ifCond .lt 13) 3 4 := by decide +kernel
theorem d54_4 : Dc b54 4 (.iload_n 0) 1 5 := by decide +kernel
theorem d54_5 : Dc b54 5 (.iload_n 1) 1 6 := by decide +kernel
theorem d54_6 : Dc b54 6 (.if_icmp .gt 8) 3 9 := by decide +kernel
theorem d54_9 : Dc b54 9 (.iload_n 1) 1 10 := by decide +kernel
theorem d54_10 : Dc b54 10 (.iload_n 2) 1 11 := by decide +kernel
theorem d54_11 : Dc b54 11 (.if_icmp .le 11) 3 14 := by decide +kernel
theorem d54_22 : Dc b54 22 (.iload_n 0) 1 23 := by decide +kernel
theorem d54_23 : Dc b54 23 (.ireturn) 1 24 := by decide +kernel
abbrev b53 := jdk_42_method_158_code
theorem d53_0 : Dc b53 0 (.iload_n 0) 1 1 := by decide +kernel
theorem d53_1 : Dc b53 1 (.iload_n 1) 1 2 := by decide +kernel
theorem d53_2 : Dc b53 2 (.iload_n 2) 1 3 := by decide +kernel
theorem d53_3 : Dc b53 3 (.getstatic 1053) 3 6 := by decide +kernel
theorem d53_6 : Dc b53 6 (.invokestatic 1062) 3 9 := by decide +kernel
theorem d53_9 : Dc b53 9 (.pop) 1 10 := by decide +kernel
theorem d53_10 : Dc b53 10 (.return_) 1 11 := by decide +kernel
abbrev b57 := jdk_52_method_22_code
theorem d57_0 : Dc b57 0 (.iload_n 1) 1 1 := by decide +kernel
theorem d57_1 : Dc b57 1 (.iload 4) 2 3 := by decide +kernel
theorem d57_3 : Dc b57 3 (.aload_n 0) 1 4 := by decide +kernel
theorem d57_4 : Dc b57 4 (.invokestatic 173) 3 7 := by decide +kernel
theorem d57_7 : Dc b57 7 (.iconst 0) 1 8 := by decide +kernel
theorem d57_8 : Dc b57 8 (.istore 5) 2 10 := by decide +kernel
theorem d57_10 : Dc b57 10 (.iload 5) 2 12 := by decide +kernel
theorem d57_12 : Dc b57 12 (.iload 4) 2 14 := by decide +kernel
theorem d57_14 : Dc b57 14 (.if_icmp .ge 39) 3 17 := by decide +kernel
theorem d57_17 : Dc b57 17 (.aload_n 0) 1 18 := by decide +kernel
theorem d57_18 : Dc b57 18 (.iload_n 1) 1 19 := by decide +kernel
theorem d57_19 : Dc b57 19 (.invokestatic 71) 3 22 := by decide +kernel
theorem d57_22 : Dc b57 22 (.istore 6) 2 24 := by decide +kernel
theorem d57_24 : Dc b57 24 (.iload 6) 2 26 := by decide +kernel
theorem d57_26 : Dc b57 26 (.sipush 255) 3 29 := by decide +kernel
theorem d57_29 : Dc b57 29 (.if_icmp .le 6) 3 32 := by decide +kernel
theorem d57_32 : Dc b57 32 (.iload 5) 2 34 := by decide +kernel
theorem d57_34 : Dc b57 34 (.ireturn) 1 35 := by decide +kernel
theorem d57_35 : Dc b57 35 (.aload_n 2) 1 36 := by decide +kernel
theorem d57_36 : Dc b57 36 (.iload_n 3) 1 37 := by decide +kernel
theorem d57_37 : Dc b57 37 (.iload 6) 2 39 := by decide +kernel
theorem d57_39 : Dc b57 39 (.i2b) 1 40 := by decide +kernel
theorem d57_40 : Dc b57 40 (.bastore) 1 41 := by decide +kernel
theorem d57_41 : Dc b57 41 (.iinc 1 1) 3 44 := by decide +kernel
theorem d57_44 : Dc b57 44 (.iinc 3 1) 3 47 := by decide +kernel
theorem d57_47 : Dc b57 47 (.iinc 5 1) 3 50 := by decide +kernel
theorem d57_50 : Dc b57 50 (.goto (-40)) 3 53 := by decide +kernel
theorem d57_53 : Dc b57 53 (.iload 4) 2 55 := by decide +kernel
theorem d57_55 : Dc b57 55 (.ireturn) 1 56 := by decide +kernel
abbrev b56 := jdk_52_method_17_code
theorem d56_0 : Dc b56 0 (.iload_n 2) 1 1 := by decide +kernel
theorem d56_1 : Dc b56 1 (.newarray .byte) 2 3 := by decide +kernel
theorem d56_3 : Dc b56 3 (.astore_n 3) 1 4 := by decide +kernel
theorem d56_4 : Dc b56 4 (.aload_n 0) 1 5 := by decide +kernel
theorem d56_5 : Dc b56 5 (.iload_n 1) 1 6 := by decide +kernel
theorem d56_6 : Dc b56 6 (.aload_n 3) 1 7 := by decide +kernel
theorem d56_7 : Dc b56 7 (.iconst 0) 1 8 := by decide +kernel
theorem d56_8 : Dc b56 8 (.iload_n 2) 1 9 := by decide +kernel
theorem d56_9 : Dc b56 9 (.invokestatic 123) 3 12 := by decide +kernel
theorem d56_12 : Dc b56 12 (.istore 4) 2 14 := by decide +kernel
theorem d56_14 : Dc b56 14 (.iload 4) 2 16 := by decide +kernel
theorem d56_16 : Dc b56 16 (.iload_n 2) 1 17 := by decide +kernel
theorem d56_17 : Dc b56 17 (.if_icmp .eq 47) 3 20 := by decide +kernel
theorem d56_20 : Dc b56 20 (.aload_n 0) 1 21 := by decide +kernel
theorem d56_21 : Dc b56 21 (.iload_n 1) 1 22 := by decide +kernel
theorem d56_22 : Dc b56 22 (.iconst 1) 1 23 := by decide +kernel
theorem d56_23 : Dc b56 23 (.ishl) 1 24 := by decide +kernel
theorem d56_24 : Dc b56 24 (.iload_n 1) 1 25 := by decide +kernel
theorem d56_25 : Dc b56 25 (.iload_n 2) 1 26 := by decide +kernel
theorem d56_26 : Dc b56 26 (.iadd) 1 27 := by decide +kernel
theorem d56_27 : Dc b56 27 (.invokestatic 11) 3 30 := by decide +kernel
theorem d56_30 : Dc b56 30 (.invokestatic 126) 3 33 := by decide +kernel
theorem d56_33 : Dc b56 33 (.astore 5) 2 35 := by decide +kernel
theorem d56_35 : Dc b56 35 (.aload 5) 2 37 := by decide +kernel
theorem d56_37 : Dc b56 37 (.iload 4) 2 39 := by decide +kernel
theorem d56_39 : Dc b56 39 (.invokestatic 71) 3 42 := by decide +kernel
theorem d56_42 : Dc b56 42 (.sipush 255) 3 45 := by decide +kernel
theorem d56_45 : Dc b56 45 (.if_icmp .gt 16) 3 48 := by decide +kernel
theorem d56_61 : Dc b56 61 (.aload 5) 2 63 := by decide +kernel
theorem d56_63 : Dc b56 63 (.areturn) 1 64 := by decide +kernel
theorem d56_64 : Dc b56 64 (.aload_n 3) 1 65 := by decide +kernel
theorem d56_65 : Dc b56 65 (.areturn) 1 66 := by decide +kernel
abbrev b76 := jdk_43_method_47_code
theorem d76_0 : Dc b76 0 (.iload_n 2) 1 1 := by decide +kernel
theorem d76_1 : Dc b76 1 (.ifCond .ne 6) 3 4 := by decide +kernel
theorem d76_4 : Dc b76 4 (.ldc 151) 2 6 := by decide +kernel
theorem d76_6 : Dc b76 6 (.areturn) 1 7 := by decide +kernel
theorem d76_7 : Dc b76 7 (.new 1) 3 10 := by decide +kernel
theorem d76_10 : Dc b76 10 (.dup) 1 11 := by decide +kernel
theorem d76_11 : Dc b76 11 (.aload_n 0) 1 12 := by decide +kernel
theorem d76_12 : Dc b76 12 (.iload_n 1) 1 13 := by decide +kernel
theorem d76_13 : Dc b76 13 (.iload_n 1) 1 14 := by decide +kernel
theorem d76_14 : Dc b76 14 (.iload_n 2) 1 15 := by decide +kernel
theorem d76_15 : Dc b76 15 (.iadd) 1 16 := by decide +kernel
theorem d76_16 : Dc b76 16 (.invokestatic 232) 3 19 := by decide +kernel
theorem d76_19 : Dc b76 19 (.iconst 0) 1 20 := by decide +kernel
theorem d76_20 : Dc b76 20 (.invokespecial 112) 3 23 := by decide +kernel
theorem d76_23 : Dc b76 23 (.areturn) 1 24 := by decide +kernel
abbrev b55 := jdk_52_method_69_code
theorem d55_0 : Dc b55 0 (.iload_n 2) 1 1 := by decide +kernel
theorem d55_1 : Dc b55 1 (.ifCond .ne 7) 3 4 := by decide +kernel
theorem d55_4 : Dc b55 4 (.ldc_w 295) 3 7 := by decide +kernel
theorem d55_7 : Dc b55 7 (.areturn) 1 8 := by decide +kernel
theorem d55_8 : Dc b55 8 (.getstatic 251) 3 11 := by decide +kernel
theorem d55_11 : Dc b55 11 (.ifCond .eq 28) 3 14 := by decide +kernel
theorem d55_14 : Dc b55 14 (.aload_n 0) 1 15 := by decide +kernel
theorem d55_15 : Dc b55 15 (.iload_n 1) 1 16 := by decide +kernel
theorem d55_16 : Dc b55 16 (.iload_n 2) 1 17 := by decide +kernel
theorem d55_17 : Dc b55 17 (.invokestatic 257) 3 20 := by decide +kernel
theorem d55_20 : Dc b55 20 (.astore_n 3) 1 21 := by decide +kernel
theorem d55_21 : Dc b55 21 (.aload_n 3) 1 22 := by decide +kernel
theorem d55_22 : Dc b55 22 (.iload_n 2) 1 23 := by decide +kernel
theorem d55_23 : Dc b55 23 (.invokestatic 259) 3 26 := by decide +kernel
theorem d55_26 : Dc b55 26 (.istore 4) 2 28 := by decide +kernel
theorem d55_28 : Dc b55 28 (.new 3) 3 31 := by decide +kernel
theorem d55_31 : Dc b55 31 (.dup) 1 32 := by decide +kernel
theorem d55_32 : Dc b55 32 (.aload_n 3) 1 33 := by decide +kernel
theorem d55_33 : Dc b55 33 (.iload 4) 2 35 := by decide +kernel
theorem d55_35 : Dc b55 35 (.invokespecial 263) 3 38 := by decide +kernel
theorem d55_38 : Dc b55 38 (.areturn) 1 39 := by decide +kernel
abbrev b52 := jdk_42_method_92_code
theorem d52_0 : Dc b52 0 (.aload_n 0) 1 1 := by decide +kernel
theorem d52_1 : Dc b52 1 (.invokevirtual 505) 3 4 := by decide +kernel
theorem d52_4 : Dc b52 4 (.istore_n 3) 1 5 := by decide +kernel
theorem d52_5 : Dc b52 5 (.iload_n 1) 1 6 := by decide +kernel
theorem d52_6 : Dc b52 6 (.iload_n 2) 1 7 := by decide +kernel
theorem d52_7 : Dc b52 7 (.iload_n 3) 1 8 := by decide +kernel
theorem d52_8 : Dc b52 8 (.invokestatic 521) 3 11 := by decide +kernel
theorem d52_11 : Dc b52 11 (.iload_n 1) 1 12 := by decide +kernel
theorem d52_12 : Dc b52 12 (.ifCond .ne 10) 3 15 := by decide +kernel
theorem d52_15 : Dc b52 15 (.iload_n 2) 1 16 := by decide +kernel
theorem d52_16 : Dc b52 16 (.iload_n 3) 1 17 := by decide +kernel
theorem d52_17 : Dc b52 17 (.if_icmp .ne 5) 3 20 := by decide +kernel
theorem d52_20 : Dc b52 20 (.aload_n 0) 1 21 := by decide +kernel
theorem d52_21 : Dc b52 21 (.areturn) 1 22 := by decide +kernel
theorem d52_22 : Dc b52 22 (.iload_n 2) 1 23 := by decide +kernel
theorem d52_23 : Dc b52 23 (.iload_n 1) 1 24 := by decide +kernel
theorem d52_24 : Dc b52 24 (.isub) 1 25 := by decide +kernel
theorem d52_25 : Dc b52 25 (.istore 4) 2 27 := by decide +kernel
theorem d52_27 : Dc b52 27 (.aload_n 0) 1 28 := by decide +kernel
theorem d52_28 : Dc b52 28 (.invokevirtual 492) 3 31 := by decide +kernel
theorem d52_31 : Dc b52 31 (.ifCond .eq 16) 3 34 := by decide +kernel
theorem d52_34 : Dc b52 34 (.aload_n 0) 1 35 := by decide +kernel
theorem d52_35 : Dc b52 35 (.getfield 9) 3 38 := by decide +kernel
theorem d52_38 : Dc b52 38 (.iload_n 1) 1 39 := by decide +kernel
theorem d52_39 : Dc b52 39 (.iload 4) 2 41 := by decide +kernel
theorem d52_41 : Dc b52 41 (.invokestatic 685) 3 44 := by decide +kernel
theorem d52_44 : Dc b52 44 (.goto 13) 3 47 := by decide +kernel
theorem d52_47 : Dc b52 47 (.aload_n 0) 1 48 := by decide +kernel
theorem d52_48 : Dc b52 48 (.getfield 9) 3 51 := by decide +kernel
theorem d52_51 : Dc b52 51 (.iload_n 1) 1 52 := by decide +kernel
theorem d52_52 : Dc b52 52 (.iload 4) 2 54 := by decide +kernel
theorem d52_54 : Dc b52 54 (.invokestatic 689) 3 57 := by decide +kernel
theorem d52_57 : Dc b52 57 (.areturn) 1 58 := by decide +kernel
abbrev b32 := jdk_67_method_1_code
theorem d32_0 : Dc b32 0 (.aload_n 0) 1 1 := by decide +kernel
theorem d32_1 : Dc b32 1 (.bipush 16) 2 3 := by decide +kernel
theorem d32_3 : Dc b32 3 (.invokespecial 1) 3 6 := by decide +kernel
theorem d32_6 : Dc b32 6 (.return_) 1 7 := by decide +kernel
abbrev b34 := prog_5_method_6_code
theorem d34_0 : Dc b34 0 (.iconst 0) 1 1 := by decide +kernel
theorem d34_1 : Dc b34 1 (.istore_n 2) 1 2 := by decide +kernel
theorem d34_2 : Dc b34 2 (.iconst 0) 1 3 := by decide +kernel
theorem d34_3 : Dc b34 3 (.istore_n 3) 1 4 := by decide +kernel
theorem d34_4 : Dc b34 4 (.iload_n 2) 1 5 := by decide +kernel
theorem d34_5 : Dc b34 5 (.aload_n 0) 1 6 := by decide +kernel
theorem d34_6 : Dc b34 6 (.invokevirtual 87) 3 9 := by decide +kernel
theorem d34_9 : Dc b34 9 (.if_icmp .ge 40) 3 12 := by decide +kernel
theorem d34_12 : Dc b34 12 (.aload_n 0) 1 13 := by decide +kernel
theorem d34_13 : Dc b34 13 (.iload_n 2) 1 14 := by decide +kernel
theorem d34_14 : Dc b34 14 (.invokevirtual 91) 3 17 := by decide +kernel
theorem d34_17 : Dc b34 17 (.istore 4) 2 19 := by decide +kernel
theorem d34_19 : Dc b34 19 (.iload_n 3) 1 20 := by decide +kernel
theorem d34_20 : Dc b34 20 (.iload 4) 2 22 := by decide +kernel
theorem d34_22 : Dc b34 22 (.invokestatic 95) 3 25 := by decide +kernel
theorem d34_25 : Dc b34 25 (.invokestatic 46) 3 28 := by decide +kernel
theorem d34_28 : Dc b34 28 (.iadd) 1 29 := by decide +kernel
theorem d34_29 : Dc b34 29 (.istore_n 3) 1 30 := by decide +kernel
theorem d34_30 : Dc b34 30 (.iload_n 3) 1 31 := by decide +kernel
theorem d34_31 : Dc b34 31 (.iload_n 1) 1 32 := by decide +kernel
theorem d34_32 : Dc b34 32 (.if_icmp .le 6) 3 35 := by decide +kernel
theorem d34_35 : Dc b34 35 (.goto 14) 3 38 := by decide +kernel
theorem d34_38 : Dc b34 38 (.iload_n 2) 1 39 := by decide +kernel
theorem d34_39 : Dc b34 39 (.iload 4) 2 41 := by decide +kernel
theorem d34_41 : Dc b34 41 (.invokestatic 100) 3 44 := by decide +kernel
theorem d34_44 : Dc b34 44 (.iadd) 1 45 := by decide +kernel
theorem d34_45 : Dc b34 45 (.istore_n 2) 1 46 := by decide +kernel
theorem d34_46 : Dc b34 46 (.goto (-42)) 3 49 := by decide +kernel
theorem d34_49 : Dc b34 49 (.aload_n 0) 1 50 := by decide +kernel
theorem d34_50 : Dc b34 50 (.iconst 0) 1 51 := by decide +kernel
theorem d34_51 : Dc b34 51 (.iload_n 2) 1 52 := by decide +kernel
theorem d34_52 : Dc b34 52 (.invokevirtual 103) 3 55 := by decide +kernel
theorem d34_55 : Dc b34 55 (.areturn) 1 56 := by decide +kernel
abbrev b17 := prog_5_method_5_code
theorem d17_0 : Dc b17 0 (.bipush 63) 2 2 := by decide +kernel
theorem d17_2 : Dc b17 2 (.aload_n 2) 1 3 := by decide +kernel
theorem d17_3 : Dc b17 3 (.invokestatic 46) 3 6 := by decide +kernel
theorem d17_6 : Dc b17 6 (.isub) 1 7 := by decide +kernel
theorem d17_7 : Dc b17 7 (.iconst 2) 1 8 := by decide +kernel
theorem d17_8 : Dc b17 8 (.isub) 1 9 := by decide +kernel
theorem d17_9 : Dc b17 9 (.istore_n 3) 1 10 := by decide +kernel
theorem d17_10 : Dc b17 10 (.aload_n 0) 1 11 := by decide +kernel
theorem d17_11 : Dc b17 11 (.invokestatic 46) 3 14 := by decide +kernel
theorem d17_14 : Dc b17 14 (.istore 4) 2 16 := by decide +kernel
theorem d17_16 : Dc b17 16 (.aload_n 1) 1 17 := by decide +kernel
theorem d17_17 : Dc b17 17 (.invokestatic 46) 3 20 := by decide +kernel
theorem d17_20 : Dc b17 20 (.istore 5) 2 22 := by decide +kernel
theorem d17_22 : Dc b17 22 (.iload 4) 2 24 := by decide +kernel
theorem d17_24 : Dc b17 24 (.iload 5) 2 26 := by decide +kernel
theorem d17_26 : Dc b17 26 (.iadd) 1 27 := by decide +kernel
theorem d17_27 : Dc b17 27 (.iload_n 3) 1 28 := by decide +kernel
theorem d17_28 : Dc b17 28 (.if_icmp .le 22) 3 31 := by decide +kernel
theorem d17_31 : Dc b17 31 (.iload 4) 2 33 := by decide +kernel
theorem d17_33 : Dc b17 33 (.iload 5) 2 35 := by decide +kernel
theorem d17_35 : Dc b17 35 (.if_icmp .le 9) 3 38 := by decide +kernel
theorem d17_38 : Dc b17 38 (.iinc 4 (-1)) 3 41 := by decide +kernel
theorem d17_41 : Dc b17 41 (.goto (-19)) 3 44 := by decide +kernel
theorem d17_44 : Dc b17 44 (.iinc 5 (-1)) 3 47 := by decide +kernel
theorem d17_47 : Dc b17 47 (.goto (-25)) 3 50 := by decide +kernel
theorem d17_50 : Dc b17 50 (.new 33) 3 53 := by decide +kernel
theorem d17_53 : Dc b17 53 (.dup) 1 54 := by decide +kernel
theorem d17_54 : Dc b17 54 (.invokespecial 35) 3 57 := by decide +kernel
theorem d17_57 : Dc b17 57 (.aload_n 0) 1 58 := by decide +kernel
theorem d17_58 : Dc b17 58 (.iload 4) 2 60 := by decide +kernel
theorem d17_60 : Dc b17 60 (.invokestatic 21) 3 63 := by decide +kernel
theorem d17_63 : Dc b17 63 (.invokevirtual 36) 3 66 := by decide +kernel
theorem d17_66 : Dc b17 66 (.ldc 40) 2 68 := by decide +kernel
theorem d17_68 : Dc b17 68 (.invokevirtual 36) 3 71 := by decide +kernel
theorem d17_71 : Dc b17 71 (.aload_n 1) 1 72 := by decide +kernel
theorem d17_72 : Dc b17 72 (.iload 5) 2 74 := by decide +kernel
theorem d17_74 : Dc b17 74 (.invokestatic 21) 3 77 := by decide +kernel
theorem d17_77 : Dc b17 77 (.invokevirtual 36) 3 80 := by decide +kernel
theorem d17_80 : Dc b17 80 (.ldc 40) 2 82 := by decide +kernel
theorem d17_82 : Dc b17 82 (.invokevirtual 36) 3 85 := by decide +kernel
theorem d17_85 : Dc b17 85 (.aload_n 2) 1 86 := by decide +kernel
theorem d17_86 : Dc b17 86 (.invokevirtual 36) 3 89 := by decide +kernel
theorem d17_89 : Dc b17 89 (.invokevirtual 42) 3 92 := by decide +kernel
theorem d17_92 : Dc b17 92 (.areturn) 1 93 := by decide +kernel
abbrev b3 := method_3_code
theorem d3_0 : Dc b3 0 (.iload_n 0) 1 1 := by decide +kernel
theorem d3_1 : Dc b3 1 (.iconst 3) 1 2 := by decide +kernel
theorem d3_2 : Dc b3 2 (.iand) 1 3 := by decide +kernel
theorem d3_3 : Dc b3 3 (.istore_n 1) 1 4 := by decide +kernel
theorem d3_4 : Dc b3 4 (.iload_n 0) 1 5 := by decide +kernel
theorem d3_5 : Dc b3 5 (.iconst 2) 1 6 := by decide +kernel
theorem d3_6 : Dc b3 6 (.iushr) 1 7 := by decide +kernel
theorem d3_7 : Dc b3 7 (.istore_n 2) 1 8 := by decide +kernel
theorem d3_8 : Dc b3 8 (.iload_n 1) 1 9 := by decide +kernel
theorem d3_9 : Dc b3 9 (.ifCond .ne 8) 3 12 := by decide +kernel
theorem d3_12 : Dc b3 12 (.iload_n 2) 1 13 := by decide +kernel
theorem d3_13 : Dc b3 13 (.bipush 127) 2 15 := by decide +kernel
theorem d3_15 : Dc b3 15 (.iand) 1 16 := by decide +kernel
theorem d3_16 : Dc b3 16 (.ireturn) 1 17 := by decide +kernel
theorem d3_17 : Dc b3 17 (.iload_n 1) 1 18 := by decide +kernel
theorem d3_18 : Dc b3 18 (.iconst 1) 1 19 := by decide +kernel
theorem d3_19 : Dc b3 19 (.if_icmp .ne 13) 3 22 := by decide +kernel
theorem d3_22 : Dc b3 22 (.sipush 128) 3 25 := by decide +kernel
theorem d3_25 : Dc b3 25 (.iload_n 2) 1 26 := by decide +kernel
theorem d3_26 : Dc b3 26 (.sipush 1920) 3 29 := by decide +kernel
theorem d3_29 : Dc b3 29 (.irem) 1 30 := by decide +kernel
theorem d3_30 : Dc b3 30 (.iadd) 1 31 := by decide +kernel
theorem d3_31 : Dc b3 31 (.ireturn) 1 32 := by decide +kernel
theorem d3_32 : Dc b3 32 (.iload_n 1) 1 33 := by decide +kernel
theorem d3_33 : Dc b3 33 (.iconst 2) 1 34 := by decide +kernel
theorem d3_34 : Dc b3 34 (.if_icmp .ne 26) 3 37 := by decide +kernel
theorem d3_37 : Dc b3 37 (.sipush 2048) 3 40 := by decide +kernel
theorem d3_40 : Dc b3 40 (.iload_n 2) 1 41 := by decide +kernel
theorem d3_41 : Dc b3 41 (.ldc 47) 2 43 := by decide +kernel
theorem d3_43 : Dc b3 43 (.irem) 1 44 := by decide +kernel
theorem d3_44 : Dc b3 44 (.iadd) 1 45 := by decide +kernel
theorem d3_45 : Dc b3 45 (.istore_n 3) 1 46 := by decide +kernel
theorem d3_46 : Dc b3 46 (.iload_n 3) 1 47 := by decide +kernel
theorem d3_47 : Dc b3 47 (.ldc 48) 2 49 := by decide +kernel
theorem d3_49 : Dc b3 49 (.if_icmp .lt 9) 3 52 := by decide +kernel
theorem d3_52 : Dc b3 52 (.iload_n 3) 1 53 := by decide +kernel
theorem d3_53 : Dc b3 53 (.sipush 2048) 3 56 := by decide +kernel
theorem d3_56 : Dc b3 56 (.iadd) 1 57 := by decide +kernel
theorem d3_57 : Dc b3 57 (.istore_n 3) 1 58 := by decide +kernel
theorem d3_58 : Dc b3 58 (.iload_n 3) 1 59 := by decide +kernel
theorem d3_59 : Dc b3 59 (.ireturn) 1 60 := by decide +kernel
theorem d3_60 : Dc b3 60 (.ldc 49) 2 62 := by decide +kernel
theorem d3_62 : Dc b3 62 (.iload_n 2) 1 63 := by decide +kernel
theorem d3_63 : Dc b3 63 (.ldc 50) 2 65 := by decide +kernel
theorem d3_65 : Dc b3 65 (.irem) 1 66 := by decide +kernel
theorem d3_66 : Dc b3 66 (.iadd) 1 67 := by decide +kernel
theorem d3_67 : Dc b3 67 (.ireturn) 1 68 := by decide +kernel
abbrev b2 := method_6_code
theorem d2_0 : Dc b2 0 (.iload_n 0) 1 1 := by decide +kernel
theorem d2_1 : Dc b2 1 (.invokestatic 51) 3 4 := by decide +kernel
theorem d2_4 : Dc b2 4 (.istore_n 1) 1 5 := by decide +kernel
theorem d2_5 : Dc b2 5 (.iload_n 0) 1 6 := by decide +kernel
theorem d2_6 : Dc b2 6 (.iconst 3) 1 7 := by decide +kernel
theorem d2_7 : Dc b2 7 (.iand) 1 8 := by decide +kernel
theorem d2_8 : Dc b2 8 (.iconst 3) 1 9 := by decide +kernel
theorem d2_9 : Dc b2 9 (.if_icmp .ne 15) 3 12 := by decide +kernel
theorem d2_12 : Dc b2 12 (.ldc 48) 2 14 := by decide +kernel
theorem d2_14 : Dc b2 14 (.iload_n 1) 1 15 := by decide +kernel
theorem d2_15 : Dc b2 15 (.ldc 49) 2 17 := by decide +kernel
theorem d2_17 : Dc b2 17 (.isub) 1 18 := by decide +kernel
theorem d2_18 : Dc b2 18 (.bipush 10) 2 20 := by decide +kernel
theorem d2_20 : Dc b2 20 (.iushr) 1 21 := by decide +kernel
theorem d2_21 : Dc b2 21 (.iadd) 1 22 := by decide +kernel
theorem d2_22 : Dc b2 22 (.i2c) 1 23 := by decide +kernel
theorem d2_23 : Dc b2 23 (.ireturn) 1 24 := by decide +kernel
theorem d2_24 : Dc b2 24 (.iload_n 1) 1 25 := by decide +kernel
theorem d2_25 : Dc b2 25 (.i2c) 1 26 := by decide +kernel
theorem d2_26 : Dc b2 26 (.ireturn) 1 27 := by decide +kernel
abbrev b4 := method_7_code
theorem d4_0 : Dc b4 0 (.iload_n 0) 1 1 := by decide +kernel
theorem d4_1 : Dc b4 1 (.invokestatic 51) 3 4 := by decide +kernel
theorem d4_4 : Dc b4 4 (.istore_n 1) 1 5 := by decide +kernel
theorem d4_5 : Dc b4 5 (.iload_n 0) 1 6 := by decide +kernel
theorem d4_6 : Dc b4 6 (.iconst 3) 1 7 := by decide +kernel
theorem d4_7 : Dc b4 7 (.iand) 1 8 := by decide +kernel
theorem d4_8 : Dc b4 8 (.iconst 3) 1 9 := by decide +kernel
theorem d4_9 : Dc b4 9 (.if_icmp .ne 16) 3 12 := by decide +kernel
theorem d4_12 : Dc b4 12 (.ldc 55) 2 14 := by decide +kernel
theorem d4_14 : Dc b4 14 (.iload_n 1) 1 15 := by decide +kernel
theorem d4_15 : Dc b4 15 (.ldc 49) 2 17 := by decide +kernel
theorem d4_17 : Dc b4 17 (.isub) 1 18 := by decide +kernel
theorem d4_18 : Dc b4 18 (.sipush 1023) 3 21 := by decide +kernel
theorem d4_21 : Dc b4 21 (.iand) 1 22 := by decide +kernel
theorem d4_22 : Dc b4 22 (.iadd) 1 23 := by decide +kernel
theorem d4_23 : Dc b4 23 (.i2c) 1 24 := by decide +kernel
theorem d4_24 : Dc b4 24 (.ireturn) 1 25 := by decide +kernel
theorem d4_25 : Dc b4 25 (.iload_n 1) 1 26 := by decide +kernel
theorem d4_26 : Dc b4 26 (.i2c) 1 27 := by decide +kernel
theorem d4_27 : Dc b4 27 (.ireturn) 1 28 := by decide +kernel
abbrev b87 := method_5_code
theorem d87_0 : Dc b87 0 (.iload_n 0) 1 1 := by decide +kernel
theorem d87_1 : Dc b87 1 (.iconst 3) 1 2 := by decide +kernel
theorem d87_2 : Dc b87 2 (.iand) 1 3 := by decide +kernel
theorem d87_3 : Dc b87 3 (.iconst 3) 1 4 := by decide +kernel
theorem d87_4 : Dc b87 4 (.if_icmp .ne 7) 3 7 := by decide +kernel
theorem d87_7 : Dc b87 7 (.iconst 2) 1 8 := by decide +kernel
theorem d87_8 : Dc b87 8 (.goto 4) 3 11 := by decide +kernel
theorem d87_11 : Dc b87 11 (.iconst 1) 1 12 := by decide +kernel
theorem d87_12 : Dc b87 12 (.ireturn) 1 13 := by decide +kernel
abbrev b88 := method_4_code
theorem d88_0 : Dc b88 0 (.iload_n 0) 1 1 := by decide +kernel
theorem d88_1 : Dc b88 1 (.iconst 3) 1 2 := by decide +kernel
theorem d88_2 : Dc b88 2 (.iand) 1 3 := by decide +kernel
theorem d88_3 : Dc b88 3 (.iconst 1) 1 4 := by decide +kernel
theorem d88_4 : Dc b88 4 (.iadd) 1 5 := by decide +kernel
theorem d88_5 : Dc b88 5 (.ireturn) 1 6 := by decide +kernel
abbrev b86 := method_8_code
theorem d86_0 : Dc b86 0 (.iload_n 2) 1 1 := by decide +kernel
theorem d86_1 : Dc b86 1 (.iload_n 0) 1 2 := by decide +kernel
theorem d86_2 : Dc b86 2 (.invokestatic 56) 3 5 := by decide +kernel
theorem d86_5 : Dc b86 5 (.idiv) 1 6 := by decide +kernel
theorem d86_6 : Dc b86 6 (.iload_n 0) 1 7 := by decide +kernel
theorem d86_7 : Dc b86 7 (.invokestatic 59) 3 10 := by decide +kernel
theorem d86_10 : Dc b86 10 (.imul) 1 11 := by decide +kernel
theorem d86_11 : Dc b86 11 (.iload_n 3) 1 12 := by decide +kernel
theorem d86_12 : Dc b86 12 (.iload_n 2) 1 13 := by decide +kernel
theorem d86_13 : Dc b86 13 (.isub) 1 14 := by decide +kernel
theorem d86_14 : Dc b86 14 (.iload_n 1) 1 15 := by decide +kernel
theorem d86_15 : Dc b86 15 (.invokestatic 56) 3 18 := by decide +kernel
theorem d86_18 : Dc b86 18 (.idiv) 1 19 := by decide +kernel
theorem d86_19 : Dc b86 19 (.iload_n 1) 1 20 := by decide +kernel
theorem d86_20 : Dc b86 20 (.invokestatic 59) 3 23 := by decide +kernel
theorem d86_23 : Dc b86 23 (.imul) 1 24 := by decide +kernel
theorem d86_24 : Dc b86 24 (.iadd) 1 25 := by decide +kernel
theorem d86_25 : Dc b86 25 (.ireturn) 1 26 := by decide +kernel
abbrev b89 := method_9_code
theorem d89_0 : Dc b89 0 (.iload 4) 2 2 := by decide +kernel
theorem d89_2 : Dc b89 2 (.ifCond .ge 5) 3 5 := by decide +kernel
theorem d89_5 : Dc b89 5 (.iconst 0) 1 6 := by decide +kernel
theorem d89_6 : Dc b89 6 (.ireturn) 1 7 := by decide +kernel
theorem d89_7 : Dc b89 7 (.iload_n 2) 1 8 := by decide +kernel
theorem d89_8 : Dc b89 8 (.iload_n 0) 1 9 := by decide +kernel
theorem d89_9 : Dc b89 9 (.invokestatic 56) 3 12 := by decide +kernel
theorem d89_12 : Dc b89 12 (.idiv) 1 13 := by decide +kernel
theorem d89_13 : Dc b89 13 (.iload_n 0) 1 14 := by decide +kernel
theorem d89_14 : Dc b89 14 (.invokestatic 59) 3 17 := by decide +kernel
theorem d89_17 : Dc b89 17 (.imul) 1 18 := by decide +kernel
theorem d89_18 : Dc b89 18 (.istore 5) 2 20 := by decide +kernel
theorem d89_20 : Dc b89 20 (.iload 4) 2 22 := by decide +kernel
theorem d89_22 : Dc b89 22 (.iload 5) 2 24 := by decide +kernel
theorem d89_24 : Dc b89 24 (.if_icmp .ge 16) 3 27 := by decide +kernel
theorem d89_27 : Dc b89 27 (.iload_n 0) 1 28 := by decide +kernel
theorem d89_28 : Dc b89 28 (.invokestatic 56) 3 31 := by decide +kernel
theorem d89_31 : Dc b89 31 (.iload 4) 2 33 := by decide +kernel
theorem d89_33 : Dc b89 33 (.iload_n 0) 1 34 := by decide +kernel
theorem d89_34 : Dc b89 34 (.invokestatic 59) 3 37 := by decide +kernel
theorem d89_37 : Dc b89 37 (.idiv) 1 38 := by decide +kernel
theorem d89_38 : Dc b89 38 (.imul) 1 39 := by decide +kernel
theorem d89_39 : Dc b89 39 (.ireturn) 1 40 := by decide +kernel
theorem d89_40 : Dc b89 40 (.iload_n 2) 1 41 := by decide +kernel
theorem d89_41 : Dc b89 41 (.iload_n 1) 1 42 := by decide +kernel
theorem d89_42 : Dc b89 42 (.invokestatic 56) 3 45 := by decide +kernel
theorem d89_45 : Dc b89 45 (.iload_n 3) 1 46 := by decide +kernel
theorem d89_46 : Dc b89 46 (.iload_n 2) 1 47 := by decide +kernel
theorem d89_47 : Dc b89 47 (.isub) 1 48 := by decide +kernel
theorem d89_48 : Dc b89 48 (.iload_n 1) 1 49 := by decide +kernel
theorem d89_49 : Dc b89 49 (.invokestatic 56) 3 52 := by decide +kernel
theorem d89_52 : Dc b89 52 (.idiv) 1 53 := by decide +kernel
theorem d89_53 : Dc b89 53 (.iload 4) 2 55 := by decide +kernel
theorem d89_55 : Dc b89 55 (.iload 5) 2 57 := by decide +kernel
theorem d89_57 : Dc b89 57 (.isub) 1 58 := by decide +kernel
theorem d89_58 : Dc b89 58 (.iload_n 1) 1 59 := by decide +kernel
theorem d89_59 : Dc b89 59 (.invokestatic 59) 3 62 := by decide +kernel
theorem d89_62 : Dc b89 62 (.idiv) 1 63 := by decide +kernel
theorem d89_63 : Dc b89 63 (.invokestatic 62) 3 66 := by decide +kernel
theorem d89_66 : Dc b89 66 (.imul) 1 67 := by decide +kernel
theorem d89_67 : Dc b89 67 (.iadd) 1 68 := by decide +kernel
theorem d89_68 : Dc b89 68 (.ireturn) 1 69 := by decide +kernel
abbrev b1 := method_10_code
theorem d1_0 : Dc b1 0 (.iload_n 0) 1 1 := by decide +kernel
theorem d1_1 : Dc b1 1 (.invokestatic 68) 3 4 := by decide +kernel
theorem d1_4 : Dc b1 4 (.istore_n 3) 1 5 := by decide +kernel
theorem d1_5 : Dc b1 5 (.iload_n 0) 1 6 := by decide +kernel
theorem d1_6 : Dc b1 6 (.invokestatic 71) 3 9 := by decide +kernel
theorem d1_9 : Dc b1 9 (.istore 4) 2 11 := by decide +kernel
theorem d1_11 : Dc b1 11 (.iload_n 1) 1 12 := by decide +kernel
theorem d1_12 : Dc b1 12 (.invokestatic 68) 3 15 := by decide +kernel
theorem d1_15 : Dc b1 15 (.istore 5) 2 17 := by decide +kernel
theorem d1_17 : Dc b1 17 (.iload_n 1) 1 18 := by decide +kernel
theorem d1_18 : Dc b1 18 (.invokestatic 71) 3 21 := by decide +kernel
theorem d1_21 : Dc b1 21 (.istore 6) 2 23 := by decide +kernel
theorem d1_23 : Dc b1 23 (.bipush 12) 2 25 := by decide +kernel
theorem d1_25 : Dc b1 25 (.newarray .char) 2 27 := by decide +kernel
theorem d1_27 : Dc b1 27 (.astore 7) 2 29 := by decide +kernel
theorem d1_29 : Dc b1 29 (.aload 7) 2 31 := by decide +kernel
theorem d1_31 : Dc b1 31 (.iconst 0) 1 32 := by decide +kernel
theorem d1_32 : Dc b1 32 (.iconst 0) 1 33 := by decide +kernel
theorem d1_33 : Dc b1 33 (.iload_n 2) 1 34 := by decide +kernel
theorem d1_34 : Dc b1 34 (.if_icmp .ge 7) 3 37 := by decide +kernel
theorem d1_37 : Dc b1 37 (.iload_n 3) 1 38 := by decide +kernel
theorem d1_38 : Dc b1 38 (.goto 5) 3 41 := by decide +kernel
theorem d1_41 : Dc b1 41 (.iload 5) 2 43 := by decide +kernel
theorem d1_43 : Dc b1 43 (.castore) 1 44 := by decide +kernel
theorem d1_44 : Dc b1 44 (.aload 7) 2 46 := by decide +kernel
theorem d1_46 : Dc b1 46 (.iconst 1) 1 47 := by decide +kernel
theorem d1_47 : Dc b1 47 (.iconst 1) 1 48 := by decide +kernel
theorem d1_48 : Dc b1 48 (.iload_n 2) 1 49 := by decide +kernel
theorem d1_49 : Dc b1 49 (.if_icmp .ge 8) 3 52 := by decide +kernel
theorem d1_52 : Dc b1 52 (.iload 4) 2 54 := by decide +kernel
theorem d1_54 : Dc b1 54 (.goto 5) 3 57 := by decide +kernel
theorem d1_57 : Dc b1 57 (.iload 6) 2 59 := by decide +kernel
theorem d1_59 : Dc b1 59 (.castore) 1 60 := by decide +kernel
theorem d1_60 : Dc b1 60 (.aload 7) 2 62 := by decide +kernel
theorem d1_62 : Dc b1 62 (.iconst 2) 1 63 := by decide +kernel
theorem d1_63 : Dc b1 63 (.iconst 2) 1 64 := by decide +kernel
theorem d1_64 : Dc b1 64 (.iload_n 2) 1 65 := by decide +kernel
theorem d1_65 : Dc b1 65 (.if_icmp .ge 7) 3 68 := by decide +kernel
theorem d1_68 : Dc b1 68 (.iload_n 3) 1 69 := by decide +kernel
theorem d1_69 : Dc b1 69 (.goto 5) 3 72 := by decide +kernel
theorem d1_72 : Dc b1 72 (.iload 5) 2 74 := by decide +kernel
theorem d1_74 : Dc b1 74 (.castore) 1 75 := by decide +kernel
theorem d1_75 : Dc b1 75 (.aload 7) 2 77 := by decide +kernel
theorem d1_77 : Dc b1 77 (.iconst 3) 1 78 := by decide +kernel
theorem d1_78 : Dc b1 78 (.iconst 3) 1 79 := by decide +kernel
theorem d1_79 : Dc b1 79 (.iload_n 2) 1 80 := by decide +kernel
theorem d1_80 : Dc b1 80 (.if_icmp .ge 8) 3 83 := by decide +kernel
theorem d1_83 : Dc b1 83 (.iload 4) 2 85 := by decide +kernel
theorem d1_85 : Dc b1 85 (.goto 5) 3 88 := by decide +kernel
theorem d1_88 : Dc b1 88 (.iload 6) 2 90 := by decide +kernel
theorem d1_90 : Dc b1 90 (.castore) 1 91 := by decide +kernel
theorem d1_91 : Dc b1 91 (.aload 7) 2 93 := by decide +kernel
theorem d1_93 : Dc b1 93 (.iconst 4) 1 94 := by decide +kernel
theorem d1_94 : Dc b1 94 (.iconst 4) 1 95 := by decide +kernel
theorem d1_95 : Dc b1 95 (.iload_n 2) 1 96 := by decide +kernel
theorem d1_96 : Dc b1 96 (.if_icmp .ge 7) 3 99 := by decide +kernel
theorem d1_99 : Dc b1 99 (.iload_n 3) 1 100 := by decide +kernel
theorem d1_100 : Dc b1 100 (.goto 5) 3 103 := by decide +kernel
theorem d1_103 : Dc b1 103 (.iload 5) 2 105 := by decide +kernel
theorem d1_105 : Dc b1 105 (.castore) 1 106 := by decide +kernel
theorem d1_106 : Dc b1 106 (.aload 7) 2 108 := by decide +kernel
theorem d1_108 : Dc b1 108 (.iconst 5) 1 109 := by decide +kernel
theorem d1_109 : Dc b1 109 (.iconst 5) 1 110 := by decide +kernel
theorem d1_110 : Dc b1 110 (.iload_n 2) 1 111 := by decide +kernel
theorem d1_111 : Dc b1 111 (.if_icmp .ge 8) 3 114 := by decide +kernel
theorem d1_114 : Dc b1 114 (.iload 4) 2 116 := by decide +kernel
theorem d1_116 : Dc b1 116 (.goto 5) 3 119 := by decide +kernel
theorem d1_119 : Dc b1 119 (.iload 6) 2 121 := by decide +kernel
theorem d1_121 : Dc b1 121 (.castore) 1 122 := by decide +kernel
theorem d1_122 : Dc b1 122 (.aload 7) 2 124 := by decide +kernel
theorem d1_124 : Dc b1 124 (.bipush 6) 2 126 := by decide +kernel
theorem d1_126 : Dc b1 126 (.bipush 6) 2 128 := by decide +kernel
theorem d1_128 : Dc b1 128 (.iload_n 2) 1 129 := by decide +kernel
theorem d1_129 : Dc b1 129 (.if_icmp .ge 7) 3 132 := by decide +kernel
theorem d1_132 : Dc b1 132 (.iload_n 3) 1 133 := by decide +kernel
theorem d1_133 : Dc b1 133 (.goto 5) 3 136 := by decide +kernel
theorem d1_136 : Dc b1 136 (.iload 5) 2 138 := by decide +kernel
theorem d1_138 : Dc b1 138 (.castore) 1 139 := by decide +kernel
theorem d1_139 : Dc b1 139 (.aload 7) 2 141 := by decide +kernel
theorem d1_141 : Dc b1 141 (.bipush 7) 2 143 := by decide +kernel
theorem d1_143 : Dc b1 143 (.bipush 7) 2 145 := by decide +kernel
theorem d1_145 : Dc b1 145 (.iload_n 2) 1 146 := by decide +kernel
theorem d1_146 : Dc b1 146 (.if_icmp .ge 8) 3 149 := by decide +kernel
theorem d1_149 : Dc b1 149 (.iload 4) 2 151 := by decide +kernel
theorem d1_151 : Dc b1 151 (.goto 5) 3 154 := by decide +kernel
theorem d1_154 : Dc b1 154 (.iload 6) 2 156 := by decide +kernel
theorem d1_156 : Dc b1 156 (.castore) 1 157 := by decide +kernel
theorem d1_157 : Dc b1 157 (.aload 7) 2 159 := by decide +kernel
theorem d1_159 : Dc b1 159 (.bipush 8) 2 161 := by decide +kernel
theorem d1_161 : Dc b1 161 (.bipush 8) 2 163 := by decide +kernel
theorem d1_163 : Dc b1 163 (.iload_n 2) 1 164 := by decide +kernel
theorem d1_164 : Dc b1 164 (.if_icmp .ge 7) 3 167 := by decide +kernel
theorem d1_167 : Dc b1 167 (.iload_n 3) 1 168 := by decide +kernel
theorem d1_168 : Dc b1 168 (.goto 5) 3 171 := by decide +kernel
theorem d1_171 : Dc b1 171 (.iload 5) 2 173 := by decide +kernel
theorem d1_173 : Dc b1 173 (.castore) 1 174 := by decide +kernel
theorem d1_174 : Dc b1 174 (.aload 7) 2 176 := by decide +kernel
theorem d1_176 : Dc b1 176 (.bipush 9) 2 178 := by decide +kernel
theorem d1_178 : Dc b1 178 (.bipush 9) 2 180 := by decide +kernel
theorem d1_180 : Dc b1 180 (.iload_n 2) 1 181 := by decide +kernel
theorem d1_181 : Dc b1 181 (.if_icmp .ge 8) 3 184 := by decide +kernel
theorem d1_184 : Dc b1 184 (.iload 4) 2 186 := by decide +kernel
theorem d1_186 : Dc b1 186 (.goto 5) 3 189 := by decide +kernel
theorem d1_189 : Dc b1 189 (.iload 6) 2 191 := by decide +kernel
theorem d1_191 : Dc b1 191 (.castore) 1 192 := by decide +kernel
theorem d1_192 : Dc b1 192 (.aload 7) 2 194 := by decide +kernel
theorem d1_194 : Dc b1 194 (.bipush 10) 2 196 := by decide +kernel
theorem d1_196 : Dc b1 196 (.bipush 10) 2 198 := by decide +kernel
theorem d1_198 : Dc b1 198 (.iload_n 2) 1 199 := by decide +kernel
theorem d1_199 : Dc b1 199 (.if_icmp .ge 7) 3 202 := by decide +kernel
theorem d1_202 : Dc b1 202 (.iload_n 3) 1 203 := by decide +kernel
theorem d1_203 : Dc b1 203 (.goto 5) 3 206 := by decide +kernel
theorem d1_206 : Dc b1 206 (.iload 5) 2 208 := by decide +kernel
theorem d1_208 : Dc b1 208 (.castore) 1 209 := by decide +kernel
theorem d1_209 : Dc b1 209 (.aload 7) 2 211 := by decide +kernel
theorem d1_211 : Dc b1 211 (.bipush 11) 2 213 := by decide +kernel
theorem d1_213 : Dc b1 213 (.bipush 11) 2 215 := by decide +kernel
theorem d1_215 : Dc b1 215 (.iload_n 2) 1 216 := by decide +kernel
theorem d1_216 : Dc b1 216 (.if_icmp .ge 8) 3 219 := by decide +kernel
theorem d1_219 : Dc b1 219 (.iload 4) 2 221 := by decide +kernel
theorem d1_221 : Dc b1 221 (.goto 5) 3 224 := by decide +kernel
theorem d1_224 : Dc b1 224 (.iload 6) 2 226 := by decide +kernel
theorem d1_226 : Dc b1 226 (.castore) 1 227 := by decide +kernel
theorem d1_227 : Dc b1 227 (.aload 7) 2 229 := by decide +kernel
theorem d1_229 : Dc b1 229 (.areturn) 1 230 := by decide +kernel
abbrev b5 := method_11_code
theorem d5_0 : Dc b5 0 (.iload_n 0) 1 1 := by decide +kernel
theorem d5_1 : Dc b5 1 (.invokestatic 68) 3 4 := by decide +kernel
theorem d5_4 : Dc b5 4 (.istore_n 3) 1 5 := by decide +kernel
theorem d5_5 : Dc b5 5 (.iload_n 0) 1 6 := by decide +kernel
theorem d5_6 : Dc b5 6 (.invokestatic 71) 3 9 := by decide +kernel
theorem d5_9 : Dc b5 9 (.istore 4) 2 11 := by decide +kernel
theorem d5_11 : Dc b5 11 (.iload_n 1) 1 12 := by decide +kernel
theorem d5_12 : Dc b5 12 (.invokestatic 68) 3 15 := by decide +kernel
theorem d5_15 : Dc b5 15 (.istore 5) 2 17 := by decide +kernel
theorem d5_17 : Dc b5 17 (.iload_n 1) 1 18 := by decide +kernel
theorem d5_18 : Dc b5 18 (.invokestatic 71) 3 21 := by decide +kernel
theorem d5_21 : Dc b5 21 (.istore 6) 2 23 := by decide +kernel
theorem d5_23 : Dc b5 23 (.bipush 24) 2 25 := by decide +kernel
theorem d5_25 : Dc b5 25 (.newarray .char) 2 27 := by decide +kernel
theorem d5_27 : Dc b5 27 (.astore 7) 2 29 := by decide +kernel
theorem d5_29 : Dc b5 29 (.aload 7) 2 31 := by decide +kernel
theorem d5_31 : Dc b5 31 (.iconst 0) 1 32 := by decide +kernel
theorem d5_32 : Dc b5 32 (.iconst 0) 1 33 := by decide +kernel
theorem d5_33 : Dc b5 33 (.iload_n 2) 1 34 := by decide +kernel
theorem d5_34 : Dc b5 34 (.if_icmp .ge 7) 3 37 := by decide +kernel
theorem d5_37 : Dc b5 37 (.iload_n 3) 1 38 := by decide +kernel
theorem d5_38 : Dc b5 38 (.goto 5) 3 41 := by decide +kernel
theorem d5_41 : Dc b5 41 (.iload 5) 2 43 := by decide +kernel
theorem d5_43 : Dc b5 43 (.castore) 1 44 := by decide +kernel
theorem d5_44 : Dc b5 44 (.aload 7) 2 46 := by decide +kernel
theorem d5_46 : Dc b5 46 (.iconst 1) 1 47 := by decide +kernel
theorem d5_47 : Dc b5 47 (.iconst 1) 1 48 := by decide +kernel
theorem d5_48 : Dc b5 48 (.iload_n 2) 1 49 := by decide +kernel
theorem d5_49 : Dc b5 49 (.if_icmp .ge 8) 3 52 := by decide +kernel
theorem d5_52 : Dc b5 52 (.iload 4) 2 54 := by decide +kernel
theorem d5_54 : Dc b5 54 (.goto 5) 3 57 := by decide +kernel
theorem d5_57 : Dc b5 57 (.iload 6) 2 59 := by decide +kernel
theorem d5_59 : Dc b5 59 (.castore) 1 60 := by decide +kernel
theorem d5_60 : Dc b5 60 (.aload 7) 2 62 := by decide +kernel
theorem d5_62 : Dc b5 62 (.iconst 2) 1 63 := by decide +kernel
theorem d5_63 : Dc b5 63 (.iconst 2) 1 64 := by decide +kernel
theorem d5_64 : Dc b5 64 (.iload_n 2) 1 65 := by decide +kernel
theorem d5_65 : Dc b5 65 (.if_icmp .ge 7) 3 68 := by decide +kernel
theorem d5_68 : Dc b5 68 (.iload_n 3) 1 69 := by decide +kernel
theorem d5_69 : Dc b5 69 (.goto 5) 3 72 := by decide +kernel
theorem d5_72 : Dc b5 72 (.iload 5) 2 74 := by decide +kernel
theorem d5_74 : Dc b5 74 (.castore) 1 75 := by decide +kernel
theorem d5_75 : Dc b5 75 (.aload 7) 2 77 := by decide +kernel
theorem d5_77 : Dc b5 77 (.iconst 3) 1 78 := by decide +kernel
theorem d5_78 : Dc b5 78 (.iconst 3) 1 79 := by decide +kernel
theorem d5_79 : Dc b5 79 (.iload_n 2) 1 80 := by decide +kernel
theorem d5_80 : Dc b5 80 (.if_icmp .ge 8) 3 83 := by decide +kernel
theorem d5_83 : Dc b5 83 (.iload 4) 2 85 := by decide +kernel
theorem d5_85 : Dc b5 85 (.goto 5) 3 88 := by decide +kernel
theorem d5_88 : Dc b5 88 (.iload 6) 2 90 := by decide +kernel
theorem d5_90 : Dc b5 90 (.castore) 1 91 := by decide +kernel
theorem d5_91 : Dc b5 91 (.aload 7) 2 93 := by decide +kernel
theorem d5_93 : Dc b5 93 (.iconst 4) 1 94 := by decide +kernel
theorem d5_94 : Dc b5 94 (.iconst 4) 1 95 := by decide +kernel
theorem d5_95 : Dc b5 95 (.iload_n 2) 1 96 := by decide +kernel
theorem d5_96 : Dc b5 96 (.if_icmp .ge 7) 3 99 := by decide +kernel
theorem d5_99 : Dc b5 99 (.iload_n 3) 1 100 := by decide +kernel
theorem d5_100 : Dc b5 100 (.goto 5) 3 103 := by decide +kernel
theorem d5_103 : Dc b5 103 (.iload 5) 2 105 := by decide +kernel
theorem d5_105 : Dc b5 105 (.castore) 1 106 := by decide +kernel
theorem d5_106 : Dc b5 106 (.aload 7) 2 108 := by decide +kernel
theorem d5_108 : Dc b5 108 (.iconst 5) 1 109 := by decide +kernel
theorem d5_109 : Dc b5 109 (.iconst 5) 1 110 := by decide +kernel
theorem d5_110 : Dc b5 110 (.iload_n 2) 1 111 := by decide +kernel
theorem d5_111 : Dc b5 111 (.if_icmp .ge 8) 3 114 := by decide +kernel
theorem d5_114 : Dc b5 114 (.iload 4) 2 116 := by decide +kernel
theorem d5_116 : Dc b5 116 (.goto 5) 3 119 := by decide +kernel
theorem d5_119 : Dc b5 119 (.iload 6) 2 121 := by decide +kernel
theorem d5_121 : Dc b5 121 (.castore) 1 122 := by decide +kernel
theorem d5_122 : Dc b5 122 (.aload 7) 2 124 := by decide +kernel
theorem d5_124 : Dc b5 124 (.bipush 6) 2 126 := by decide +kernel
theorem d5_126 : Dc b5 126 (.bipush 6) 2 128 := by decide +kernel
theorem d5_128 : Dc b5 128 (.iload_n 2) 1 129 := by decide +kernel
theorem d5_129 : Dc b5 129 (.if_icmp .ge 7) 3 132 := by decide +kernel
theorem d5_132 : Dc b5 132 (.iload_n 3) 1 133 := by decide +kernel
theorem d5_133 : Dc b5 133 (.goto 5) 3 136 := by decide +kernel
theorem d5_136 : Dc b5 136 (.iload 5) 2 138 := by decide +kernel
theorem d5_138 : Dc b5 138 (.castore) 1 139 := by decide +kernel
theorem d5_139 : Dc b5 139 (.aload 7) 2 141 := by decide +kernel
theorem d5_141 : Dc b5 141 (.bipush 7) 2 143 := by decide +kernel
theorem d5_143 : Dc b5 143 (.bipush 7) 2 145 := by decide +kernel
theorem d5_145 : Dc b5 145 (.iload_n 2) 1 146 := by decide +kernel
theorem d5_146 : Dc b5 146 (.if_icmp .ge 8) 3 149 := by decide +kernel
theorem d5_149 : Dc b5 149 (.iload 4) 2 151 := by decide +kernel
theorem d5_151 : Dc b5 151 (.goto 5) 3 154 := by decide +kernel
theorem d5_154 : Dc b5 154 (.iload 6) 2 156 := by decide +kernel
theorem d5_156 : Dc b5 156 (.castore) 1 157 := by decide +kernel
theorem d5_157 : Dc b5 157 (.aload 7) 2 159 := by decide +kernel
theorem d5_159 : Dc b5 159 (.bipush 8) 2 161 := by decide +kernel
theorem d5_161 : Dc b5 161 (.bipush 8) 2 163 := by decide +kernel
theorem d5_163 : Dc b5 163 (.iload_n 2) 1 164 := by decide +kernel
theorem d5_164 : Dc b5 164 (.if_icmp .ge 7) 3 167 := by decide +kernel
theorem d5_167 : Dc b5 167 (.iload_n 3) 1 168 := by decide +kernel
theorem d5_168 : Dc b5 168 (.goto 5) 3 171 := by decide +kernel
theorem d5_171 : Dc b5 171 (.iload 5) 2 173 := by decide +kernel
theorem d5_173 : Dc b5 173 (.castore) 1 174 := by decide +kernel
theorem d5_174 : Dc b5 174 (.aload 7) 2 176 := by decide +kernel
theorem d5_176 : Dc b5 176 (.bipush 9) 2 178 := by decide +kernel
theorem d5_178 : Dc b5 178 (.bipush 9) 2 180 := by decide +kernel
theorem d5_180 : Dc b5 180 (.iload_n 2) 1 181 := by decide +kernel
theorem d5_181 : Dc b5 181 (.if_icmp .ge 8) 3 184 := by decide +kernel
theorem d5_184 : Dc b5 184 (.iload 4) 2 186 := by decide +kernel
theorem d5_186 : Dc b5 186 (.goto 5) 3 189 := by decide +kernel
theorem d5_189 : Dc b5 189 (.iload 6) 2 191 := by decide +kernel
theorem d5_191 : Dc b5 191 (.castore) 1 192 := by decide +kernel
theorem d5_192 : Dc b5 192 (.aload 7) 2 194 := by decide +kernel
theorem d5_194 : Dc b5 194 (.bipush 10) 2 196 := by decide +kernel
theorem d5_196 : Dc b5 196 (.bipush 10) 2 198 := by decide +kernel
theorem d5_198 : Dc b5 198 (.iload_n 2) 1 199 := by decide +kernel
theorem d5_199 : Dc b5 199 (.if_icmp .ge 7) 3 202 := by decide +kernel
theorem d5_202 : Dc b5 202 (.iload_n 3) 1 203 := by decide +kernel
theorem d5_203 : Dc b5 203 (.goto 5) 3 206 := by decide +kernel
theorem d5_206 : Dc b5 206 (.iload 5) 2 208 := by decide +kernel
theorem d5_208 : Dc b5 208 (.castore) 1 209 := by decide +kernel
theorem d5_209 : Dc b5 209 (.aload 7) 2 211 := by decide +kernel
theorem d5_211 : Dc b5 211 (.bipush 11) 2 213 := by decide +kernel
theorem d5_213 : Dc b5 213 (.bipush 11) 2 215 := by decide +kernel
theorem d5_215 : Dc b5 215 (.iload_n 2) 1 216 := by decide +kernel
theorem d5_216 : Dc b5 216 (.if_icmp .ge 8) 3 219 := by decide +kernel
theorem d5_219 : Dc b5 219 (.iload 4) 2 221 := by decide +kernel
theorem d5_221 : Dc b5 221 (.goto 5) 3 224 := by decide +kernel
theorem d5_224 : Dc b5 224 (.iload 6) 2 226 := by decide +kernel
theorem d5_226 : Dc b5 226 (.castore) 1 227 := by decide +kernel
theorem d5_227 : Dc b5 227 (.aload 7) 2 229 := by decide +kernel
theorem d5_229 : Dc b5 229 (.bipush 12) 2 231 := by decide +kernel
theorem d5_231 : Dc b5 231 (.bipush 12) 2 233 := by decide +kernel
theorem d5_233 : Dc b5 233 (.iload_n 2) 1 234 := by decide +kernel
theorem d5_234 : Dc b5 234 (.if_icmp .ge 7) 3 237 := by decide +kernel
theorem d5_237 : Dc b5 237 (.iload_n 3) 1 238 := by decide +kernel
theorem d5_238 : Dc b5 238 (.goto 5) 3 241 := by decide +kernel
theorem d5_241 : Dc b5 241 (.iload 5) 2 243 := by decide +kernel
theorem d5_243 : Dc b5 243 (.castore) 1 244 := by decide +kernel
theorem d5_244 : Dc b5 244 (.aload 7) 2 246 := by decide +kernel
theorem d5_246 : Dc b5 246 (.bipush 13) 2 248 := by decide +kernel
theorem d5_248 : Dc b5 248 (.bipush 13) 2 250 := by decide +kernel
theorem d5_250 : Dc b5 250 (.iload_n 2) 1 251 := by decide +kernel
theorem d5_251 : Dc b5 251 (.if_icmp .ge 8) 3 254 := by decide +kernel
theorem d5_254 : Dc b5 254 (.iload 4) 2 256 := by decide +kernel
theorem d5_256 : Dc b5 256 (.goto 5) 3 259 := by decide +kernel
theorem d5_259 : Dc b5 259 (.iload 6) 2 261 := by decide +kernel
theorem d5_261 : Dc b5 261 (.castore) 1 262 := by decide +kernel
theorem d5_262 : Dc b5 262 (.aload 7) 2 264 := by decide +kernel
theorem d5_264 : Dc b5 264 (.bipush 14) 2 266 := by decide +kernel
theorem d5_266 : Dc b5 266 (.bipush 14) 2 268 := by decide +kernel
theorem d5_268 : Dc b5 268 (.iload_n 2) 1 269 := by decide +kernel
theorem d5_269 : Dc b5 269 (.if_icmp .ge 7) 3 272 := by decide +kernel
theorem d5_272 : Dc b5 272 (.iload_n 3) 1 273 := by decide +kernel
theorem d5_273 : Dc b5 273 (.goto 5) 3 276 := by decide +kernel
theorem d5_276 : Dc b5 276 (.iload 5) 2 278 := by decide +kernel
theorem d5_278 : Dc b5 278 (.castore) 1 279 := by decide +kernel
theorem d5_279 : Dc b5 279 (.aload 7) 2 281 := by decide +kernel
theorem d5_281 : Dc b5 281 (.bipush 15) 2 283 := by decide +kernel
theorem d5_283 : Dc b5 283 (.bipush 15) 2 285 := by decide +kernel
theorem d5_285 : Dc b5 285 (.iload_n 2) 1 286 := by decide +kernel
theorem d5_286 : Dc b5 286 (.if_icmp .ge 8) 3 289 := by decide +kernel
theorem d5_289 : Dc b5 289 (.iload 4) 2 291 := by decide +kernel
theorem d5_291 : Dc b5 291 (.goto 5) 3 294 := by decide +kernel
theorem d5_294 : Dc b5 294 (.iload 6) 2 296 := by decide +kernel
theorem d5_296 : Dc b5 296 (.castore) 1 297 := by decide +kernel
theorem d5_297 : Dc b5 297 (.aload 7) 2 299 := by decide +kernel
theorem d5_299 : Dc b5 299 (.bipush 16) 2 301 := by decide +kernel
theorem d5_301 : Dc b5 301 (.bipush 16) 2 303 := by decide +kernel
theorem d5_303 : Dc b5 303 (.iload_n 2) 1 304 := by decide +kernel
theorem d5_304 : Dc b5 304 (.if_icmp .ge 7) 3 307 := by decide +kernel
theorem d5_307 : Dc b5 307 (.iload_n 3) 1 308 := by decide +kernel
theorem d5_308 : Dc b5 308 (.goto 5) 3 311 := by decide +kernel
theorem d5_311 : Dc b5 311 (.iload 5) 2 313 := by decide +kernel
theorem d5_313 : Dc b5 313 (.castore) 1 314 := by decide +kernel
theorem d5_314 : Dc b5 314 (.aload 7) 2 316 := by decide +kernel
theorem d5_316 : Dc b5 316 (.bipush 17) 2 318 := by decide +kernel
theorem d5_318 : Dc b5 318 (.bipush 17) 2 320 := by decide +kernel
theorem d5_320 : Dc b5 320 (.iload_n 2) 1 321 := by decide +kernel
theorem d5_321 : Dc b5 321 (.if_icmp .ge 8) 3 324 := by decide +kernel
theorem d5_324 : Dc b5 324 (.iload 4) 2 326 := by decide +kernel
theorem d5_326 : Dc b5 326 (.goto 5) 3 329 := by decide +kernel
theorem d5_329 : Dc b5 329 (.iload 6) 2 331 := by decide +kernel
theorem d5_331 : Dc b5 331 (.castore) 1 332 := by decide +kernel
theorem d5_332 : Dc b5 332 (.aload 7) 2 334 := by decide +kernel
theorem d5_334 : Dc b5 334 (.bipush 18) 2 336 := by decide +kernel
theorem d5_336 : Dc b5 336 (.bipush 18) 2 338 := by decide +kernel
theorem d5_338 : Dc b5 338 (.iload_n 2) 1 339 := by decide +kernel
theorem d5_339 : Dc b5 339 (.if_icmp .ge 7) 3 342 := by decide +kernel
theorem d5_342 : Dc b5 342 (.iload_n 3) 1 343 := by decide +kernel
theorem d5_343 : Dc b5 343 (.goto 5) 3 346 := by decide +kernel
theorem d5_346 : Dc b5 346 (.iload 5) 2 348 := by decide +kernel
theorem d5_348 : Dc b5 348 (.castore) 1 349 := by decide +kernel
theorem d5_349 : Dc b5 349 (.aload 7) 2 351 := by decide +kernel
theorem d5_351 : Dc b5 351 (.bipush 19) 2 353 := by decide +kernel
theorem d5_353 : Dc b5 353 (.bipush 19) 2 355 := by decide +kernel
theorem d5_355 : Dc b5 355 (.iload_n 2) 1 356 := by decide +kernel
theorem d5_356 : Dc b5 356 (.if_icmp .ge 8) 3 359 := by decide +kernel
theorem d5_359 : Dc b5 359 (.iload 4) 2 361 := by decide +kernel
theorem d5_361 : Dc b5 361 (.goto 5) 3 364 := by decide +kernel
theorem d5_364 : Dc b5 364 (.iload 6) 2 366 := by decide +kernel
theorem d5_366 : Dc b5 366 (.castore) 1 367 := by decide +kernel
theorem d5_367 : Dc b5 367 (.aload 7) 2 369 := by decide +kernel
theorem d5_369 : Dc b5 369 (.bipush 20) 2 371 := by decide +kernel
theorem d5_371 : Dc b5 371 (.bipush 20) 2 373 := by decide +kernel
theorem d5_373 : Dc b5 373 (.iload_n 2) 1 374 := by decide +kernel
theorem d5_374 : Dc b5 374 (.if_icmp .ge 7) 3 377 := by decide +kernel
theorem d5_377 : Dc b5 377 (.iload_n 3) 1 378 := by decide +kernel
theorem d5_378 : Dc b5 378 (.goto 5) 3 381 := by decide +kernel
theorem d5_381 : Dc b5 381 (.iload 5) 2 383 := by decide +kernel
theorem d5_383 : Dc b5 383 (.castore) 1 384 := by decide +kernel
theorem d5_384 : Dc b5 384 (.aload 7) 2 386 := by decide +kernel
theorem d5_386 : Dc b5 386 (.bipush 21) 2 388 := by decide +kernel
theorem d5_388 : Dc b5 388 (.bipush 21) 2 390 := by decide +kernel
theorem d5_390 : Dc b5 390 (.iload_n 2) 1 391 := by decide +kernel
theorem d5_391 : Dc b5 391 (.if_icmp .ge 8) 3 394 := by decide +kernel
theorem d5_394 : Dc b5 394 (.iload 4) 2 396 := by decide +kernel
theorem d5_396 : Dc b5 396 (.goto 5) 3 399 := by decide +kernel
theorem d5_399 : Dc b5 399 (.iload 6) 2 401 := by decide +kernel
theorem d5_401 : Dc b5 401 (.castore) 1 402 := by decide +kernel
theorem d5_402 : Dc b5 402 (.aload 7) 2 404 := by decide +kernel
theorem d5_404 : Dc b5 404 (.bipush 22) 2 406 := by decide +kernel
theorem d5_406 : Dc b5 406 (.bipush 22) 2 408 := by decide +kernel
theorem d5_408 : Dc b5 408 (.iload_n 2) 1 409 := by decide +kernel
theorem d5_409 : Dc b5 409 (.if_icmp .ge 7) 3 412 := by decide +kernel
theorem d5_412 : Dc b5 412 (.iload_n 3) 1 413 := by decide +kernel
theorem d5_413 : Dc b5 413 (.goto 5) 3 416 := by decide +kernel
theorem d5_416 : Dc b5 416 (.iload 5) 2 418 := by decide +kernel
theorem d5_418 : Dc b5 418 (.castore) 1 419 := by decide +kernel
theorem d5_419 : Dc b5 419 (.aload 7) 2 421 := by decide +kernel
theorem d5_421 : Dc b5 421 (.bipush 23) 2 423 := by decide +kernel
theorem d5_423 : Dc b5 423 (.bipush 23) 2 425 := by decide +kernel
theorem d5_425 : Dc b5 425 (.iload_n 2) 1 426 := by decide +kernel
theorem d5_426 : Dc b5 426 (.if_icmp .ge 8) 3 429 := by decide +kernel
theorem d5_429 : Dc b5 429 (.iload 4) 2 431 := by decide +kernel
theorem d5_431 : Dc b5 431 (.goto 5) 3 434 := by decide +kernel
theorem d5_434 : Dc b5 434 (.iload 6) 2 436 := by decide +kernel
theorem d5_436 : Dc b5 436 (.castore) 1 437 := by decide +kernel
theorem d5_437 : Dc b5 437 (.aload 7) 2 439 := by decide +kernel
theorem d5_439 : Dc b5 439 (.areturn) 1 440 := by decide +kernel
abbrev b90 := method_12_code
theorem d90_0 : Dc b90 0 (.iload_n 3) 1 1 := by decide +kernel
theorem d90_1 : Dc b90 1 (.ifCond .le 14) 3 4 := by decide +kernel
theorem d90_4 : Dc b90 4 (.aload_n 0) 1 5 := by decide +kernel
theorem d90_5 : Dc b90 5 (.iload_n 1) 1 6 := by decide +kernel
theorem d90_6 : Dc b90 6 (.invokevirtual 43) 3 9 := by decide +kernel
theorem d90_9 : Dc b90 9 (.aload_n 2) 1 10 := by decide +kernel
theorem d90_10 : Dc b90 10 (.iconst 0) 1 11 := by decide +kernel
theorem d90_11 : Dc b90 11 (.caload) 1 12 := by decide +kernel
theorem d90_12 : Dc b90 12 (.if_icmp .ne 475) 3 15 := by decide +kernel
theorem d90_15 : Dc b90 15 (.iload_n 3) 1 16 := by decide +kernel
theorem d90_16 : Dc b90 16 (.iconst 1) 1 17 := by decide +kernel
theorem d90_17 : Dc b90 17 (.if_icmp .le 16) 3 20 := by decide +kernel
theorem d90_20 : Dc b90 20 (.aload_n 0) 1 21 := by decide +kernel
theorem d90_21 : Dc b90 21 (.iload_n 1) 1 22 := by decide +kernel
theorem d90_22 : Dc b90 22 (.iconst 1) 1 23 := by decide +kernel
theorem d90_23 : Dc b90 23 (.iadd) 1 24 := by decide +kernel
theorem d90_24 : Dc b90 24 (.invokevirtual 43) 3 27 := by decide +kernel
theorem d90_27 : Dc b90 27 (.aload_n 2) 1 28 := by decide +kernel
theorem d90_28 : Dc b90 28 (.iconst 1) 1 29 := by decide +kernel
theorem d90_29 : Dc b90 29 (.caload) 1 30 := by decide +kernel
theorem d90_30 : Dc b90 30 (.if_icmp .ne 457) 3 33 := by decide +kernel
theorem d90_33 : Dc b90 33 (.iload_n 3) 1 34 := by decide +kernel
theorem d90_34 : Dc b90 34 (.iconst 2) 1 35 := by decide +kernel
theorem d90_35 : Dc b90 35 (.if_icmp .le 16) 3 38 := by decide +kernel
theorem d90_38 : Dc b90 38 (.aload_n 0) 1 39 := by decide +kernel
theorem d90_39 : Dc b90 39 (.iload_n 1) 1 40 := by decide +kernel
theorem d90_40 : Dc b90 40 (.iconst 2) 1 41 := by decide +kernel
theorem d90_41 : Dc b90 41 (.iadd) 1 42 := by decide +kernel
theorem d90_42 : Dc b90 42 (.invokevirtual 43) 3 45 := by decide +kernel
theorem d90_45 : Dc b90 45 (.aload_n 2) 1 46 := by decide +kernel
theorem d90_46 : Dc b90 46 (.iconst 2) 1 47 := by decide +kernel
theorem d90_47 : Dc b90 47 (.caload) 1 48 := by decide +kernel
theorem d90_48 : Dc b90 48 (.if_icmp .ne 439) 3 51 := by decide +kernel
theorem d90_51 : Dc b90 51 (.iload_n 3) 1 52 := by decide +kernel
theorem d90_52 : Dc b90 52 (.iconst 3) 1 53 := by decide +kernel
theorem d90_53 : Dc b90 53 (.if_icmp .le 16) 3 56 := by decide +kernel
theorem d90_56 : Dc b90 56 (.aload_n 0) 1 57 := by decide +kernel
theorem d90_57 : Dc b90 57 (.iload_n 1) 1 58 := by decide +kernel
theorem d90_58 : Dc b90 58 (.iconst 3) 1 59 := by decide +kernel
theorem d90_59 : Dc b90 59 (.iadd) 1 60 := by decide +kernel
theorem d90_60 : Dc b90 60 (.invokevirtual 43) 3 63 := by decide +kernel
theorem d90_63 : Dc b90 63 (.aload_n 2) 1 64 := by decide +kernel
theorem d90_64 : Dc b90 64 (.iconst 3) 1 65 := by decide +kernel
theorem d90_65 : Dc b90 65 (.caload) 1 66 := by decide +kernel
theorem d90_66 : Dc b90 66 (.if_icmp .ne 421) 3 69 := by decide +kernel
theorem d90_69 : Dc b90 69 (.iload_n 3) 1 70 := by decide +kernel
theorem d90_70 : Dc b90 70 (.iconst 4) 1 71 := by decide +kernel
theorem d90_71 : Dc b90 71 (.if_icmp .le 16) 3 74 := by decide +kernel
theorem d90_74 : Dc b90 74 (.aload_n 0) 1 75 := by decide +kernel
theorem d90_75 : Dc b90 75 (.iload_n 1) 1 76 := by decide +kernel
theorem d90_76 : Dc b90 76 (.iconst 4) 1 77 := by decide +kernel
theorem d90_77 : Dc b90 77 (.iadd) 1 78 := by decide +kernel
theorem d90_78 : Dc b90 78 (.invokevirtual 43) 3 81 := by decide +kernel
theorem d90_81 : Dc b90 81 (.aload_n 2) 1 82 := by decide +kernel
theorem d90_82 : Dc b90 82 (.iconst 4) 1 83 := by decide +kernel
theorem d90_83 : Dc b90 83 (.caload) 1 84 := by decide +kernel
theorem d90_84 : Dc b90 84 (.if_icmp .ne 403) 3 87 := by decide +kernel
theorem d90_87 : Dc b90 87 (.iload_n 3) 1 88 := by decide +kernel
theorem d90_88 : Dc b90 88 (.iconst 5) 1 89 := by decide +kernel
theorem d90_89 : Dc b90 89 (.if_icmp .le 16) 3 92 := by decide +kernel
theorem d90_92 : Dc b90 92 (.aload_n 0) 1 93 := by decide +kernel
theorem d90_93 : Dc b90 93 (.iload_n 1) 1 94 := by decide +kernel
theorem d90_94 : Dc b90 94 (.iconst 5) 1 95 := by decide +kernel
theorem d90_95 : Dc b90 95 (.iadd) 1 96 := by decide +kernel
theorem d90_96 : Dc b90 96 (.invokevirtual 43) 3 99 := by decide +kernel
theorem d90_99 : Dc b90 99 (.aload_n 2) 1 100 := by decide +kernel
theorem d90_100 : Dc b90 100 (.iconst 5) 1 101 := by decide +kernel
theorem d90_101 : Dc b90 101 (.caload) 1 102 := by decide +kernel
theorem d90_102 : Dc b90 102 (.if_icmp .ne 385) 3 105 := by decide +kernel
theorem d90_105 : Dc b90 105 (.iload_n 3) 1 106 := by decide +kernel
theorem d90_106 : Dc b90 106 (.bipush 6) 2 108 := by decide +kernel
theorem d90_108 : Dc b90 108 (.if_icmp .le 18) 3 111 := by decide +kernel
theorem d90_111 : Dc b90 111 (.aload_n 0) 1 112 := by decide +kernel
theorem d90_112 : Dc b90 112 (.iload_n 1) 1 113 := by decide +kernel
theorem d90_113 : Dc b90 113 (.bipush 6) 2 115 := by decide +kernel
theorem d90_115 : Dc b90 115 (.iadd) 1 116 := by decide +kernel
theorem d90_116 : Dc b90 116 (.invokevirtual 43) 3 119 := by decide +kernel
theorem d90_119 : Dc b90 119 (.aload_n 2) 1 120 := by decide +kernel
theorem d90_120 : Dc b90 120 (.bipush 6) 2 122 := by decide +kernel
theorem d90_122 : Dc b90 122 (.caload) 1 123 := by decide +kernel
theorem d90_123 : Dc b90 123 (.if_icmp .ne 364) 3 126 := by decide +kernel
theorem d90_126 : Dc b90 126 (.iload_n 3) 1 127 := by decide +kernel
theorem d90_127 : Dc b90 127 (.bipush 7) 2 129 := by decide +kernel
theorem d90_129 : Dc b90 129 (.if_icmp .le 18) 3 132 := by decide +kernel
theorem d90_132 : Dc b90 132 (.aload_n 0) 1 133 := by decide +kernel
theorem d90_133 : Dc b90 133 (.iload_n 1) 1 134 := by decide +kernel
theorem d90_134 : Dc b90 134 (.bipush 7) 2 136 := by decide +kernel
theorem d90_136 : Dc b90 136 (.iadd) 1 137 := by decide +kernel
theorem d90_137 : Dc b90 137 (.invokevirtual 43) 3 140 := by decide +kernel
theorem d90_140 : Dc b90 140 (.aload_n 2) 1 141 := by decide +kernel
theorem d90_141 : Dc b90 141 (.bipush 7) 2 143 := by decide +kernel
theorem d90_143 : Dc b90 143 (.caload) 1 144 := by decide +kernel
theorem d90_144 : Dc b90 144 (.if_icmp .ne 343) 3 147 := by decide +kernel
theorem d90_147 : Dc b90 147 (.iload_n 3) 1 148 := by decide +kernel
theorem d90_148 : Dc b90 148 (.bipush 8) 2 150 := by decide +kernel
theorem d90_150 : Dc b90 150 (.if_icmp .le 18) 3 153 := by decide +kernel
theorem d90_153 : Dc b90 153 (.aload_n 0) 1 154 := by decide +kernel
theorem d90_154 : Dc b90 154 (.iload_n 1) 1 155 := by decide +kernel
theorem d90_155 : Dc b90 155 (.bipush 8) 2 157 := by decide +kernel
theorem d90_157 : Dc b90 157 (.iadd) 1 158 := by decide +kernel
theorem d90_158 : Dc b90 158 (.invokevirtual 43) 3 161 := by decide +kernel
theorem d90_161 : Dc b90 161 (.aload_n 2) 1 162 := by decide +kernel
theorem d90_162 : Dc b90 162 (.bipush 8) 2 164 := by decide +kernel
theorem d90_164 : Dc b90 164 (.caload) 1 165 := by decide +kernel
theorem d90_165 : Dc b90 165 (.if_icmp .ne 322) 3 168 := by decide +kernel
theorem d90_168 : Dc b90 168 (.iload_n 3) 1 169 := by decide +kernel
theorem d90_169 : Dc b90 169 (.bipush 9) 2 171 := by decide +kernel
theorem d90_171 : Dc b90 171 (.if_icmp .le 18) 3 174 := by decide +kernel
theorem d90_174 : Dc b90 174 (.aload_n 0) 1 175 := by decide +kernel
theorem d90_175 : Dc b90 175 (.iload_n 1) 1 176 := by decide +kernel
theorem d90_176 : Dc b90 176 (.bipush 9) 2 178 := by decide +kernel
theorem d90_178 : Dc b90 178 (.iadd) 1 179 := by decide +kernel
theorem d90_179 : Dc b90 179 (.invokevirtual 43) 3 182 := by decide +kernel
theorem d90_182 : Dc b90 182 (.aload_n 2) 1 183 := by decide +kernel
theorem d90_183 : Dc b90 183 (.bipush 9) 2 185 := by decide +kernel
theorem d90_185 : Dc b90 185 (.caload) 1 186 := by decide +kernel
theorem d90_186 : Dc b90 186 (.if_icmp .ne 301) 3 189 := by decide +kernel
theorem d90_189 : Dc b90 189 (.iload_n 3) 1 190 := by decide +kernel
theorem d90_190 : Dc b90 190 (.bipush 10) 2 192 := by decide +kernel
theorem d90_192 : Dc b90 192 (.if_icmp .le 18) 3 195 := by decide +kernel
theorem d90_195 : Dc b90 195 (.aload_n 0) 1 196 := by decide +kernel
theorem d90_196 : Dc b90 196 (.iload_n 1) 1 197 := by decide +kernel
theorem d90_197 : Dc b90 197 (.bipush 10) 2 199 := by decide +kernel
theorem d90_199 : Dc b90 199 (.iadd) 1 200 := by decide +kernel
theorem d90_200 : Dc b90 200 (.invokevirtual 43) 3 203 := by decide +kernel
theorem d90_203 : Dc b90 203 (.aload_n 2) 1 204 := by decide +kernel
theorem d90_204 : Dc b90 204 (.bipush 10) 2 206 := by decide +kernel
theorem d90_206 : Dc b90 206 (.caload) 1 207 := by decide +kernel
theorem d90_207 : Dc b90 207 (.if_icmp .ne 280) 3 210 := by decide +kernel
theorem d90_210 : Dc b90 210 (.iload_n 3) 1 211 := by decide +kernel
theorem d90_211 : Dc b90 211 (.bipush 11) 2 213 := by decide +kernel
theorem d90_213 : Dc b90 213 (.if_icmp .le 18) 3 216 := by decide +kernel
theorem d90_216 : Dc b90 216 (.aload_n 0) 1 217 := by decide +kernel
theorem d90_217 : Dc b90 217 (.iload_n 1) 1 218 := by decide +kernel
theorem d90_218 : Dc b90 218 (.bipush 11) 2 220 := by decide +kernel
theorem d90_220 : Dc b90 220 (.iadd) 1 221 := by decide +kernel
theorem d90_221 : Dc b90 221 (.invokevirtual 43) 3 224 := by decide +kernel
theorem d90_224 : Dc b90 224 (.aload_n 2) 1 225 := by decide +kernel
theorem d90_225 : Dc b90 225 (.bipush 11) 2 227 := by decide +kernel
theorem d90_227 : Dc b90 227 (.caload) 1 228 := by decide +kernel
theorem d90_228 : Dc b90 228 (.if_icmp .ne 259) 3 231 := by decide +kernel
theorem d90_231 : Dc b90 231 (.iload_n 3) 1 232 := by decide +kernel
theorem d90_232 : Dc b90 232 (.bipush 12) 2 234 := by decide +kernel
theorem d90_234 : Dc b90 234 (.if_icmp .le 18) 3 237 := by decide +kernel
theorem d90_237 : Dc b90 237 (.aload_n 0) 1 238 := by decide +kernel
theorem d90_238 : Dc b90 238 (.iload_n 1) 1 239 := by decide +kernel
theorem d90_239 : Dc b90 239 (.bipush 12) 2 241 := by decide +kernel
theorem d90_241 : Dc b90 241 (.iadd) 1 242 := by decide +kernel
theorem d90_242 : Dc b90 242 (.invokevirtual 43) 3 245 := by decide +kernel
theorem d90_245 : Dc b90 245 (.aload_n 2) 1 246 := by decide +kernel
theorem d90_246 : Dc b90 246 (.bipush 12) 2 248 := by decide +kernel
theorem d90_248 : Dc b90 248 (.caload) 1 249 := by decide +kernel
theorem d90_249 : Dc b90 249 (.if_icmp .ne 238) 3 252 := by decide +kernel
theorem d90_252 : Dc b90 252 (.iload_n 3) 1 253 := by decide +kernel
theorem d90_253 : Dc b90 253 (.bipush 13) 2 255 := by decide +kernel
theorem d90_255 : Dc b90 255 (.if_icmp .le 18) 3 258 := by decide +kernel
theorem d90_258 : Dc b90 258 (.aload_n 0) 1 259 := by decide +kernel
theorem d90_259 : Dc b90 259 (.iload_n 1) 1 260 := by decide +kernel
theorem d90_260 : Dc b90 260 (.bipush 13) 2 262 := by decide +kernel
theorem d90_262 : Dc b90 262 (.iadd) 1 263 := by decide +kernel
theorem d90_263 : Dc b90 263 (.invokevirtual 43) 3 266 := by decide +kernel
theorem d90_266 : Dc b90 266 (.aload_n 2) 1 267 := by decide +kernel
theorem d90_267 : Dc b90 267 (.bipush 13) 2 269 := by decide +kernel
theorem d90_269 : Dc b90 269 (.caload) 1 270 := by decide +kernel
theorem d90_270 : Dc b90 270 (.if_icmp .ne 217) 3 273 := by decide +kernel
theorem d90_273 : Dc b90 273 (.iload_n 3) 1 274 := by decide +kernel
theorem d90_274 : Dc b90 274 (.bipush 14) 2 276 := by decide +kernel
theorem d90_276 : Dc b90 276 (.if_icmp .le 18) 3 279 := by decide +kernel
theorem d90_279 : Dc b90 279 (.aload_n 0) 1 280 := by decide +kernel
theorem d90_280 : Dc b90 280 (.iload_n 1) 1 281 := by decide +kernel
theorem d90_281 : Dc b90 281 (.bipush 14) 2 283 := by decide +kernel
theorem d90_283 : Dc b90 283 (.iadd) 1 284 := by decide +kernel
theorem d90_284 : Dc b90 284 (.invokevirtual 43) 3 287 := by decide +kernel
theorem d90_287 : Dc b90 287 (.aload_n 2) 1 288 := by decide +kernel
theorem d90_288 : Dc b90 288 (.bipush 14) 2 290 := by decide +kernel
theorem d90_290 : Dc b90 290 (.caload) 1 291 := by decide +kernel
theorem d90_291 : Dc b90 291 (.if_icmp .ne 196) 3 294 := by decide +kernel
theorem d90_294 : Dc b90 294 (.iload_n 3) 1 295 := by decide +kernel
theorem d90_295 : Dc b90 295 (.bipush 15) 2 297 := by decide +kernel
theorem d90_297 : Dc b90 297 (.if_icmp .le 18) 3 300 := by decide +kernel
theorem d90_300 : Dc b90 300 (.aload_n 0) 1 301 := by decide +kernel
theorem d90_301 : Dc b90 301 (.iload_n 1) 1 302 := by decide +kernel
theorem d90_302 : Dc b90 302 (.bipush 15) 2 304 := by decide +kernel
theorem d90_304 : Dc b90 304 (.iadd) 1 305 := by decide +kernel
theorem d90_305 : Dc b90 305 (.invokevirtual 43) 3 308 := by decide +kernel
theorem d90_308 : Dc b90 308 (.aload_n 2) 1 309 := by decide +kernel
theorem d90_309 : Dc b90 309 (.bipush 15) 2 311 := by decide +kernel
theorem d90_311 : Dc b90 311 (.caload) 1 312 := by decide +kernel
theorem d90_312 : Dc b90 312 (.if_icmp .ne 175) 3 315 := by decide +kernel
theorem d90_315 : Dc b90 315 (.iload_n 3) 1 316 := by decide +kernel
theorem d90_316 : Dc b90 316 (.bipush 16) 2 318 := by decide +kernel
theorem d90_318 : Dc b90 318 (.if_icmp .le 18) 3 321 := by decide +kernel
theorem d90_321 : Dc b90 321 (.aload_n 0) 1 322 := by decide +kernel
theorem d90_322 : Dc b90 322 (.iload_n 1) 1 323 := by decide +kernel
theorem d90_323 : Dc b90 323 (.bipush 16) 2 325 := by decide +kernel
theorem d90_325 : Dc b90 325 (.iadd) 1 326 := by decide +kernel
theorem d90_326 : Dc b90 326 (.invokevirtual 43) 3 329 := by decide +kernel
theorem d90_329 : Dc b90 329 (.aload_n 2) 1 330 := by decide +kernel
theorem d90_330 : Dc b90 330 (.bipush 16) 2 332 := by decide +kernel
theorem d90_332 : Dc b90 332 (.caload) 1 333 := by decide +kernel
theorem d90_333 : Dc b90 333 (.if_icmp .ne 154) 3 336 := by decide +kernel
theorem d90_336 : Dc b90 336 (.iload_n 3) 1 337 := by decide +kernel
theorem d90_337 : Dc b90 337 (.bipush 17) 2 339 := by decide +kernel
theorem d90_339 : Dc b90 339 (.if_icmp .le 18) 3 342 := by decide +kernel
theorem d90_342 : Dc b90 342 (.aload_n 0) 1 343 := by decide +kernel
theorem d90_343 : Dc b90 343 (.iload_n 1) 1 344 := by decide +kernel
theorem d90_344 : Dc b90 344 (.bipush 17) 2 346 := by decide +kernel
theorem d90_346 : Dc b90 346 (.iadd) 1 347 := by decide +kernel
theorem d90_347 : Dc b90 347 (.invokevirtual 43) 3 350 := by decide +kernel
theorem d90_350 : Dc b90 350 (.aload_n 2) 1 351 := by decide +kernel
theorem d90_351 : Dc b90 351 (.bipush 17) 2 353 := by decide +kernel
theorem d90_353 : Dc b90 353 (.caload) 1 354 := by decide +kernel
theorem d90_354 : Dc b90 354 (.if_icmp .ne 133) 3 357 := by decide +kernel
theorem d90_357 : Dc b90 357 (.iload_n 3) 1 358 := by decide +kernel
theorem d90_358 : Dc b90 358 (.bipush 18) 2 360 := by decide +kernel
theorem d90_360 : Dc b90 360 (.if_icmp .le 18) 3 363 := by decide +kernel
theorem d90_363 : Dc b90 363 (.aload_n 0) 1 364 := by decide +kernel
theorem d90_364 : Dc b90 364 (.iload_n 1) 1 365 := by decide +kernel
theorem d90_365 : Dc b90 365 (.bipush 18) 2 367 := by decide +kernel
theorem d90_367 : Dc b90 367 (.iadd) 1 368 := by decide +kernel
theorem d90_368 : Dc b90 368 (.invokevirtual 43) 3 371 := by decide +kernel
theorem d90_371 : Dc b90 371 (.aload_n 2) 1 372 := by decide +kernel
theorem d90_372 : Dc b90 372 (.bipush 18) 2 374 := by decide +kernel
theorem d90_374 : Dc b90 374 (.caload) 1 375 := by decide +kernel
theorem d90_375 : Dc b90 375 (.if_icmp .ne 112) 3 378 := by decide +kernel
theorem d90_378 : Dc b90 378 (.iload_n 3) 1 379 := by decide +kernel
theorem d90_379 : Dc b90 379 (.bipush 19) 2 381 := by decide +kernel
theorem d90_381 : Dc b90 381 (.if_icmp .le 18) 3 384 := by decide +kernel
theorem d90_384 : Dc b90 384 (.aload_n 0) 1 385 := by decide +kernel
theorem d90_385 : Dc b90 385 (.iload_n 1) 1 386 := by decide +kernel
theorem d90_386 : Dc b90 386 (.bipush 19) 2 388 := by decide +kernel
theorem d90_388 : Dc b90 388 (.iadd) 1 389 := by decide +kernel
theorem d90_389 : Dc b90 389 (.invokevirtual 43) 3 392 := by decide +kernel
theorem d90_392 : Dc b90 392 (.aload_n 2) 1 393 := by decide +kernel
theorem d90_393 : Dc b90 393 (.bipush 19) 2 395 := by decide +kernel
theorem d90_395 : Dc b90 395 (.caload) 1 396 := by decide +kernel
theorem d90_396 : Dc b90 396 (.if_icmp .ne 91) 3 399 := by decide +kernel
theorem d90_399 : Dc b90 399 (.iload_n 3) 1 400 := by decide +kernel
theorem d90_400 : Dc b90 400 (.bipush 20) 2 402 := by decide +kernel
theorem d90_402 : Dc b90 402 (.if_icmp .le 18) 3 405 := by decide +kernel
theorem d90_405 : Dc b90 405 (.aload_n 0) 1 406 := by decide +kernel
theorem d90_406 : Dc b90 406 (.iload_n 1) 1 407 := by decide +kernel
theorem d90_407 : Dc b90 407 (.bipush 20) 2 409 := by decide +kernel
theorem d90_409 : Dc b90 409 (.iadd) 1 410 := by decide +kernel
theorem d90_410 : Dc b90 410 (.invokevirtual 43) 3 413 := by decide +kernel
theorem d90_413 : Dc b90 413 (.aload_n 2) 1 414 := by decide +kernel
theorem d90_414 : Dc b90 414 (.bipush 20) 2 416 := by decide +kernel
theorem d90_416 : Dc b90 416 (.caload) 1 417 := by decide +kernel
theorem d90_417 : Dc b90 417 (.if_icmp .ne 70) 3 420 := by decide +kernel
theorem d90_420 : Dc b90 420 (.iload_n 3) 1 421 := by decide +kernel
theorem d90_421 : Dc b90 421 (.bipush 21) 2 423 := by decide +kernel
theorem d90_423 : Dc b90 423 (.if_icmp .le 18) 3 426 := by decide +kernel
theorem d90_426 : Dc b90 426 (.aload_n 0) 1 427 := by decide +kernel
theorem d90_427 : Dc b90 427 (.iload_n 1) 1 428 := by decide +kernel
theorem d90_428 : Dc b90 428 (.bipush 21) 2 430 := by decide +kernel
theorem d90_430 : Dc b90 430 (.iadd) 1 431 := by decide +kernel
theorem d90_431 : Dc b90 431 (.invokevirtual 43) 3 434 := by decide +kernel
theorem d90_434 : Dc b90 434 (.aload_n 2) 1 435 := by decide +kernel
theorem d90_435 : Dc b90 435 (.bipush 21) 2 437 := by decide +kernel
theorem d90_437 : Dc b90 437 (.caload) 1 438 := by decide +kernel
theorem d90_438 : Dc b90 438 (.if_icmp .ne 49) 3 441 := by decide +kernel
theorem d90_441 : Dc b90 441 (.iload_n 3) 1 442 := by decide +kernel
theorem d90_442 : Dc b90 442 (.bipush 22) 2 444 := by decide +kernel
theorem d90_444 : Dc b90 444 (.if_icmp .le 18) 3 447 := by decide +kernel
theorem d90_447 : Dc b90 447 (.aload_n 0) 1 448 := by decide +kernel
theorem d90_448 : Dc b90 448 (.iload_n 1) 1 449 := by decide +kernel
theorem d90_449 : Dc b90 449 (.bipush 22) 2 451 := by decide +kernel
theorem d90_451 : Dc b90 451 (.iadd) 1 452 := by decide +kernel
theorem d90_452 : Dc b90 452 (.invokevirtual 43) 3 455 := by decide +kernel
theorem d90_455 : Dc b90 455 (.aload_n 2) 1 456 := by decide +kernel
theorem d90_456 : Dc b90 456 (.bipush 22) 2 458 := by decide +kernel
theorem d90_458 : Dc b90 458 (.caload) 1 459 := by decide +kernel
theorem d90_459 : Dc b90 459 (.if_icmp .ne 28) 3 462 := by decide +kernel
theorem d90_462 : Dc b90 462 (.iload_n 3) 1 463 := by decide +kernel
theorem d90_463 : Dc b90 463 (.bipush 23) 2 465 := by decide +kernel
theorem d90_465 : Dc b90 465 (.if_icmp .le 18) 3 468 := by decide +kernel
theorem d90_468 : Dc b90 468 (.aload_n 0) 1 469 := by decide +kernel
theorem d90_469 : Dc b90 469 (.iload_n 1) 1 470 := by decide +kernel
theorem d90_470 : Dc b90 470 (.bipush 23) 2 472 := by decide +kernel
theorem d90_472 : Dc b90 472 (.iadd) 1 473 := by decide +kernel
theorem d90_473 : Dc b90 473 (.invokevirtual 43) 3 476 := by decide +kernel
theorem d90_476 : Dc b90 476 (.aload_n 2) 1 477 := by decide +kernel
theorem d90_477 : Dc b90 477 (.bipush 23) 2 479 := by decide +kernel
theorem d90_479 : Dc b90 479 (.caload) 1 480 := by decide +kernel
theorem d90_480 : Dc b90 480 (.if_icmp .ne 7) 3 483 := by decide +kernel
theorem d90_483 : Dc b90 483 (.iconst 1) 1 484 := by decide +kernel
theorem d90_484 : Dc b90 484 (.goto 4) 3 487 := by decide +kernel
theorem d90_488 : Dc b90 488 (.ireturn) 1 489 := by decide +kernel
abbrev b0 := code
theorem d0_0 : Dc b0 0 (.lload_n 0) 1 1 := by decide +kernel
theorem d0_1 : Dc b0 1 (.l2i) 1 2 := by decide +kernel
theorem d0_2 : Dc b0 2 (.istore 7) 2 4 := by decide +kernel
theorem d0_4 : Dc b0 4 (.lload_n 0) 1 5 := by decide +kernel
theorem d0_5 : Dc b0 5 (.bipush 32) 2 7 := by decide +kernel
theorem d0_7 : Dc b0 7 (.lushr) 1 8 := by decide +kernel
theorem d0_8 : Dc b0 8 (.l2i) 1 9 := by decide +kernel
theorem d0_9 : Dc b0 9 (.istore 8) 2 11 := by decide +kernel
theorem d0_11 : Dc b0 11 (.lload_n 2) 1 12 := by decide +kernel
theorem d0_12 : Dc b0 12 (.l2i) 1 13 := by decide +kernel
theorem d0_13 : Dc b0 13 (.istore 9) 2 15 := by decide +kernel
theorem d0_15 : Dc b0 15 (.lload_n 2) 1 16 := by decide +kernel
theorem d0_16 : Dc b0 16 (.bipush 32) 2 18 := by decide +kernel
theorem d0_18 : Dc b0 18 (.lushr) 1 19 := by decide +kernel
theorem d0_19 : Dc b0 19 (.l2i) 1 20 := by decide +kernel
theorem d0_20 : Dc b0 20 (.istore 10) 2 22 := by decide +kernel
theorem d0_22 : Dc b0 22 (.lload 4) 2 24 := by decide +kernel
theorem d0_24 : Dc b0 24 (.l2i) 1 25 := by decide +kernel
theorem d0_25 : Dc b0 25 (.istore 11) 2 27 := by decide +kernel
theorem d0_27 : Dc b0 27 (.lload 4) 2 29 := by decide +kernel
theorem d0_29 : Dc b0 29 (.bipush 32) 2 31 := by decide +kernel
theorem d0_31 : Dc b0 31 (.lushr) 1 32 := by decide +kernel
theorem d0_32 : Dc b0 32 (.l2i) 1 33 := by decide +kernel
theorem d0_33 : Dc b0 33 (.istore 12) 2 35 := by decide +kernel
theorem d0_35 : Dc b0 35 (.iload 6) 2 37 := by decide +kernel
theorem d0_37 : Dc b0 37 (.sipush 255) 3 40 := by decide +kernel
theorem d0_40 : Dc b0 40 (.iand) 1 41 := by decide +kernel
theorem d0_41 : Dc b0 41 (.bipush 7) 2 43 := by decide +kernel
theorem d0_43 : Dc b0 43 (.irem) 1 44 := by decide +kernel
theorem d0_44 : Dc b0 44 (.iconst 2) 1 45 := by decide +kernel
theorem d0_45 : Dc b0 45 (.imul) 1 46 := by decide +kernel
theorem d0_46 : Dc b0 46 (.istore 13) 2 48 := by decide +kernel
theorem d0_48 : Dc b0 48 (.iload 6) 2 50 := by decide +kernel
theorem d0_50 : Dc b0 50 (.bipush 8) 2 52 := by decide +kernel
theorem d0_52 : Dc b0 52 (.iushr) 1 53 := by decide +kernel
theorem d0_53 : Dc b0 53 (.sipush 255) 3 56 := by decide +kernel
theorem d0_56 : Dc b0 56 (.iand) 1 57 := by decide +kernel
theorem d0_57 : Dc b0 57 (.bipush 7) 2 59 := by decide +kernel
theorem d0_59 : Dc b0 59 (.irem) 1 60 := by decide +kernel
theorem d0_60 : Dc b0 60 (.iconst 2) 1 61 := by decide +kernel
theorem d0_61 : Dc b0 61 (.imul) 1 62 := by decide +kernel
theorem d0_62 : Dc b0 62 (.istore 14) 2 64 := by decide +kernel
theorem d0_64 : Dc b0 64 (.iload 6) 2 66 := by decide +kernel
theorem d0_66 : Dc b0 66 (.bipush 16) 2 68 := by decide +kernel
theorem d0_68 : Dc b0 68 (.iushr) 1 69 := by decide +kernel
theorem d0_69 : Dc b0 69 (.sipush 255) 3 72 := by decide +kernel
theorem d0_72 : Dc b0 72 (.iand) 1 73 := by decide +kernel
theorem d0_73 : Dc b0 73 (.bipush 13) 2 75 := by decide +kernel
theorem d0_75 : Dc b0 75 (.irem) 1 76 := by decide +kernel
theorem d0_76 : Dc b0 76 (.iconst 2) 1 77 := by decide +kernel
theorem d0_77 : Dc b0 77 (.imul) 1 78 := by decide +kernel
theorem d0_78 : Dc b0 78 (.istore 15) 2 80 := by decide +kernel
theorem d0_80 : Dc b0 80 (.iload 7) 2 82 := by decide +kernel
theorem d0_82 : Dc b0 82 (.iload 8) 2 84 := by decide +kernel
theorem d0_84 : Dc b0 84 (.iload 13) 2 86 := by decide +kernel
theorem d0_86 : Dc b0 86 (.invokestatic 7) 3 89 := by decide +kernel
theorem d0_89 : Dc b0 89 (.astore 16) 2 91 := by decide +kernel
theorem d0_91 : Dc b0 91 (.iload 9) 2 93 := by decide +kernel
theorem d0_93 : Dc b0 93 (.iload 10) 2 95 := by decide +kernel
theorem d0_95 : Dc b0 95 (.iload 14) 2 97 := by decide +kernel
theorem d0_97 : Dc b0 97 (.invokestatic 7) 3 100 := by decide +kernel
theorem d0_100 : Dc b0 100 (.astore 17) 2 102 := by decide +kernel
theorem d0_102 : Dc b0 102 (.iload 11) 2 104 := by decide +kernel
theorem d0_104 : Dc b0 104 (.iload 12) 2 106 := by decide +kernel
theorem d0_106 : Dc b0 106 (.iload 15) 2 108 := by decide +kernel
theorem d0_108 : Dc b0 108 (.invokestatic 13) 3 111 := by decide +kernel
theorem d0_111 : Dc b0 111 (.astore 18) 2 113 := by decide +kernel
theorem d0_113 : Dc b0 113 (.new 16) 3 116 := by decide +kernel
theorem d0_116 : Dc b0 116 (.dup) 1 117 := by decide +kernel
theorem d0_117 : Dc b0 117 (.aload 16) 2 119 := by decide +kernel
theorem d0_119 : Dc b0 119 (.invokespecial 18) 3 122 := by decide +kernel
theorem d0_122 : Dc b0 122 (.new 16) 3 125 := by decide +kernel
theorem d0_125 : Dc b0 125 (.dup) 1 126 := by decide +kernel
theorem d0_126 : Dc b0 126 (.aload 17) 2 128 := by decide +kernel
theorem d0_128 : Dc b0 128 (.invokespecial 18) 3 131 := by decide +kernel
theorem d0_131 : Dc b0 131 (.new 16) 3 134 := by decide +kernel
theorem d0_134 : Dc b0 134 (.dup) 1 135 := by decide +kernel
theorem d0_135 : Dc b0 135 (.aload 18) 2 137 := by decide +kernel
theorem d0_137 : Dc b0 137 (.invokespecial 18) 3 140 := by decide +kernel
theorem d0_140 : Dc b0 140 (.invokestatic 21) 3 143 := by decide +kernel
theorem d0_143 : Dc b0 143 (.astore 19) 2 145 := by decide +kernel
theorem d0_145 : Dc b0 145 (.iload 7) 2 147 := by decide +kernel
theorem d0_147 : Dc b0 147 (.iload 8) 2 149 := by decide +kernel
theorem d0_149 : Dc b0 149 (.iload 13) 2 151 := by decide +kernel
theorem d0_151 : Dc b0 151 (.bipush 12) 2 153 := by decide +kernel
theorem d0_153 : Dc b0 153 (.invokestatic 27) 3 156 := by decide +kernel
theorem d0_156 : Dc b0 156 (.istore 20) 2 158 := by decide +kernel
theorem d0_158 : Dc b0 158 (.iload 9) 2 160 := by decide +kernel
theorem d0_160 : Dc b0 160 (.iload 10) 2 162 := by decide +kernel
theorem d0_162 : Dc b0 162 (.iload 14) 2 164 := by decide +kernel
theorem d0_164 : Dc b0 164 (.bipush 12) 2 166 := by decide +kernel
theorem d0_166 : Dc b0 166 (.invokestatic 27) 3 169 := by decide +kernel
theorem d0_169 : Dc b0 169 (.istore 21) 2 171 := by decide +kernel
theorem d0_171 : Dc b0 171 (.bipush 61) 2 173 := by decide +kernel
theorem d0_173 : Dc b0 173 (.iload 11) 2 175 := by decide +kernel
theorem d0_175 : Dc b0 175 (.iload 12) 2 177 := by decide +kernel
theorem d0_177 : Dc b0 177 (.iload 15) 2 179 := by decide +kernel
theorem d0_179 : Dc b0 179 (.bipush 24) 2 181 := by decide +kernel
theorem d0_181 : Dc b0 181 (.invokestatic 27) 3 184 := by decide +kernel
theorem d0_184 : Dc b0 184 (.isub) 1 185 := by decide +kernel
theorem d0_185 : Dc b0 185 (.istore 22) 2 187 := by decide +kernel
theorem d0_187 : Dc b0 187 (.iload 20) 2 189 := by decide +kernel
theorem d0_189 : Dc b0 189 (.iload 21) 2 191 := by decide +kernel
theorem d0_191 : Dc b0 191 (.iadd) 1 192 := by decide +kernel
theorem d0_192 : Dc b0 192 (.iload 22) 2 194 := by decide +kernel
theorem d0_194 : Dc b0 194 (.isub) 1 195 := by decide +kernel
theorem d0_195 : Dc b0 195 (.istore 23) 2 197 := by decide +kernel
theorem d0_197 : Dc b0 197 (.iload 23) 2 199 := by decide +kernel
theorem d0_199 : Dc b0 199 (.ifCond .gt 14) 3 202 := by decide +kernel
theorem d0_202 : Dc b0 202 (.iload 20) 2 204 := by decide +kernel
theorem d0_204 : Dc b0 204 (.istore 24) 2 206 := by decide +kernel
theorem d0_206 : Dc b0 206 (.iload 21) 2 208 := by decide +kernel
theorem d0_208 : Dc b0 208 (.istore 25) 2 210 := by decide +kernel
theorem d0_210 : Dc b0 210 (.goto 64) 3 213 := by decide +kernel
theorem d0_213 : Dc b0 213 (.iload 20) 2 215 := by decide +kernel
theorem d0_215 : Dc b0 215 (.iload 21) 2 217 := by decide +kernel
theorem d0_217 : Dc b0 217 (.isub) 1 218 := by decide +kernel
theorem d0_218 : Dc b0 218 (.iload 23) 2 220 := by decide +kernel
theorem d0_220 : Dc b0 220 (.if_icmp .lt 17) 3 223 := by decide +kernel
theorem d0_223 : Dc b0 223 (.iload 20) 2 225 := by decide +kernel
theorem d0_225 : Dc b0 225 (.iload 23) 2 227 := by decide +kernel
theorem d0_227 : Dc b0 227 (.isub) 1 228 := by decide +kernel
theorem d0_228 : Dc b0 228 (.istore 24) 2 230 := by decide +kernel
theorem d0_230 : Dc b0 230 (.iload 21) 2 232 := by decide +kernel
theorem d0_232 : Dc b0 232 (.istore 25) 2 234 := by decide +kernel
theorem d0_234 : Dc b0 234 (.goto 40) 3 237 := by decide +kernel
theorem d0_237 : Dc b0 237 (.iload 21) 2 239 := by decide +kernel
theorem d0_239 : Dc b0 239 (.iload 20) 2 241 := by decide +kernel
theorem d0_241 : Dc b0 241 (.isub) 1 242 := by decide +kernel
theorem d0_242 : Dc b0 242 (.iload 23) 2 244 := by decide +kernel
theorem d0_244 : Dc b0 244 (.if_icmp .lt 17) 3 247 := by decide +kernel
theorem d0_247 : Dc b0 247 (.iload 20) 2 249 := by decide +kernel
theorem d0_249 : Dc b0 249 (.istore 24) 2 251 := by decide +kernel
theorem d0_251 : Dc b0 251 (.iload 21) 2 253 := by decide +kernel
theorem d0_253 : Dc b0 253 (.iload 23) 2 255 := by decide +kernel
theorem d0_255 : Dc b0 255 (.isub) 1 256 := by decide +kernel
theorem d0_256 : Dc b0 256 (.istore 25) 2 258 := by decide +kernel
theorem d0_258 : Dc b0 258 (.goto 16) 3 261 := by decide +kernel
theorem d0_261 : Dc b0 261 (.iload 22) 2 263 := by decide +kernel
theorem d0_263 : Dc b0 263 (.iconst 1) 1 264 := by decide +kernel
theorem d0_264 : Dc b0 264 (.ishr) 1 265 := by decide +kernel
theorem d0_265 : Dc b0 265 (.istore 25) 2 267 := by decide +kernel
theorem d0_267 : Dc b0 267 (.iload 22) 2 269 := by decide +kernel
theorem d0_269 : Dc b0 269 (.iload 25) 2 271 := by decide +kernel
theorem d0_271 : Dc b0 271 (.isub) 1 272 := by decide +kernel
theorem d0_272 : Dc b0 272 (.istore 24) 2 274 := by decide +kernel
theorem d0_274 : Dc b0 274 (.iload 7) 2 276 := by decide +kernel
theorem d0_276 : Dc b0 276 (.iload 8) 2 278 := by decide +kernel
theorem d0_278 : Dc b0 278 (.iload 13) 2 280 := by decide +kernel
theorem d0_280 : Dc b0 280 (.bipush 12) 2 282 := by decide +kernel
theorem d0_282 : Dc b0 282 (.iload 24) 2 284 := by decide +kernel
theorem d0_284 : Dc b0 284 (.invokestatic 31) 3 287 := by decide +kernel
theorem d0_287 : Dc b0 287 (.istore 26) 2 289 := by decide +kernel
theorem d0_289 : Dc b0 289 (.iload 9) 2 291 := by decide +kernel
theorem d0_291 : Dc b0 291 (.iload 10) 2 293 := by decide +kernel
theorem d0_293 : Dc b0 293 (.iload 14) 2 295 := by decide +kernel
theorem d0_295 : Dc b0 295 (.bipush 12) 2 297 := by decide +kernel
theorem d0_297 : Dc b0 297 (.iload 25) 2 299 := by decide +kernel
theorem d0_299 : Dc b0 299 (.invokestatic 31) 3 302 := by decide +kernel
theorem d0_302 : Dc b0 302 (.istore 27) 2 304 := by decide +kernel
theorem d0_304 : Dc b0 304 (.aload 19) 2 306 := by decide +kernel
theorem d0_306 : Dc b0 306 (.invokevirtual 35) 3 309 := by decide +kernel
theorem d0_309 : Dc b0 309 (.iload 26) 2 311 := by decide +kernel
theorem d0_311 : Dc b0 311 (.iload 27) 2 313 := by decide +kernel
theorem d0_313 : Dc b0 313 (.iadd) 1 314 := by decide +kernel
theorem d0_314 : Dc b0 314 (.bipush 26) 2 316 := by decide +kernel
theorem d0_316 : Dc b0 316 (.iadd) 1 317 := by decide +kernel
theorem d0_317 : Dc b0 317 (.if_icmp .ne 84) 3 320 := by decide +kernel
theorem d0_320 : Dc b0 320 (.aload 19) 2 322 := by decide +kernel
theorem d0_322 : Dc b0 322 (.iconst 0) 1 323 := by decide +kernel
theorem d0_323 : Dc b0 323 (.aload 16) 2 325 := by decide +kernel
theorem d0_325 : Dc b0 325 (.iload 26) 2 327 := by decide +kernel
theorem d0_327 : Dc b0 327 (.invokestatic 39) 3 330 := by decide +kernel
theorem d0_330 : Dc b0 330 (.ifCond .eq 71) 3 333 := by decide +kernel
theorem d0_333 : Dc b0 333 (.aload 19) 2 335 := by decide +kernel
theorem d0_335 : Dc b0 335 (.iload 26) 2 337 := by decide +kernel
theorem d0_337 : Dc b0 337 (.invokevirtual 43) 3 340 := by decide +kernel
theorem d0_340 : Dc b0 340 (.bipush 95) 2 342 := by decide +kernel
theorem d0_342 : Dc b0 342 (.if_icmp .ne 59) 3 345 := by decide +kernel
theorem d0_345 : Dc b0 345 (.aload 19) 2 347 := by decide +kernel
theorem d0_347 : Dc b0 347 (.iload 26) 2 349 := by decide +kernel
theorem d0_349 : Dc b0 349 (.iconst 1) 1 350 := by decide +kernel
theorem d0_350 : Dc b0 350 (.iadd) 1 351 := by decide +kernel
theorem d0_351 : Dc b0 351 (.aload 17) 2 353 := by decide +kernel
theorem d0_353 : Dc b0 353 (.iload 27) 2 355 := by decide +kernel
theorem d0_355 : Dc b0 355 (.invokestatic 39) 3 358 := by decide +kernel
theorem d0_358 : Dc b0 358 (.ifCond .eq 43) 3 361 := by decide +kernel
theorem d0_361 : Dc b0 361 (.aload 19) 2 363 := by decide +kernel
theorem d0_363 : Dc b0 363 (.iload 26) 2 365 := by decide +kernel
theorem d0_365 : Dc b0 365 (.iconst 1) 1 366 := by decide +kernel
theorem d0_366 : Dc b0 366 (.iadd) 1 367 := by decide +kernel
theorem d0_367 : Dc b0 367 (.iload 27) 2 369 := by decide +kernel
theorem d0_369 : Dc b0 369 (.iadd) 1 370 := by decide +kernel
theorem d0_370 : Dc b0 370 (.invokevirtual 43) 3 373 := by decide +kernel
theorem d0_373 : Dc b0 373 (.bipush 95) 2 375 := by decide +kernel
theorem d0_375 : Dc b0 375 (.if_icmp .ne 26) 3 378 := by decide +kernel
theorem d0_378 : Dc b0 378 (.aload 19) 2 380 := by decide +kernel
theorem d0_380 : Dc b0 380 (.iload 26) 2 382 := by decide +kernel
theorem d0_382 : Dc b0 382 (.iload 27) 2 384 := by decide +kernel
theorem d0_384 : Dc b0 384 (.iadd) 1 385 := by decide +kernel
theorem d0_385 : Dc b0 385 (.iconst 2) 1 386 := by decide +kernel
theorem d0_386 : Dc b0 386 (.iadd) 1 387 := by decide +kernel
theorem d0_387 : Dc b0 387 (.aload 18) 2 389 := by decide +kernel
theorem d0_389 : Dc b0 389 (.bipush 24) 2 391 := by decide +kernel
theorem d0_391 : Dc b0 391 (.invokestatic 39) 3 394 := by decide +kernel
theorem d0_394 : Dc b0 394 (.ifCond .eq 7) 3 397 := by decide +kernel
theorem d0_397 : Dc b0 397 (.iconst 1) 1 398 := by decide +kernel
theorem d0_398 : Dc b0 398 (.goto 4) 3 401 := by decide +kernel
theorem d0_402 : Dc b0 402 (.ireturn) 1 403 := by decide +kernel
section Words
variable {Z : State} {a0 : Array Value} (hw : ∀ d ∈ tables_1, d.before a0 Z = true)
def w0 := hw _ (List.mem_of_getElem? (i := 0) rfl)
def w1 := hw _ (List.mem_of_getElem? (i := 1) rfl)
def w2 := hw _ (List.mem_of_getElem? (i := 2) rfl)
def w3 := hw _ (List.mem_of_getElem? (i := 3) rfl)
def w4 := hw _ (List.mem_of_getElem? (i := 4) rfl)
def w5 := hw _ (List.mem_of_getElem? (i := 5) rfl)
def w6 := hw _ (List.mem_of_getElem? (i := 6) rfl)
def w7 := hw _ (List.mem_of_getElem? (i := 7) rfl)
def w8 := hw _ (List.mem_of_getElem? (i := 8) rfl)
def w9 := hw _ (List.mem_of_getElem? (i := 9) rfl)
def w10 := hw _ (List.mem_of_getElem? (i := 10) rfl)
def w11 := hw _ (List.mem_of_getElem? (i := 11) rfl)
def w12 := hw _ (List.mem_of_getElem? (i := 12) rfl)
def w13 := hw _ (List.mem_of_getElem? (i := 13) rfl)
def w14 := hw _ (List.mem_of_getElem? (i := 14) rfl)
def w15 := hw _ (List.mem_of_getElem? (i := 15) rfl)
def w16 := hw _ (List.mem_of_getElem? (i := 16) rfl)
def w17 := hw _ (List.mem_of_getElem? (i := 17) rfl)
def w18 := hw _ (List.mem_of_getElem? (i := 18) rfl)
def w19 := hw _ (List.mem_of_getElem? (i := 19) rfl)
def w20 := hw _ (List.mem_of_getElem? (i := 20) rfl)
def w21 := hw _ (List.mem_of_getElem? (i := 21) rfl)
def w22 := hw _ (List.mem_of_getElem? (i := 22) rfl)
def w23 := hw _ (List.mem_of_getElem? (i := 23) rfl)
def w24 := hw _ (List.mem_of_getElem? (i := 24) rfl)
def w25 := hw _ (List.mem_of_getElem? (i := 25) rfl)
def w26 := hw _ (List.mem_of_getElem? (i := 26) rfl)
def w27 := hw _ (List.mem_of_getElem? (i := 27) rfl)
def w28 := hw _ (List.mem_of_getElem? (i := 28) rfl)
def w30 := hw _ (List.mem_of_getElem? (i := 30) rfl)
def w31 := hw _ (List.mem_of_getElem? (i := 31) rfl)
def w32 := hw _ (List.mem_of_getElem? (i := 32) rfl)
def w33 := hw _ (List.mem_of_getElem? (i := 33) rfl)
def w34 := hw _ (List.mem_of_getElem? (i := 34) rfl)
def w35 := hw _ (List.mem_of_getElem? (i := 35) rfl)
def w36 := hw _ (List.mem_of_getElem? (i := 36) rfl)
def w37 := hw _ (List.mem_of_getElem? (i := 37) rfl)
def w38 := hw _ (List.mem_of_getElem? (i := 38) rfl)
def w39 := hw _ (List.mem_of_getElem? (i := 39) rfl)
def w40 := hw _ (List.mem_of_getElem? (i := 40) rfl)
def w41 := hw _ (List.mem_of_getElem? (i := 41) rfl)
def w42 := hw _ (List.mem_of_getElem? (i := 42) rfl)
def w43 := hw _ (List.mem_of_getElem? (i := 43) rfl)
def w44 := hw _ (List.mem_of_getElem? (i := 44) rfl)
def w45 := hw _ (List.mem_of_getElem? (i := 45) rfl)
def w46 := hw _ (List.mem_of_getElem? (i := 46) rfl)
def w47 := hw _ (List.mem_of_getElem? (i := 47) rfl)
def w48 := hw _ (List.mem_of_getElem? (i := 48) rfl)
def w49 := hw _ (List.mem_of_getElem? (i := 49) rfl)
def w50 := hw _ (List.mem_of_getElem? (i := 50) rfl)
def w51 := hw _ (List.mem_of_getElem? (i := 51) rfl)
def w52 := hw _ (List.mem_of_getElem? (i := 52) rfl)
def w53 := hw _ (List.mem_of_getElem? (i := 53) rfl)
def w54 := hw _ (List.mem_of_getElem? (i := 54) rfl)
def w55 := hw _ (List.mem_of_getElem? (i := 55) rfl)
def w56 := hw _ (List.mem_of_getElem? (i := 56) rfl)
def w57 := hw _ (List.mem_of_getElem? (i := 57) rfl)
def w58 := hw _ (List.mem_of_getElem? (i := 58) rfl)
def w59 := hw _ (List.mem_of_getElem? (i := 59) rfl)
def w60 := hw _ (List.mem_of_getElem? (i := 60) rfl)
def w61 := hw _ (List.mem_of_getElem? (i := 61) rfl)
def w62 := hw _ (List.mem_of_getElem? (i := 62) rfl)
def w63 := hw _ (List.mem_of_getElem? (i := 63) rfl)
def w64 := hw _ (List.mem_of_getElem? (i := 64) rfl)
def w65 := hw _ (List.mem_of_getElem? (i := 65) rfl)
def w66 := hw _ (List.mem_of_getElem? (i := 66) rfl)
def w67 := hw _ (List.mem_of_getElem? (i := 67) rfl)
def w68 := hw _ (List.mem_of_getElem? (i := 68) rfl)
def w69 := hw _ (List.mem_of_getElem? (i := 69) rfl)
def w70 := hw _ (List.mem_of_getElem? (i := 70) rfl)
def w71 := hw _ (List.mem_of_getElem? (i := 71) rfl)
def w72 := hw _ (List.mem_of_getElem? (i := 72) rfl)
def w73 := hw _ (List.mem_of_getElem? (i := 73) rfl)
def w74 := hw _ (List.mem_of_getElem? (i := 74) rfl)
def w75 := hw _ (List.mem_of_getElem? (i := 75) rfl)
def w76 := hw _ (List.mem_of_getElem? (i := 76) rfl)
def w78 := hw _ (List.mem_of_getElem? (i := 78) rfl)
def w79 := hw _ (List.mem_of_getElem? (i := 79) rfl)
def w80 := hw _ (List.mem_of_getElem? (i := 80) rfl)
def w81 := hw _ (List.mem_of_getElem? (i := 81) rfl)
def w82 := hw _ (List.mem_of_getElem? (i := 82) rfl)
def w83 := hw _ (List.mem_of_getElem? (i := 83) rfl)
def w84 := hw _ (List.mem_of_getElem? (i := 84) rfl)
def w85 := hw _ (List.mem_of_getElem? (i := 85) rfl)
def w86 := hw _ (List.mem_of_getElem? (i := 86) rfl)
def w87 := hw _ (List.mem_of_getElem? (i := 87) rfl)
def w88 := hw _ (List.mem_of_getElem? (i := 88) rfl)
def w89 := hw _ (List.mem_of_getElem? (i := 89) rfl)
def w90 := hw _ (List.mem_of_getElem? (i := 90) rfl)
def w91 := hw _ (List.mem_of_getElem? (i := 91) rfl)
def w93 := hw _ (List.mem_of_getElem? (i := 93) rfl)
def w94 := hw _ (List.mem_of_getElem? (i := 94) rfl)
def w95 := hw _ (List.mem_of_getElem? (i := 95) rfl)
def w96 := hw _ (List.mem_of_getElem? (i := 96) rfl)
def w97 := hw _ (List.mem_of_getElem? (i := 97) rfl)
def w98 := hw _ (List.mem_of_getElem? (i := 98) rfl)
def w99 := hw _ (List.mem_of_getElem? (i := 99) rfl)
def w100 := hw _ (List.mem_of_getElem? (i := 100) rfl)
def w101 := hw _ (List.mem_of_getElem? (i := 101) rfl)
def w102 := hw _ (List.mem_of_getElem? (i := 102) rfl)
def w103 := hw _ (List.mem_of_getElem? (i := 103) rfl)
def w104 := hw _ (List.mem_of_getElem? (i := 104) rfl)
def w105 := hw _ (List.mem_of_getElem? (i := 105) rfl)
def w106 := hw _ (List.mem_of_getElem? (i := 106) rfl)
def w107 := hw _ (List.mem_of_getElem? (i := 107) rfl)
def w108 := hw _ (List.mem_of_getElem? (i := 108) rfl)
def w109 := hw _ (List.mem_of_getElem? (i := 109) rfl)
def w110 := hw _ (List.mem_of_getElem? (i := 110) rfl)
def w111 := hw _ (List.mem_of_getElem? (i := 111) rfl)
def w112 := hw _ (List.mem_of_getElem? (i := 112) rfl)
def w113 := hw _ (List.mem_of_getElem? (i := 113) rfl)
def w114 := hw _ (List.mem_of_getElem? (i := 114) rfl)
def w115 := hw _ (List.mem_of_getElem? (i := 115) rfl)
def w116 := hw _ (List.mem_of_getElem? (i := 116) rfl)
def w117 := hw _ (List.mem_of_getElem? (i := 117) rfl)
def w118 := hw _ (List.mem_of_getElem? (i := 118) rfl)
def w119 := hw _ (List.mem_of_getElem? (i := 119) rfl)
def w120 := hw _ (List.mem_of_getElem? (i := 120) rfl)
def w121 := hw _ (List.mem_of_getElem? (i := 121) rfl)
def w122 := hw _ (List.mem_of_getElem? (i := 122) rfl)
def w123 := hw _ (List.mem_of_getElem? (i := 123) rfl)
def w124 := hw _ (List.mem_of_getElem? (i := 124) rfl)
def w125 := hw _ (List.mem_of_getElem? (i := 125) rfl)
def w126 := hw _ (List.mem_of_getElem? (i := 126) rfl)
def w127 := hw _ (List.mem_of_getElem? (i := 127) rfl)
def w128 := hw _ (List.mem_of_getElem? (i := 128) rfl)
def w129 := hw _ (List.mem_of_getElem? (i := 129) rfl)
def w130 := hw _ (List.mem_of_getElem? (i := 130) rfl)
def w131 := hw _ (List.mem_of_getElem? (i := 131) rfl)
def w132 := hw _ (List.mem_of_getElem? (i := 132) rfl)
def w133 := hw _ (List.mem_of_getElem? (i := 133) rfl)
def w134 := hw _ (List.mem_of_getElem? (i := 134) rfl)
def w135 := hw _ (List.mem_of_getElem? (i := 135) rfl)
def w136 := hw _ (List.mem_of_getElem? (i := 136) rfl)
def w137 := hw _ (List.mem_of_getElem? (i := 137) rfl)
def w139 := hw _ (List.mem_of_getElem? (i := 139) rfl)
def w140 := hw _ (List.mem_of_getElem? (i := 140) rfl)
def w141 := hw _ (List.mem_of_getElem? (i := 141) rfl)
def w142 := hw _ (List.mem_of_getElem? (i := 142) rfl)
def w143 := hw _ (List.mem_of_getElem? (i := 143) rfl)
def w144 := hw _ (List.mem_of_getElem? (i := 144) rfl)
def w145 := hw _ (List.mem_of_getElem? (i := 145) rfl)
def w146 := hw _ (List.mem_of_getElem? (i := 146) rfl)
def w147 := hw _ (List.mem_of_getElem? (i := 147) rfl)
def w148 := hw _ (List.mem_of_getElem? (i := 148) rfl)
def w149 := hw _ (List.mem_of_getElem? (i := 149) rfl)
def w150 := hw _ (List.mem_of_getElem? (i := 150) rfl)
def w151 := hw _ (List.mem_of_getElem? (i := 151) rfl)
def w152 := hw _ (List.mem_of_getElem? (i := 152) rfl)
def w154 := hw _ (List.mem_of_getElem? (i := 154) rfl)
def w155 := hw _ (List.mem_of_getElem? (i := 155) rfl)
def w156 := hw _ (List.mem_of_getElem? (i := 156) rfl)
def w157 := hw _ (List.mem_of_getElem? (i := 157) rfl)
def w158 := hw _ (List.mem_of_getElem? (i := 158) rfl)
def w159 := hw _ (List.mem_of_getElem? (i := 159) rfl)
def w160 := hw _ (List.mem_of_getElem? (i := 160) rfl)
def w161 := hw _ (List.mem_of_getElem? (i := 161) rfl)
def w162 := hw _ (List.mem_of_getElem? (i := 162) rfl)
def w163 := hw _ (List.mem_of_getElem? (i := 163) rfl)
def w164 := hw _ (List.mem_of_getElem? (i := 164) rfl)
def w165 := hw _ (List.mem_of_getElem? (i := 165) rfl)
def w166 := hw _ (List.mem_of_getElem? (i := 166) rfl)
def w167 := hw _ (List.mem_of_getElem? (i := 167) rfl)
def w168 := hw _ (List.mem_of_getElem? (i := 168) rfl)
def w169 := hw _ (List.mem_of_getElem? (i := 169) rfl)
def w170 := hw _ (List.mem_of_getElem? (i := 170) rfl)
def w171 := hw _ (List.mem_of_getElem? (i := 171) rfl)
def w172 := hw _ (List.mem_of_getElem? (i := 172) rfl)
def w173 := hw _ (List.mem_of_getElem? (i := 173) rfl)
def w174 := hw _ (List.mem_of_getElem? (i := 174) rfl)
def w175 := hw _ (List.mem_of_getElem? (i := 175) rfl)
def w176 := hw _ (List.mem_of_getElem? (i := 176) rfl)
def w177 := hw _ (List.mem_of_getElem? (i := 177) rfl)
def w178 := hw _ (List.mem_of_getElem? (i := 178) rfl)
def w179 := hw _ (List.mem_of_getElem? (i := 179) rfl)
def w180 := hw _ (List.mem_of_getElem? (i := 180) rfl)
def w181 := hw _ (List.mem_of_getElem? (i := 181) rfl)
def w182 := hw _ (List.mem_of_getElem? (i := 182) rfl)
def w183 := hw _ (List.mem_of_getElem? (i := 183) rfl)
def w184 := hw _ (List.mem_of_getElem? (i := 184) rfl)
def w185 := hw _ (List.mem_of_getElem? (i := 185) rfl)
def w186 := hw _ (List.mem_of_getElem? (i := 186) rfl)
def w187 := hw _ (List.mem_of_getElem? (i := 187) rfl)
def w188 := hw _ (List.mem_of_getElem? (i := 188) rfl)
def w189 := hw _ (List.mem_of_getElem? (i := 189) rfl)
def w190 := hw _ (List.mem_of_getElem? (i := 190) rfl)
def w191 := hw _ (List.mem_of_getElem? (i := 191) rfl)
def w192 := hw _ (List.mem_of_getElem? (i := 192) rfl)
def w193 := hw _ (List.mem_of_getElem? (i := 193) rfl)
def w194 := hw _ (List.mem_of_getElem? (i := 194) rfl)
def w195 := hw _ (List.mem_of_getElem? (i := 195) rfl)
def w196 := hw _ (List.mem_of_getElem? (i := 196) rfl)
def w197 := hw _ (List.mem_of_getElem? (i := 197) rfl)
def w198 := hw _ (List.mem_of_getElem? (i := 198) rfl)
def w199 := hw _ (List.mem_of_getElem? (i := 199) rfl)
def w200 := hw _ (List.mem_of_getElem? (i := 200) rfl)
def w201 := hw _ (List.mem_of_getElem? (i := 201) rfl)
def w202 := hw _ (List.mem_of_getElem? (i := 202) rfl)
def w203 := hw _ (List.mem_of_getElem? (i := 203) rfl)
def w204 := hw _ (List.mem_of_getElem? (i := 204) rfl)
def w205 := hw _ (List.mem_of_getElem? (i := 205) rfl)
def w206 := hw _ (List.mem_of_getElem? (i := 206) rfl)
def w207 := hw _ (List.mem_of_getElem? (i := 207) rfl)
def w208 := hw _ (List.mem_of_getElem? (i := 208) rfl)
def w209 := hw _ (List.mem_of_getElem? (i := 209) rfl)
def w210 := hw _ (List.mem_of_getElem? (i := 210) rfl)
def w211 := hw _ (List.mem_of_getElem? (i := 211) rfl)
def w212 := hw _ (List.mem_of_getElem? (i := 212) rfl)
def w213 := hw _ (List.mem_of_getElem? (i := 213) rfl)
def w214 := hw _ (List.mem_of_getElem? (i := 214) rfl)
def w215 := hw _ (List.mem_of_getElem? (i := 215) rfl)
def w216 := hw _ (List.mem_of_getElem? (i := 216) rfl)
def w217 := hw _ (List.mem_of_getElem? (i := 217) rfl)
def w218 := hw _ (List.mem_of_getElem? (i := 218) rfl)
def w219 := hw _ (List.mem_of_getElem? (i := 219) rfl)
def w220 := hw _ (List.mem_of_getElem? (i := 220) rfl)
def w221 := hw _ (List.mem_of_getElem? (i := 221) rfl)
def w222 := hw _ (List.mem_of_getElem? (i := 222) rfl)
def w223 := hw _ (List.mem_of_getElem? (i := 223) rfl)
def w224 := hw _ (List.mem_of_getElem? (i := 224) rfl)
def w225 := hw _ (List.mem_of_getElem? (i := 225) rfl)
def w226 := hw _ (List.mem_of_getElem? (i := 226) rfl)
def w227 := hw _ (List.mem_of_getElem? (i := 227) rfl)
def w228 := hw _ (List.mem_of_getElem? (i := 228) rfl)
def w229 := hw _ (List.mem_of_getElem? (i := 229) rfl)
def w230 := hw _ (List.mem_of_getElem? (i := 230) rfl)
def w231 := hw _ (List.mem_of_getElem? (i := 231) rfl)
def w232 := hw _ (List.mem_of_getElem? (i := 232) rfl)
def w233 := hw _ (List.mem_of_getElem? (i := 233) rfl)
def w234 := hw _ (List.mem_of_getElem? (i := 234) rfl)
def w235 := hw _ (List.mem_of_getElem? (i := 235) rfl)
def w236 := hw _ (List.mem_of_getElem? (i := 236) rfl)
def w237 := hw _ (List.mem_of_getElem? (i := 237) rfl)
def w238 := hw _ (List.mem_of_getElem? (i := 238) rfl)
def w239 := hw _ (List.mem_of_getElem? (i := 239) rfl)
def w240 := hw _ (List.mem_of_getElem? (i := 240) rfl)
def w241 := hw _ (List.mem_of_getElem? (i := 241) rfl)
def w242 := hw _ (List.mem_of_getElem? (i := 242) rfl)
def w243 := hw _ (List.mem_of_getElem? (i := 243) rfl)
def w244 := hw _ (List.mem_of_getElem? (i := 244) rfl)
def w245 := hw _ (List.mem_of_getElem? (i := 245) rfl)
def w246 := hw _ (List.mem_of_getElem? (i := 246) rfl)
def w247 := hw _ (List.mem_of_getElem? (i := 247) rfl)
def w248 := hw _ (List.mem_of_getElem? (i := 248) rfl)
def w249 := hw _ (List.mem_of_getElem? (i := 249) rfl)
def w250 := hw _ (List.mem_of_getElem? (i := 250) rfl)
def w251 := hw _ (List.mem_of_getElem? (i := 251) rfl)
def w252 := hw _ (List.mem_of_getElem? (i := 252) rfl)
def w253 := hw _ (List.mem_of_getElem? (i := 253) rfl)
def w254 := hw _ (List.mem_of_getElem? (i := 254) rfl)
def w255 := hw _ (List.mem_of_getElem? (i := 255) rfl)
def w256 := hw _ (List.mem_of_getElem? (i := 256) rfl)
def w257 := hw _ (List.mem_of_getElem? (i := 257) rfl)
def w258 := hw _ (List.mem_of_getElem? (i := 258) rfl)
def w259 := hw _ (List.mem_of_getElem? (i := 259) rfl)
def w260 := hw _ (List.mem_of_getElem? (i := 260) rfl)
def w261 := hw _ (List.mem_of_getElem? (i := 261) rfl)
def w262 := hw _ (List.mem_of_getElem? (i := 262) rfl)
def w263 := hw _ (List.mem_of_getElem? (i := 263) rfl)
def w264 := hw _ (List.mem_of_getElem? (i := 264) rfl)
def w265 := hw _ (List.mem_of_getElem? (i := 265) rfl)
def w266 := hw _ (List.mem_of_getElem? (i := 266) rfl)
def w267 := hw _ (List.mem_of_getElem? (i := 267) rfl)
def w268 := hw _ (List.mem_of_getElem? (i := 268) rfl)
def w269 := hw _ (List.mem_of_getElem? (i := 269) rfl)
def w270 := hw _ (List.mem_of_getElem? (i := 270) rfl)
def w271 := hw _ (List.mem_of_getElem? (i := 271) rfl)
def w272 := hw _ (List.mem_of_getElem? (i := 272) rfl)
def w273 := hw _ (List.mem_of_getElem? (i := 273) rfl)
def w274 := hw _ (List.mem_of_getElem? (i := 274) rfl)
def w275 := hw _ (List.mem_of_getElem? (i := 275) rfl)
def w276 := hw _ (List.mem_of_getElem? (i := 276) rfl)
def w277 := hw _ (List.mem_of_getElem? (i := 277) rfl)
def w278 := hw _ (List.mem_of_getElem? (i := 278) rfl)
def w279 := hw _ (List.mem_of_getElem? (i := 279) rfl)
def w280 := hw _ (List.mem_of_getElem? (i := 280) rfl)
def w281 := hw _ (List.mem_of_getElem? (i := 281) rfl)
def w282 := hw _ (List.mem_of_getElem? (i := 282) rfl)
def w283 := hw _ (List.mem_of_getElem? (i := 283) rfl)
def w284 := hw _ (List.mem_of_getElem? (i := 284) rfl)
def w285 := hw _ (List.mem_of_getElem? (i := 285) rfl)
def w286 := hw _ (List.mem_of_getElem? (i := 286) rfl)
def w287 := hw _ (List.mem_of_getElem? (i := 287) rfl)
def w288 := hw _ (List.mem_of_getElem? (i := 288) rfl)
def w289 := hw _ (List.mem_of_getElem? (i := 289) rfl)
def w290 := hw _ (List.mem_of_getElem? (i := 290) rfl)
def w291 := hw _ (List.mem_of_getElem? (i := 291) rfl)
def w292 := hw _ (List.mem_of_getElem? (i := 292) rfl)
def w293 := hw _ (List.mem_of_getElem? (i := 293) rfl)
def w295 := hw _ (List.mem_of_getElem? (i := 295) rfl)
def w296 := hw _ (List.mem_of_getElem? (i := 296) rfl)
def w297 := hw _ (List.mem_of_getElem? (i := 297) rfl)
def w298 := hw _ (List.mem_of_getElem? (i := 298) rfl)
def w300 := hw _ (List.mem_of_getElem? (i := 300) rfl)
def w301 := hw _ (List.mem_of_getElem? (i := 301) rfl)
def w302 := hw _ (List.mem_of_getElem? (i := 302) rfl)
def w303 := hw _ (List.mem_of_getElem? (i := 303) rfl)
def w305 := hw _ (List.mem_of_getElem? (i := 305) rfl)
def w306 := hw _ (List.mem_of_getElem? (i := 306) rfl)
def w307 := hw _ (List.mem_of_getElem? (i := 307) rfl)
def w308 := hw _ (List.mem_of_getElem? (i := 308) rfl)
def w309 := hw _ (List.mem_of_getElem? (i := 309) rfl)
def w311 := hw _ (List.mem_of_getElem? (i := 311) rfl)
def w312 := hw _ (List.mem_of_getElem? (i := 312) rfl)
def w313 := hw _ (List.mem_of_getElem? (i := 313) rfl)
def w314 := hw _ (List.mem_of_getElem? (i := 314) rfl)
def w315 := hw _ (List.mem_of_getElem? (i := 315) rfl)
def w316 := hw _ (List.mem_of_getElem? (i := 316) rfl)
def w317 := hw _ (List.mem_of_getElem? (i := 317) rfl)
def w318 := hw _ (List.mem_of_getElem? (i := 318) rfl)
def w319 := hw _ (List.mem_of_getElem? (i := 319) rfl)
def w320 := hw _ (List.mem_of_getElem? (i := 320) rfl)
def w321 := hw _ (List.mem_of_getElem? (i := 321) rfl)
def w322 := hw _ (List.mem_of_getElem? (i := 322) rfl)
def w323 := hw _ (List.mem_of_getElem? (i := 323) rfl)
def w324 := hw _ (List.mem_of_getElem? (i := 324) rfl)
def w325 := hw _ (List.mem_of_getElem? (i := 325) rfl)
def w326 := hw _ (List.mem_of_getElem? (i := 326) rfl)
def w327 := hw _ (List.mem_of_getElem? (i := 327) rfl)
def w328 := hw _ (List.mem_of_getElem? (i := 328) rfl)
def w329 := hw _ (List.mem_of_getElem? (i := 329) rfl)
def w330 := hw _ (List.mem_of_getElem? (i := 330) rfl)
def w331 := hw _ (List.mem_of_getElem? (i := 331) rfl)
def w332 := hw _ (List.mem_of_getElem? (i := 332) rfl)
def w333 := hw _ (List.mem_of_getElem? (i := 333) rfl)
def w334 := hw _ (List.mem_of_getElem? (i := 334) rfl)
def w335 := hw _ (List.mem_of_getElem? (i := 335) rfl)
def w336 := hw _ (List.mem_of_getElem? (i := 336) rfl)
def w337 := hw _ (List.mem_of_getElem? (i := 337) rfl)
def w338 := hw _ (List.mem_of_getElem? (i := 338) rfl)
def w339 := hw _ (List.mem_of_getElem? (i := 339) rfl)
def w340 := hw _ (List.mem_of_getElem? (i := 340) rfl)
def w341 := hw _ (List.mem_of_getElem? (i := 341) rfl)
def w342 := hw _ (List.mem_of_getElem? (i := 342) rfl)
def w343 := hw _ (List.mem_of_getElem? (i := 343) rfl)
def w344 := hw _ (List.mem_of_getElem? (i := 344) rfl)
def w345 := hw _ (List.mem_of_getElem? (i := 345) rfl)
def w347 := hw _ (List.mem_of_getElem? (i := 347) rfl)
def w348 := hw _ (List.mem_of_getElem? (i := 348) rfl)
def w349 := hw _ (List.mem_of_getElem? (i := 349) rfl)
def w350 := hw _ (List.mem_of_getElem? (i := 350) rfl)
def w351 := hw _ (List.mem_of_getElem? (i := 351) rfl)
def w352 := hw _ (List.mem_of_getElem? (i := 352) rfl)
def w353 := hw _ (List.mem_of_getElem? (i := 353) rfl)
def w354 := hw _ (List.mem_of_getElem? (i := 354) rfl)
def w355 := hw _ (List.mem_of_getElem? (i := 355) rfl)
def w356 := hw _ (List.mem_of_getElem? (i := 356) rfl)
def w357 := hw _ (List.mem_of_getElem? (i := 357) rfl)
def w358 := hw _ (List.mem_of_getElem? (i := 358) rfl)
def w359 := hw _ (List.mem_of_getElem? (i := 359) rfl)
def w360 := hw _ (List.mem_of_getElem? (i := 360) rfl)
def w361 := hw _ (List.mem_of_getElem? (i := 361) rfl)
def w362 := hw _ (List.mem_of_getElem? (i := 362) rfl)
def w363 := hw _ (List.mem_of_getElem? (i := 363) rfl)
def w364 := hw _ (List.mem_of_getElem? (i := 364) rfl)
def w365 := hw _ (List.mem_of_getElem? (i := 365) rfl)
def w366 := hw _ (List.mem_of_getElem? (i := 366) rfl)
def w367 := hw _ (List.mem_of_getElem? (i := 367) rfl)
def w368 := hw _ (List.mem_of_getElem? (i := 368) rfl)
def w369 := hw _ (List.mem_of_getElem? (i := 369) rfl)
def w370 := hw _ (List.mem_of_getElem? (i := 370) rfl)
def w371 := hw _ (List.mem_of_getElem? (i := 371) rfl)
def w372 := hw _ (List.mem_of_getElem? (i := 372) rfl)
def w373 := hw _ (List.mem_of_getElem? (i := 373) rfl)
def w374 := hw _ (List.mem_of_getElem? (i := 374) rfl)
def w375 := hw _ (List.mem_of_getElem? (i := 375) rfl)
def w376 := hw _ (List.mem_of_getElem? (i := 376) rfl)
def w377 := hw _ (List.mem_of_getElem? (i := 377) rfl)
def w378 := hw _ (List.mem_of_getElem? (i := 378) rfl)
def w379 := hw _ (List.mem_of_getElem? (i := 379) rfl)
def w380 := hw _ (List.mem_of_getElem? (i := 380) rfl)
def w381 := hw _ (List.mem_of_getElem? (i := 381) rfl)
def w382 := hw _ (List.mem_of_getElem? (i := 382) rfl)
def w383 := hw _ (List.mem_of_getElem? (i := 383) rfl)
def w384 := hw _ (List.mem_of_getElem? (i := 384) rfl)
def w385 := hw _ (List.mem_of_getElem? (i := 385) rfl)
def w386 := hw _ (List.mem_of_getElem? (i := 386) rfl)
def w387 := hw _ (List.mem_of_getElem? (i := 387) rfl)
def w388 := hw _ (List.mem_of_getElem? (i := 388) rfl)
def w389 := hw _ (List.mem_of_getElem? (i := 389) rfl)
def w390 := hw _ (List.mem_of_getElem? (i := 390) rfl)
def w391 := hw _ (List.mem_of_getElem? (i := 391) rfl)
def w392 := hw _ (List.mem_of_getElem? (i := 392) rfl)
def w393 := hw _ (List.mem_of_getElem? (i := 393) rfl)
def w394 := hw _ (List.mem_of_getElem? (i := 394) rfl)
def w395 := hw _ (List.mem_of_getElem? (i := 395) rfl)
def w396 := hw _ (List.mem_of_getElem? (i := 396) rfl)
def w397 := hw _ (List.mem_of_getElem? (i := 397) rfl)
def w398 := hw _ (List.mem_of_getElem? (i := 398) rfl)
def w399 := hw _ (List.mem_of_getElem? (i := 399) rfl)
def w400 := hw _ (List.mem_of_getElem? (i := 400) rfl)
def w401 := hw _ (List.mem_of_getElem? (i := 401) rfl)
def w402 := hw _ (List.mem_of_getElem? (i := 402) rfl)
def w403 := hw _ (List.mem_of_getElem? (i := 403) rfl)
def w404 := hw _ (List.mem_of_getElem? (i := 404) rfl)
def w405 := hw _ (List.mem_of_getElem? (i := 405) rfl)
def w406 := hw _ (List.mem_of_getElem? (i := 406) rfl)
def w407 := hw _ (List.mem_of_getElem? (i := 407) rfl)
def w408 := hw _ (List.mem_of_getElem? (i := 408) rfl)
def w409 := hw _ (List.mem_of_getElem? (i := 409) rfl)
def w410 := hw _ (List.mem_of_getElem? (i := 410) rfl)
def w411 := hw _ (List.mem_of_getElem? (i := 411) rfl)
def w412 := hw _ (List.mem_of_getElem? (i := 412) rfl)
def w413 := hw _ (List.mem_of_getElem? (i := 413) rfl)
def w414 := hw _ (List.mem_of_getElem? (i := 414) rfl)
def w415 := hw _ (List.mem_of_getElem? (i := 415) rfl)
def w416 := hw _ (List.mem_of_getElem? (i := 416) rfl)
def w417 := hw _ (List.mem_of_getElem? (i := 417) rfl)
def w418 := hw _ (List.mem_of_getElem? (i := 418) rfl)
def w419 := hw _ (List.mem_of_getElem? (i := 419) rfl)
def w420 := hw _ (List.mem_of_getElem? (i := 420) rfl)
def w421 := hw _ (List.mem_of_getElem? (i := 421) rfl)
def w422 := hw _ (List.mem_of_getElem? (i := 422) rfl)
def w423 := hw _ (List.mem_of_getElem? (i := 423) rfl)
def w424 := hw _ (List.mem_of_getElem? (i := 424) rfl)
def w425 := hw _ (List.mem_of_getElem? (i := 425) rfl)
def w426 := hw _ (List.mem_of_getElem? (i := 426) rfl)
def w427 := hw _ (List.mem_of_getElem? (i := 427) rfl)
def w428 := hw _ (List.mem_of_getElem? (i := 428) rfl)
def w429 := hw _ (List.mem_of_getElem? (i := 429) rfl)
end Words
set_option maxRecDepth 65536
set_option maxHeartbeats 40000000
abbrev HW (Z : State) (a0 : Array Value) : Prop := ∀ d ∈ tables_1, d.before a0 Z = true
theorem nfs {Z : State} {a0 : Array Value} {C : String} {y : MethodName} (w : (Cond.selects C y y).before a0 Z = true) : ∀ U : State, Z.Warmed39 U.vm → NotFace U y := fun U hU => notFace_of_selects (args := #[]) (mvT hU w)
abbrev uA (Z : State) : Prop := Sta Z Z.heap "java/lang/StringUTF16" "$assertionsDisabled" "Z" (.int 1)
abbrev uH (Z : State) : Prop := Sta Z Z.heap "java/lang/StringUTF16" "HI_BYTE_SHIFT" "I" (.int 0)
abbrev uL (Z : State) : Prop := Sta Z Z.heap "java/lang/StringUTF16" "LO_BYTE_SHIFT" "I" (.int 8)
abbrev sC (Z : State) (cz : Int32) : Prop := Sta Z Z.heap "java/lang/String" "COMPACT_STRINGS" "Z" (.int cz)
abbrev sF (Z : State) (sf : Value) : Prop := Sta Z Z.heap "jdk/internal/util/Preconditions" "SIOOBE_FORMATTER" "Ljava/util/function/BiFunction;" sf
variable (l : Launch) (Z : State) (n0 : Nat) (a0 : Array Value)
theorem two_of {α : Type} {l : List α} (h : 2 ≤ l.length) : ∃ r0 r1 rr, l = r0 :: r1 :: rr := by
  match l, h with
  | r0 :: r1 :: rr, _ => exact ⟨r0, r1, rr, rfl⟩
theorem one_of {α : Type} {l : List α} (h : 1 ≤ l.length) : ∃ r0 rr, l = r0 :: rr := by
  match l, h with
  | r0 :: rr, _ => exact ⟨r0, rr, rfl⟩
theorem i32_dec {b : Int32} (h : -6 ≤ b.toInt ∧ b.toInt ≤ 200) : (b + (-1)).toInt = b.toInt - 1 := by
  have cb := c_iadd b (-1)
  have rb := rng32 (b + (-1))
  have m1 : (-1 : Int32).toInt = -1 := by decide
  rw [m1] at cb
  omega
theorem i32_sum {a b : Int32} (ha : -6 ≤ a.toInt ∧ a.toInt ≤ 200) (hb : -6 ≤ b.toInt ∧ b.toInt ≤ 200) : (a + b).toInt = a.toInt + b.toInt := by
  have c := c_iadd a b
  have r := rng32 (a + b)
  omega
theorem dec_b {a b b' room : Int} {r : Nat} (q : room < a + b) (eb : b' = b - 1) (hr : (a + b - room).toNat = r) : (a + b' - room).toNat < r := by omega
theorem dec_a {a b a' room : Int} {r : Nat} (q : room < a + b) (ea : a' = a - 1) (hr : (a + b - room).toNat = r) : (a' + b - room).toNat < r := by omega
theorem dec_c {a b b' room : Int} (q : room < a + b) (q5 : a ≤ b) (eb : b' = b - 1) (hb : -6 ≤ b ∧ b ≤ 200) (hr : -11 ≤ room) : -6 ≤ b' ∧ b' ≤ 200 := by omega
theorem dec_d {a b a' room : Int} (q : room < a + b) (q5 : b < a) (ea : a' = a - 1) (ha : -6 ≤ a ∧ a ≤ 200) (hr : -11 ≤ room) : -6 ≤ a' ∧ a' ≤ 200 := by omega
theorem c_coder (hw : HW Z a0) (x : Nat) (co : Int32) {cz : Int32} (SC : sC Z cz) (hcz : cz.toInt ≠ 0) (h : Heap) (Ls : Lits) (hO : Old Z n0 h) (Fc : Fld Z h x "java/lang/String" "coder" "B" (.int co)) (hco : narrow .byte (.int co) = .int co) :
    Con l Z n0 (⟨"java/lang/String", "coder", "()B"⟩ : MethodName) jdk_42_method_152_code 1 (some .byte) ⟨0, 0, 0, 0⟩ [.ref x] h Ls [] (RV fun v h' Ls' => v = .int co ∧ h = h' ∧ Ls = Ls') := by
  refine Con.of_run (plainFor_of_name pn0) hO ?_
  intro pX eX sX mX bX tX cX F hX
  refine ⟨[.val (.ref x)], rfl, ?_⟩
  refine Run.getstatic F (w34 hw) Via.refl SC d20_0 ?_
  refine Run.if_eq F d20_3 (t := 13) rfl rfl (fun q => absurd q hcz) (fun _ => ?_)
  refine Run.aloadN F d20_6 rfl rfl ?_
  refine Run.getfield F (host := "") (Or.inl (w65 hw)) Via.refl Fc d20_7 ?_
  refine Run.goto F d20_10 (t := 14) rfl ?_
  exact Run.ireturn F (by simp) hco (by decide) (by decide) d20_14 ⟨rfl, rfl, rfl⟩
theorem c_length (hw : HW Z a0) (x b : Nat) (co ln : Int32) (vs : List Value) {cz : Int32} (SC : sC Z cz) (hcz : cz.toInt ≠ 0) (h : Heap) (Ls : Lits) (hO : Old Z n0 h) (S : Str Z h x b co vs) (hco : narrow .byte (.int co) = .int co) (hln : Int32.ofNat vs.length >>> (co &&& 31) = ln) :
    Con l Z n0 (⟨"java/lang/String", "length", "()I"⟩ : MethodName) jdk_42_method_54_code 1 (some .int) ⟨1, 0, 0, 13⟩ [.ref x] h Ls [] (RV fun v h' Ls' => v = .int ln ∧ h = h' ∧ Ls = Ls') := by
  refine Con.of_run (plainFor_of_name pn0) hO ?_
  intro pX eX sX mX bX tX cX F hX
  refine ⟨[.val (.ref x)], rfl, ?_⟩
  subst hln
  refine Run.aloadN F d35_0 rfl rfl ?_
  refine Run.getfield F (host := "") (Or.inl (w67 hw)) Via.refl S.2.2.1 d35_1 ?_
  refine Run.arrlen F S.2.2.2 d35_4 ?_
  refine Run.aloadN F d35_5 rfl rfl ?_
  refine Run.callVirtual F (w83 hw) (w84 hw) (nfs (w86 hw)) (w86 hw) (w85 hw) (w23 hw) (w87 hw) S.1 (c_coder l Z n0 a0 hw x co SC hcz h Ls hO S.2.1 hco) rfl pd0 rfl rfl rfl rfl (by decide) (by decide) rfl d35_6 ?_
  rintro _ _ _ ⟨_, rfl, rfl, rfl, rfl⟩ _ _
  refine Run.ishr F d35_9 ?_
  exact Run.ireturn F (by simp) rfl (by decide) (by decide) d35_10 ⟨rfl, rfl, rfl⟩
theorem c_isLatin1 (hw : HW Z a0) (x : Nat) (co : Int32) {cz : Int32} (SC : sC Z cz) (hcz : cz.toInt ≠ 0) (h : Heap) (Ls : Lits) (hO : Old Z n0 h) (Fc : Fld Z h x "java/lang/String" "coder" "B" (.int co)) :
    Con l Z n0 (⟨"java/lang/String", "isLatin1", "()Z"⟩ : MethodName) jdk_42_method_154_code 1 (some .boolean) ⟨0, 0, 0, 0⟩ [.ref x] h Ls [] (RV fun v h' Ls' => v = .int (b2i (decide (co.toInt = 0))) ∧ h = h' ∧ Ls = Ls') := by
  refine Con.of_run (plainFor_of_name pn0) hO ?_
  intro pX eX sX mX bX tX cX F hX
  refine ⟨[.val (.ref x)], rfl, ?_⟩
  refine Run.getstatic F (w34 hw) Via.refl SC d37_0 ?_
  refine Run.if_eq F d37_3 (t := 17) rfl rfl (fun q => absurd q hcz) (fun _ => ?_)
  refine Run.aloadN F d37_6 rfl rfl ?_
  refine Run.getfield F (host := "") (Or.inl (w65 hw)) Via.refl Fc d37_7 ?_
  refine Run.if_ne F d37_10 (t := 17) rfl rfl (fun q => ?_) (fun q => ?_)
  · refine Run.iconst F d37_17 (z := 0) rfl ?_
    exact Run.ireturn F (by simp) rfl (by decide) (by decide) d37_18 ⟨by simp [q, b2i], rfl, rfl⟩
  · refine Run.iconst F d37_13 (z := 1) rfl ?_
    refine Run.goto F d37_14 (t := 18) rfl ?_
    exact Run.ireturn F (by simp) rfl (by decide) (by decide) d37_18 ⟨by simp [q, b2i], rfl, rfl⟩
theorem c_pcheck (hw : HW Z a0) (i j : Int32) (v : Value) (h : Heap) (Ls : Lits) (hO : Old Z n0 h) (hv : v.isRef = true) (h0 : 0 ≤ i.toInt) (h1 : i.toInt < j.toInt) :
    Con l Z n0 (⟨"jdk/internal/util/Preconditions", "checkIndex", "(IILjava/util/function/BiFunction;)I"⟩ : MethodName) jdk_41_method_11_code 3 (some .int) ⟨0, 0, 0, 0⟩ [.int i, .int j, v] h Ls [] (RV fun w h' Ls' => w = .int i ∧ h = h' ∧ Ls = Ls') := by
  refine Con.of_run (plainFor_of_name pn1) hO ?_
  intro pX eX sX mX bX tX cX F hX
  refine ⟨[.val (.int i), .val (.int j), .val v], by first | rfl | (simp [entryFrame, mkF, argsToLocals, Value.category]; done) | (rcases ref_cases hv with rfl | ⟨va, rfl⟩ <;> rfl), ?_⟩
  refine Run.iloadN F d39_0 rfl ?_
  refine Run.if_lt F d39_1 (t := 9) rfl rfl (fun q => by omega) (fun _ => ?_)
  refine Run.iloadN F d39_4 rfl ?_
  refine Run.iloadN F d39_5 rfl ?_
  refine Run.icmp_lt F d39_6 (t := 16) rfl rfl rfl (fun _ => ?_) (fun q => by omega)
  refine Run.iloadN F d39_16 rfl ?_
  exact Run.ireturn F (by simp) rfl (by decide) (by decide) d39_17 ⟨rfl, rfl, rfl⟩
theorem c_checkIndex (hw : HW Z a0) (i j : Int32) {sf : Value} (SF : sF Z sf) (hsf : sf.isRef = true) (h : Heap) (Ls : Lits) (hO : Old Z n0 h) (h0 : 0 ≤ i.toInt) (h1 : i.toInt < j.toInt) :
    Con l Z n0 (⟨"java/lang/String", "checkIndex", "(II)V"⟩ : MethodName) jdk_42_method_155_code 2 none ⟨1, 0, 0, 14⟩ [.int i, .int j] h Ls [] (RN fun h' Ls' => h = h' ∧ Ls = Ls') := by
  refine Con.of_run (plainFor_of_name pn0) hO ?_
  intro pX eX sX mX bX tX cX F hX
  refine ⟨[.val (.int i), .val (.int j)], rfl, ?_⟩
  refine Run.iloadN F d38_0 rfl ?_
  refine Run.iloadN F d38_1 rfl ?_
  refine Run.getstatic F (w184 hw) Via.refl SF d38_2 ?_
  refine Run.callStatic F (w186 hw) (w187 hw) (w185 hw) (w188 hw) (c_pcheck l Z n0 a0 hw i j sf h Ls hO hsf h0 h1) rfl pd1 rfl rfl rfl rfl (by decide) (by decide) rfl d38_5 ?_
  rintro _ _ _ ⟨_, rfl, rfl, rfl, rfl⟩ _ _
  refine Run.pop F d38_8 rfl ?_
  exact Run.return_ F (by decide) (by decide) d38_9 ⟨rfl, rfl⟩
theorem c_l1charAt (hw : HW Z a0) (b : Nat) (i w : Int32) (j : Nat) (vs : List Value) {sf : Value} (SF : sF Z sf) (hsf : sf.isRef = true) (h : Heap) (Ls : Lits) (hO : Old Z n0 h) (A : Av Z h b .byte vs) (hi : i.toInt = j) (hv : vs[j]? = some (.int w)) :
    Con l Z n0 (⟨"java/lang/StringLatin1", "charAt", "([BI)C"⟩ : MethodName) jdk_43_method_2_code 2 (some .char) ⟨2, 0, 0, 27⟩ [.ref b, .int i] h Ls [] (RV fun v h' Ls' => v = .int (chr (w &&& 255)) ∧ h = h' ∧ Ls = Ls') := by
  refine Con.of_run (plainFor_of_name pn2) hO ?_
  intro pX eX sX mX bX tX cX F hX
  refine ⟨[.val (.ref b), .val (.int i)], rfl, ?_⟩
  have hlen := A.len
  have hj := (List.getElem?_eq_some_iff.mp hv).1
  refine Run.iloadN F d95_0 rfl ?_
  refine Run.aloadN F d95_1 rfl rfl ?_
  refine Run.arrlen F A d95_2 ?_
  refine Run.callStatic F (w427 hw) (w182 hw) (w23 hw) (w183 hw) (c_checkIndex l Z n0 a0 hw i (Int32.ofNat vs.length) SF hsf h Ls hO (by omega) (by rw [i32_ti hlen]; omega)) rfl pd2 rfl rfl rfl rfl (by decide) (by decide) rfl d95_3 ?_
  rintro _ _ _ ⟨rfl, rfl, rfl⟩ _ _
  show Run _ _ _ _ _ _ _ _ _ _ _ _ _ _ _ _ _ _ _ _ []
  refine Run.aloadN F d95_6 rfl rfl ?_
  refine Run.iloadN F d95_7 rfl ?_
  refine Run.baload F A (i32_nneg (by omega)) (i32_nat hi) hv d95_8 ?_
  refine Run.sipush F d95_9 (z := 255) rfl ?_
  refine Run.iand F d95_12 ?_
  refine Run.i2c F d95_13 ?_
  exact Run.ireturn F (by simp) (narrow_chr _) (by decide) (by decide) d95_14 ⟨rfl, rfl, rfl⟩
theorem c_putChar (hw : HW Z a0) (u : Nat) (j : Nat) (ch : Int32) (vs : List Value) (UA : uA Z) (UH : uH Z) (UL : uL Z) (h : Heap) (Ls : Lits) (hO : Old Z n0 h) (A : Av Z h u .byte vs) (g : n0 ≤ u) (hj : 2 * j + 1 < vs.length) :
    Con l Z n0 (⟨"java/lang/StringUTF16", "putChar", "([BII)V"⟩ : MethodName) jdk_52_method_4_code 3 none ⟨0, 0, 0, 0⟩ [.ref u, .int (Int32.ofNat j), .int ch] h Ls [] (RN fun h' Ls' => Keep h h' [u] ∧ h'.size = h.size ∧ Av Z h' u .byte ((vs.set (2 * j) (hb0 ch)).set (2 * j + 1) (hb1 ch)) ∧ Ls = Ls') := by
  refine Con.of_run (plainFor_of_name pn3) hO ?_
  intro pX eX sX mX bX tX cX F hX
  refine ⟨[.val (.ref u), .val (.int (Int32.ofNat j)), .val (.int ch)], rfl, ?_⟩
  have hlen := A.len
  refine Run.getstatic F (w56 hw) Via.refl UA d14_0 ?_
  refine Run.ifYes F d14_3 (t := 28) rfl rfl ?_
  refine Run.iloadN F d14_28 rfl ?_
  refine Run.iconst F d14_29 (z := 1) rfl ?_
  refine Run.ishl F d14_30 ?_
  rw [i32_dbl (by omega)]
  refine Run.istoreN F d14_31 rfl ?_
  dsimp only [List.set]
  refine Run.aloadN F d14_32 rfl rfl ?_
  refine Run.iloadN F d14_33 rfl ?_
  refine Run.iinc F d14_34 (z := 1) rfl rfl ?_
  dsimp only [List.set]
  refine Run.iloadN F d14_37 rfl ?_
  simp only [Jvm.Free.XT.succ32]
  refine Run.getstatic F (w57 hw) Via.refl UH d14_38 ?_
  refine Run.ishr F d14_41 ?_
  refine Run.i2b F d14_42 ?_
  refine Run.bastore F A g (i32_nn (by omega)) (i32_tn (by omega)) (by omega) (narB _) d14_43 ?_
  intro h1 W1 K1 s1 A1
  refine Run.aloadN F d14_44 rfl rfl ?_
  refine Run.iloadN F d14_45 rfl ?_
  refine Run.iloadN F d14_46 rfl ?_
  refine Run.getstatic F (w58 hw) Via.refl UL d14_47 ?_
  refine Run.ishr F d14_50 ?_
  refine Run.i2b F d14_51 ?_
  refine Run.bastore F A1 g (i32_nn (by omega)) (i32_tn (by omega)) (by simp; omega) (narB _) d14_52 ?_
  intro h2 W2 K2 s2 A2
  exact Run.return_ F (by decide) (by decide) d14_53 ⟨K1.trans K2 (allS (Or.inl (List.mem_singleton.mpr rfl)) all0), s2.trans s1, A2, rfl⟩
theorem c_getChar (hw : HW Z a0) (u : Nat) (j : Nat) (ch : Int32) (vs : List Value) (UA : uA Z) (UH : uH Z) (UL : uL Z) (h : Heap) (Ls : Lits) (hO : Old Z n0 h) (A : Av Z h u .byte vs) (h0 : vs[2 * j]? = some (hb0 ch)) (h1 : vs[2 * j + 1]? = some (hb1 ch)) (c0 : 0 ≤ ch.toInt) (c1 : ch.toInt < 65536) :
    Con l Z n0 (⟨"java/lang/StringUTF16", "getChar", "([BI)C"⟩ : MethodName) jdk_52_method_5_code 2 (some .char) ⟨0, 0, 0, 0⟩ [.ref u, .int (Int32.ofNat j)] h Ls [] (RV fun v h' Ls' => v = .int ch ∧ h = h' ∧ Ls = Ls') := by
  refine Con.of_run (plainFor_of_name pn3) hO ?_
  intro pX eX sX mX bX tX cX F hX
  refine ⟨[.val (.ref u), .val (.int (Int32.ofNat j))], rfl, ?_⟩
  have hlen := A.len
  have hj := (List.getElem?_eq_some_iff.mp h1).1
  refine Run.getstatic F (w56 hw) Via.refl UA d15_0 ?_
  refine Run.ifYes F d15_3 (t := 28) rfl rfl ?_
  refine Run.iloadN F d15_28 rfl ?_
  refine Run.iconst F d15_29 (z := 1) rfl ?_
  refine Run.ishl F d15_30 ?_
  rw [i32_dbl (by omega)]
  refine Run.istoreN F d15_31 rfl ?_
  dsimp only [List.set]
  refine Run.aloadN F d15_32 rfl rfl ?_
  refine Run.iloadN F d15_33 rfl ?_
  refine Run.iinc F d15_34 (z := 1) rfl rfl ?_
  dsimp only [List.set]
  simp only [Jvm.Free.XT.succ32]
  refine Run.baload F A (i32_nn (by omega)) (i32_tn (by omega)) h0 d15_37 ?_
  refine Run.sipush F d15_38 (z := 255) rfl ?_
  refine Run.iand F d15_41 ?_
  refine Run.getstatic F (w57 hw) Via.refl UH d15_42 ?_
  refine Run.ishl F d15_45 ?_
  refine Run.aloadN F d15_46 rfl rfl ?_
  refine Run.iloadN F d15_47 rfl ?_
  refine Run.baload F A (i32_nn (by omega)) (i32_tn (by omega)) h1 d15_48 ?_
  refine Run.sipush F d15_49 (z := 255) rfl ?_
  refine Run.iand F d15_52 ?_
  refine Run.getstatic F (w58 hw) Via.refl UL d15_53 ?_
  refine Run.ishl F d15_56 ?_
  refine Run.ior F d15_57 ?_
  refine Run.i2c F d15_58 ?_
  rw [utf_rt c0 c1]
  exact Run.ireturn F (by simp) (narrow_char c0 c1) (by decide) (by decide) d15_59 ⟨rfl, rfl, rfl⟩
theorem c_nbLenS (hw : HW Z a0) (n : Nat) (h : Heap) (Ls : Lits) (hO : Old Z n0 h) (hn : n ≤ 24) :
    Con l Z n0 (⟨"java/lang/StringUTF16", "newBytesLength", "(I)I"⟩ : MethodName) jdk_52_method_3_code 1 (some .int) ⟨0, 0, 0, 0⟩ [.int (Int32.ofNat n)] h Ls [] (RV fun v h' Ls' => v = .int (Int32.ofNat (2 * n)) ∧ h = h' ∧ Ls = Ls') := by
  refine Con.of_run (plainFor_of_name pn3) hO ?_
  intro pX eX sX mX bX tX cX F hX
  refine ⟨[.val (.int (Int32.ofNat n))], rfl, ?_⟩
  have e : (Int32.ofNat n).toInt = n := i32_ti (by omega)
  refine Run.iloadN F d13_0 rfl ?_
  refine Run.if_ge F d13_1 (t := 12) rfl e (fun _ => ?_) (fun q => by omega)
  refine Run.iloadN F d13_12 rfl ?_
  refine Run.ldcInt F (w52 hw) d13_13 ?_
  refine Run.icmp_lt F d13_15 (t := 55) rfl e (yi := 1073741823) rfl (fun _ => ?_) (fun q => by omega)
  refine Run.iloadN F d13_55 rfl ?_
  refine Run.iconst F d13_56 (z := 1) rfl ?_
  refine Run.ishl F d13_57 ?_
  rw [i32_dbl (by omega)]
  exact Run.ireturn F (by simp) rfl (by decide) (by decide) d13_58 ⟨rfl, rfl, rfl⟩
theorem c_nbForS (hw : HW Z a0) (n : Nat) (h : Heap) (Ls : Lits) (hO : Old Z n0 h) (hn : n ≤ 24) :
    Con l Z n0 (⟨"java/lang/StringUTF16", "newBytesFor", "(I)[B"⟩ : MethodName) jdk_52_method_2_code 1 (some (.array .byte)) ⟨1, 1, 48, 12⟩ [.int (Int32.ofNat n)] h Ls [] (RV fun v h' Ls' => ∃ b : Nat, v = .ref b ∧ Keep h h' [] ∧ b = h.size ∧ Exa Z h' b "[B" ∧ Av Z h' b .byte (List.replicate (2 * n) (.int 0)) ∧ Ls = Ls') := by
  refine Con.of_run (plainFor_of_name pn3) hO ?_
  intro pX eX sX mX bX tX cX F hX
  refine ⟨[.val (.int (Int32.ofNat n))], rfl, ?_⟩
  refine Run.iloadN F d12_0 rfl ?_
  refine Run.callStatic F (w49 hw) (w50 hw) (w37 hw) (w51 hw) (c_nbLenS l Z n0 a0 hw n h Ls hO hn) rfl pd3 rfl rfl rfl rfl (by decide) (by decide) rfl d12_1 ?_
  rintro _ _ _ ⟨_, rfl, rfl, rfl, rfl⟩ _ _
  refine Run.newarrayE (aty := .byte) F (w39 hw) (ad := "[B") (by decide) (i32_nn (by omega)) (i32_tn (by omega)) 48 (by omega) rfl (by decide) (by decide) d12_4 ?_
  intro h1 b hb K1 lt1 A1 E1
  exact Run.areturn F rfl rfl (by decide) (by decide) d12_6 ⟨b, rfl, K1, hb, E1, A1, rfl⟩
theorem c_cmpG (hw : HW Z a0) (t b : Nat) (cs : List Int32) (h : Heap) (Ls : Lits) (hO : Old Z n0 h) (At : Av Z h t .char (cs.map Value.int)) (Ab : Av Z h b .byte (List.replicate cs.length (.int 0))) (g : n0 ≤ b) (htb : t ≠ b) (hcs : ∀ c ∈ cs, 0 ≤ c.toInt ∧ c.toInt < 65536) :
    Con l Z n0 (⟨"java/lang/StringUTF16", "compress", "([CI[BII)I"⟩ : MethodName) jdk_52_method_21_code 7 (some .int) ⟨0, 0, 0, 0⟩ [.ref t, .int 0, .ref b, .int 0, .int (Int32.ofNat cs.length)] h Ls [] (RV fun v h' Ls' => ∃ i, v = .int (Int32.ofNat i) ∧ i ≤ cs.length ∧ Keep h h' [b] ∧ h'.size = h.size ∧ (i = cs.length → lat cs = true ∧ Av Z h' b .byte (cs.map lb)) ∧ (i < cs.length → ∃ ch, cs[i]? = some ch ∧ 256 ≤ ch.toInt) ∧ Ls = Ls') := by
  refine Con.of_run (plainFor_of_name pn3) hO ?_
  intro pX eX sX mX bX tX cX F hX
  refine ⟨[.val (.ref t), .val (.int 0), .val (.ref b), .val (.int 0), .val (.int (Int32.ofNat cs.length)), .unset, .unset], rfl, ?_⟩
  have hlen : cs.length < 2 ^ 31 := by simpa using At.len
  refine Run.iconst F d10_0 (z := 0) rfl ?_
  refine Run.istore F d10_1 rfl ?_
  dsimp only [List.set]
  refine Run.rec (fun r h' k n Ls' L st => ∃ i x6, i + r = cs.length ∧ okSlot x6 = true ∧ k = 0 ∧ n = 0 ∧ Ls = Ls' ∧ lat (cs.take i) = true ∧ Keep h h' [b] ∧ h'.size = h.size ∧ Av Z h' b .byte ((cs.take i).map lb ++ List.replicate r (.int 0)) ∧ L = [.val (.ref t), .val (.int (Int32.ofNat i)), .val (.ref b), .val (.int (Int32.ofNat i)), .val (.int (Int32.ofNat cs.length)), .val (.int (Int32.ofNat i)), x6] ∧ st = []) ?_ cs.length _ _ _ _ _ _ ⟨0, .unset, by omega, rfl, rfl, rfl, rfl, rfl, Keep.refl _ _, rfl, by simpa using Ab, rfl, rfl⟩
  rintro r h' k n Ls' L st ⟨i, x6, hi, hx, rfl, rfl, rfl, hla, K, hsz, A, rfl, rfl⟩ ih
  refine Run.iload F d10_3 rfl ?_
  refine Run.iload F d10_5 rfl ?_
  refine Run.icmp_ge F d10_7 (t := 44) rfl (i32_ti (by omega)) (i32_ti hlen) (fun q => ?_) (fun q => ?_)
  · refine Run.iload F d10_44 rfl ?_
    have hr : r = 0 := by omega
    have hi' : i = cs.length := by omega
    subst hr hi'
    exact Run.ireturn F (by simp) rfl (by decide) (by decide) d10_46 ⟨cs.length, rfl, Nat.le_refl _, K, hsz, fun _ => ⟨by simpa using hla, by simpa using A⟩, fun q => absurd q (Nat.lt_irrefl _), rfl⟩
  · obtain ⟨r, rfl⟩ : ∃ r', r = r' + 1 := ⟨r - 1, by omega⟩
    have hlt : i < cs.length := by omega
    obtain ⟨c1, hc1⟩ : ∃ c1, cs[i]? = some c1 := ⟨_, List.getElem?_eq_getElem hlt⟩
    have hc2 := hcs c1 (List.mem_of_getElem? hc1)
    refine Run.aloadN F d10_10 rfl rfl ?_
    refine Run.iloadN F d10_11 rfl ?_
    refine Run.caload F (At.keep K (ninS htb nin0)) (i32_nn (by omega)) (i32_tn (by omega)) (mapInt_get hc1) d10_12 ?_
    refine Run.istore F d10_13 (by simp [hx]) ?_
    dsimp only [List.set]
    refine Run.iload F d10_15 rfl ?_
    refine Run.sipush F d10_17 (z := 255) rfl ?_
    refine Run.icmp_le F d10_20 (t := 26) rfl rfl (yi := 255) rfl (fun q1 => ?_) (fun q1 => ?_)
    · refine Run.aloadN F d10_26 rfl rfl ?_
      refine Run.iloadN F d10_27 rfl ?_
      refine Run.iload F d10_28 rfl ?_
      refine Run.i2b F d10_30 ?_
      refine Run.bastore F A g (i32_nn (by omega)) (i32_tn (by omega)) (by simp; omega) (narB c1) d10_31 ?_
      intro h2 W2 K2 hs2 A2
      refine Run.iinc F d10_32 (z := 1) rfl rfl ?_
      dsimp only [List.set]
      refine Run.iinc F d10_35 (z := 1) rfl rfl ?_
      dsimp only [List.set]
      refine Run.iinc F d10_38 (z := 1) rfl rfl ?_
      dsimp only [List.set]
      refine Run.goto F d10_41 (t := 3) rfl ?_
      refine ih r _ _ _ _ _ _ (by omega) ⟨i + 1, .val (.int c1), by omega, rfl, rfl, rfl, rfl, ?_, K.trans K2 (allS (Or.inl (List.mem_singleton.mpr rfl)) all0), hs2.trans hsz, ?_, by simp only [Jvm.Free.XT.succ32], rfl⟩
      · rw [List.take_succ, hc1]; simp only [lat, List.all_append, Bool.and_eq_true] at hla ⊢; exact ⟨hla, by simp; omega⟩
      · rw [← take_set hi hc1]; exact A2
    · refine Run.iload F d10_23 rfl ?_
      exact Run.ireturn F (by simp) rfl (by decide) (by decide) d10_25 ⟨i, rfl, by omega, K, hsz, fun q => by omega, fun _ => ⟨c1, hc1, by omega⟩, rfl⟩
theorem c_toBytes16 (hw : HW Z a0) (t : Nat) (cs : List Int32) (UA : uA Z) (UH : uH Z) (UL : uL Z) (h : Heap) (Ls : Lits) (hO : Old Z n0 h) (At : Av Z h t .char (cs.map Value.int)) (hcap : cs.length ≤ 24) :
    Con l Z n0 (⟨"java/lang/StringUTF16", "toBytes", "([CII)[B"⟩ : MethodName) jdk_52_method_14_code 5 (some (.array .byte)) ⟨2, 1, 48, 24⟩ [.ref t, .int 0, .int (Int32.ofNat cs.length)] h Ls [] (RV fun v h' Ls' => ∃ b : Nat, v = .ref b ∧ Keep h h' [] ∧ h.size ≤ b ∧ Exa Z h' b "[B" ∧ Av Z h' b .byte (u16 cs) ∧ Ls = Ls') := by
  refine Con.of_run (plainFor_of_name pn3) hO ?_
  intro pX eX sX mX bX tX cX F hX
  refine ⟨[.val (.ref t), .val (.int 0), .val (.int (Int32.ofNat cs.length)), .unset, .unset], rfl, ?_⟩
  refine Run.iloadN F d11_0 rfl ?_
  refine Run.callStatic F (w46 hw) (w47 hw) (w37 hw) (w48 hw) (c_nbForS l Z n0 a0 hw cs.length h Ls hO hcap) rfl pd4 rfl rfl rfl rfl (by decide) (by decide) rfl d11_1 ?_
  rintro _ h1 _ ⟨_, rfl, b, rfl, K1, hb, E1, A1, rfl⟩ hO1 _
  have hn : n0 ≤ b := by rw [hb, ← hO.1]; exact hO.2.1
  have htb : t ≠ b := by have := At.lt; omega
  refine Run.astoreN F d11_4 rfl rfl ?_
  dsimp only [List.set]
  refine Run.iconst F d11_5 (z := 0) rfl ?_
  refine Run.istore F d11_6 rfl ?_
  dsimp only [List.set]
  refine Run.rec (fun r h' k n Ls' L st => ∃ i, i + r = cs.length ∧ k = 1 ∧ n = 48 ∧ Ls = Ls' ∧ Keep h1 h' [b] ∧ Old Z n0 h' ∧ Av Z h' b .byte (u16 (cs.take i) ++ List.replicate (2 * r) (.int 0)) ∧ L = [.val (.ref t), .val (.int (Int32.ofNat i)), .val (.int (Int32.ofNat cs.length)), .val (.ref b), .val (.int (Int32.ofNat i))] ∧ st = []) ?_ cs.length _ _ _ _ _ _ ⟨0, by omega, rfl, rfl, rfl, Keep.refl _ _, hO1, by simpa [u16] using A1, rfl, rfl⟩
  rintro r h' k n Ls' L st ⟨i, hi, rfl, rfl, rfl, K, OO, A, rfl, rfl⟩ ih
  refine Run.iload F d11_8 rfl ?_
  refine Run.iloadN F d11_10 rfl ?_
  refine Run.icmp_ge F d11_11 (t := 32) rfl (i32_ti (by omega)) (i32_ti (by omega)) (fun q => ?_) (fun q => ?_)
  · have hr : r = 0 := by omega
    have hi' : i = cs.length := by omega
    subst hr hi'
    refine Run.aloadN F d11_32 rfl rfl ?_
    exact Run.areturn F rfl rfl (by decide) (by decide) d11_33 ⟨b, rfl, K1.trans K (allS (Or.inr (by omega)) all0), by omega, E1.keep K, by simpa using A, rfl⟩
  · obtain ⟨r, rfl⟩ : ∃ r', r = r' + 1 := ⟨r - 1, by omega⟩
    obtain ⟨c1, hc1⟩ : ∃ c1, cs[i]? = some c1 := ⟨_, List.getElem?_eq_getElem (by omega)⟩
    refine Run.aloadN F d11_14 rfl rfl ?_
    refine Run.iload F d11_15 rfl ?_
    refine Run.aloadN F d11_17 rfl rfl ?_
    refine Run.iloadN F d11_18 rfl ?_
    refine Run.caload F ((At.keep K1 nin0).keep K (ninS htb nin0)) (i32_nn (by omega)) (i32_tn (by omega)) (mapInt_get hc1) d11_19 ?_
    refine Run.callStatic F (w53 hw) (w54 hw) (w37 hw) (w55 hw) (c_putChar l Z n0 a0 hw b i c1 _ UA UH UL h' Ls OO A hn (by rw [List.length_append, u16_len, List.length_replicate, List.length_take]; omega)) rfl pd5 rfl rfl rfl rfl (by decide) (by decide) rfl d11_20 ?_
    rintro _ h2 _ ⟨rfl, K2, s2, A2, rfl⟩ O2 _
    show Run _ _ _ _ _ _ _ _ _ _ _ _ _ _ _ _ _ _ _ _ []
    refine Run.iinc F d11_23 (z := 1) rfl rfl ?_
    dsimp only [List.set]
    refine Run.iinc F d11_26 (z := 1) rfl rfl ?_
    dsimp only [List.set]
    refine Run.goto F d11_29 (t := 8) rfl ?_
    refine ih r _ _ _ _ _ _ (by omega) ⟨i + 1, by omega, rfl, rfl, rfl, K.trans K2 (allS (Or.inl (List.mem_singleton.mpr rfl)) all0), O2, ?_, ?_, rfl⟩
    · rw [u16_set hi hc1] at A2; exact A2
    · simp only [Jvm.Free.XT.succ32]
theorem c_cmpArrG (hw : HW Z a0) (t : Nat) (cs : List Int32) (UA : uA Z) (UH : uH Z) (UL : uL Z) (h : Heap) (Ls : Lits) (hO : Old Z n0 h) (At : Av Z h t .char (cs.map Value.int)) (hcap : cs.length ≤ 24) (hcs : ∀ c ∈ cs, 0 ≤ c.toInt ∧ c.toInt < 65536) :
    Con l Z n0 (⟨"java/lang/StringUTF16", "compress", "([CII)[B"⟩ : MethodName) jdk_52_method_16_code 6 (some (.array .byte)) ⟨3, 2, 72, 40⟩ [.ref t, .int 0, .int (Int32.ofNat cs.length)] h Ls [] (RV fun v h' Ls' => ∃ b : Nat, v = .ref b ∧ Keep h h' [] ∧ h.size ≤ b ∧ Exa Z h' b "[B" ∧ Av Z h' b .byte (byOf cs) ∧ Ls = Ls') := by
  refine Con.of_run (plainFor_of_name pn3) hO ?_
  intro pX eX sX mX bX tX cX F hX
  refine ⟨[.val (.ref t), .val (.int 0), .val (.int (Int32.ofNat cs.length)), .unset, .unset, .unset], rfl, ?_⟩
  have hlen : cs.length < 2 ^ 31 := by simpa using At.len
  refine Run.iloadN F d9_0 rfl ?_
  refine Run.newarrayE (aty := .byte) F (w39 hw) (ad := "[B") (by decide) (i32_nn hlen) (i32_tn hlen) 24 hcap rfl (by decide) (by decide) d9_1 ?_
  intro h1 b hb K1 lt1 A1 E1
  have hn : n0 ≤ b := by rw [hb, ← hO.1]; exact hO.2.1
  have htb : t ≠ b := by have := At.lt; omega
  have hO1 : Old Z n0 h1 := hO.keep K1 all0
  refine Run.astoreN F d9_3 rfl rfl ?_
  dsimp only [List.set]
  refine Run.aloadN F d9_4 rfl rfl ?_
  refine Run.iloadN F d9_5 rfl ?_
  refine Run.aloadN F d9_6 rfl rfl ?_
  refine Run.iconst F d9_7 (z := 0) rfl ?_
  refine Run.iloadN F d9_8 rfl ?_
  refine Run.callStatic F (w40 hw) (w41 hw) (w37 hw) (w42 hw) (c_cmpG l Z n0 a0 hw t b cs h1 Ls hO1 (At.keep K1 nin0) A1 hn htb hcs) rfl pd6 rfl rfl rfl rfl (by decide) (by decide) rfl d9_9 ?_
  rintro _ h2 _ ⟨_, rfl, i, rfl, hi, K2, hs2, q1, q2, rfl⟩ hO2 _
  refine Run.istore F d9_12 rfl ?_
  dsimp only [List.set]
  refine Run.iload F d9_14 rfl ?_
  refine Run.iloadN F d9_16 rfl ?_
  refine Run.icmp_eq F d9_17 (t := 57) rfl (i32_ti (by omega)) (i32_ti hlen) (fun q => ?_) (fun q => ?_)
  · obtain ⟨hla, A2⟩ := q1 (by omega)
    refine Run.aloadN F d9_57 rfl rfl ?_
    exact Run.areturn F rfl rfl (by decide) (by decide) d9_58 ⟨b, rfl, K1.trans K2 (allS (Or.inr (by omega)) all0), by omega, E1.keep K2, by rw [byOf, hla]; exact A2, rfl⟩
  · obtain ⟨ch, hch, hbig⟩ := q2 (by omega)
    have hc2 := hcs ch (List.mem_of_getElem? hch)
    refine Run.aloadN F d9_20 rfl rfl ?_
    refine Run.iloadN F d9_21 rfl ?_
    refine Run.iloadN F d9_22 rfl ?_
    refine Run.callStatic F (w43 hw) (w44 hw) (w37 hw) (w45 hw) (c_toBytes16 l Z n0 a0 hw t cs UA UH UL h2 Ls hO2 ((At.keep K1 nin0).keep K2 (ninS htb nin0)) hcap) rfl pd7 rfl rfl rfl rfl (by decide) (by decide) rfl d9_23 ?_
    rintro _ h3 _ ⟨_, rfl, u, rfl, K3, hu, E3, A3, rfl⟩ hO3 _
    refine Run.astore F d9_26 rfl rfl ?_
    dsimp only [List.set]
    refine Run.aload F d9_28 rfl rfl ?_
    refine Run.iload F d9_30 rfl ?_
    refine Run.callStatic F (w59 hw) (w60 hw) (w37 hw) (w61 hw) (c_getChar l Z n0 a0 hw u i ch (u16 cs) UA UH UL h3 Ls hO3 A3 (u16_get hch).1 (u16_get hch).2 hc2.1 hc2.2) rfl pd8 rfl rfl rfl rfl (by decide) (by decide) rfl d9_32 ?_
    rintro _ _ _ ⟨_, rfl, rfl, rfl, rfl⟩ _ _
    refine Run.sipush F d9_35 (z := 255) rfl ?_
    refine Run.icmp_gt F d9_38 (t := 54) rfl rfl (yi := 255) rfl (fun _ => ?_) (fun q => by omega)
    have hla : lat cs = false := by
      rw [lat, List.all_eq_false]; exact ⟨ch, List.mem_of_getElem? hch, by simp; omega⟩
    refine Run.aload F d9_54 rfl rfl ?_
    exact Run.areturn F rfl rfl (by decide) (by decide) d9_56 ⟨u, rfl, (K1.trans K2 (allS (Or.inr (by omega)) all0)).trans K3 all0, by omega, E3, by rw [byOf, hla]; exact A3, rfl⟩
theorem c_coderLen (hw : HW Z a0) (b : Nat) (z r : Int32) (vs : List Value) (h : Heap) (Ls : Lits) (hO : Old Z n0 h) (A : Av Z h b .byte vs) (hr : (XT.ushr (z - Int32.ofNat vs.length) 31).toInt8.toInt32 = r) (hn : narrow .byte (.int r) = .int r) :
    Con l Z n0 (⟨"java/lang/StringUTF16", "coderFromArrayLen", "([BI)B"⟩ : MethodName) jdk_52_method_15_code 2 (some .byte) ⟨0, 0, 0, 0⟩ [.ref b, .int z] h Ls [] (RV fun v h' Ls' => v = .int r ∧ h = h' ∧ Ls = Ls') := by
  refine Con.of_run (plainFor_of_name pn3) hO ?_
  intro pX eX sX mX bX tX cX F hX
  refine ⟨[.val (.ref b), .val (.int z)], rfl, ?_⟩
  subst hr
  refine Run.iloadN F d16_0 rfl ?_
  refine Run.aloadN F d16_1 rfl rfl ?_
  refine Run.arrlen F A d16_2 ?_
  refine Run.isub F d16_3 ?_
  refine Run.bipush F d16_4 (z := 31) rfl ?_
  refine Run.iushr F d16_6 ?_
  refine Run.i2b F d16_7 ?_
  exact Run.ireturn F (by simp) hn (by decide) (by decide) d16_8 ⟨rfl, rfl, rfl⟩
theorem c_initG (hw : HW Z a0) (x t : Nat) (cs : List Int32) {cz : Int32} (SC : sC Z cz) (hcz : cz.toInt ≠ 0) (UA : uA Z) (UH : uH Z) (UL : uL Z) (h : Heap) (Ls : Lits) (hO : Old Z n0 h) (E : Exa Z h x "java/lang/String") (Fv : Fld Z h x "java/lang/String" "value" "[B" .null) (Fc : Fld Z h x "java/lang/String" "coder" "B" (.int 0)) (g : n0 ≤ x) (At : Av Z h t .char (cs.map Value.int)) (hpos : 0 < cs.length) (hcap : cs.length ≤ 24) (hcs : ∀ c ∈ cs, 0 ≤ c.toInt ∧ c.toInt < 65536) :
    Con l Z n0 (⟨"java/lang/String", "<init>", "([CIILjava/lang/Void;)V"⟩ : MethodName) jdk_42_method_149_code 6 none ⟨4, 2, 72, 57⟩ [.ref x, .ref t, .int 0, .int (Int32.ofNat cs.length), .null] h Ls [] (RN fun h' Ls' => ∃ b : Nat, Keep h h' [x] ∧ h.size ≤ b ∧ Exa Z h' b "[B" ∧ Str Z h' x b (coOf cs) (byOf cs) ∧ Ls = Ls') := by
  refine Con.of_run (plainFor_of_name pn0) hO ?_
  intro pX eX sX mX bX tX cX F hX
  refine ⟨[.val (.ref x), .val (.ref t), .val (.int 0), .val (.int (Int32.ofNat cs.length)), .val .null, .unset], rfl, ?_⟩
  have hlen : cs.length < 2 ^ 31 := by simpa using At.len
  have hco : (XT.ushr (Int32.ofNat cs.length - Int32.ofNat (byOf cs).length) 31).toInt8.toInt32 = coOf cs := by
    cases hl : lat cs
    · rw [byOf, coOf, hl, if_neg (by simp), if_neg (by simp), u16_len]; exact coder1 hpos (by omega)
    · rw [byOf, coOf, hl, if_pos rfl, if_pos rfl, List.length_map]; exact coder0 _
  have hn8 : narrow .byte (.int (coOf cs)) = .int (coOf cs) := by rw [coOf]; split <;> rfl
  have hf8 : fits .byte (.int (coOf cs)) = true := by rw [coOf]; split <;> rfl
  have hne : Jvm.RoadKit.slotOf Z "java/lang/String" "coder" "B" ≠ Jvm.RoadKit.slotOf Z "java/lang/String" "value" "[B" := slot_ne (a0 := a0) (C := "java/lang/String") (Or.inr (w66 hw)) (Or.inr (w68 hw)) (by decide) (t := .byte) (t' := .array .byte) (by decide) (by decide)
  refine Run.aloadN F d7_0 rfl rfl ?_
  refine Run.objInit F (w31 hw) (w32 hw) (w33 hw) rfl rfl rfl d7_1 ?_
  refine Run.iloadN F d7_4 rfl ?_
  refine Run.if_ne F d7_5 (t := 27) rfl (i32_ti hlen) (fun _ => ?_) (fun q => by omega)
  refine Run.getstatic F (w34 hw) Via.refl SC d7_27 ?_
  refine Run.if_eq F d7_30 (t := 58) rfl rfl (fun q => absurd q hcz) (fun _ => ?_)
  refine Run.aloadN F d7_33 rfl rfl ?_
  refine Run.iloadN F d7_34 rfl ?_
  refine Run.iloadN F d7_35 rfl ?_
  refine Run.callStatic F (w35 hw) (w36 hw) (w37 hw) (w38 hw) (c_cmpArrG l Z n0 a0 hw t cs UA UH UL h Ls hO At hcap hcs) rfl pd7 rfl rfl rfl rfl (by decide) (by decide) rfl d7_36 ?_
  rintro _ h1 _ ⟨_, rfl, b, rfl, K1, hb, EB1, A1, rfl⟩ hO1 _
  refine Run.astore F d7_39 rfl rfl ?_
  dsimp only [List.set]
  refine Run.aloadN F d7_41 rfl rfl ?_
  refine Run.aload F d7_42 rfl rfl ?_
  refine Run.iloadN F d7_44 rfl ?_
  refine Run.callStatic F (w62 hw) (w63 hw) (w37 hw) (w64 hw) (c_coderLen l Z n0 a0 hw b (Int32.ofNat cs.length) (coOf cs) (byOf cs) h1 Ls hO1 A1 hco hn8) rfl pd9 rfl rfl rfl rfl (by decide) (by decide) rfl d7_45 ?_
  rintro _ _ _ ⟨_, rfl, rfl, rfl, rfl⟩ _ _
  refine Run.putfield F (w65 hw) Via.refl (Fc.keep K1 nin0) (E.keep K1) g (Or.inr ⟨(w66 hw), rfl, rfl⟩) (w22 hw) (ty := .byte) (by decide) (v' := .int (coOf cs)) hn8 hf8 d7_48 ?_
  intro h2 W2 K2 hs2 F2
  refine Run.aloadN F d7_51 rfl rfl ?_
  refine Run.aload F d7_52 rfl rfl ?_
  have hxb : b ≠ x := by have := (ltE E); omega
  have Fv2 : Fld Z h2 x "java/lang/String" "value" "[B" .null := (Fv.keep K1 nin0).other W2 (Or.inr (Ne.symm hne))
  have E2 : Exa Z h2 x "java/lang/String" := (E.keep K1).keep K2
  refine Run.putfield F (w67 hw) Via.refl Fv2 E2 g (Or.inr ⟨(w68 hw), rfl, rfl⟩) (w22 hw) (ty := (.array .byte)) (by decide) (v' := .ref b) rfl rfl d7_54 ?_
  intro h3 W3 K3 hs3 F3
  have K13 : Keep h h3 [x] := ((K1.mono (ws' := [x]) (by simp)).trans K2 (allS (Or.inl (List.mem_singleton.mpr rfl)) all0)).trans K3 (allS (Or.inl (List.mem_singleton.mpr rfl)) all0)
  exact Run.return_ F (by decide) (by decide) d7_57 ⟨b, K13, hb, (EB1.keep K2).keep K3, ⟨E2.keep K3, F2.other W3 (Or.inr hne), F3, (A1.keep K2 (ninS hxb nin0)).keep K3 (ninS hxb nin0)⟩, rfl⟩
theorem c_newG (hw : HW Z a0) (x t : Nat) (cs : List Int32) {cz : Int32} (SC : sC Z cz) (hcz : cz.toInt ≠ 0) (UA : uA Z) (UH : uH Z) (UL : uL Z) (h : Heap) (Ls : Lits) (hO : Old Z n0 h) (E : Exa Z h x "java/lang/String") (Fv : Fld Z h x "java/lang/String" "value" "[B" .null) (Fc : Fld Z h x "java/lang/String" "coder" "B" (.int 0)) (g : n0 ≤ x) (At : Av Z h t .char (cs.map Value.int)) (hpos : 0 < cs.length) (hcap : cs.length ≤ 24) (hcs : ∀ c ∈ cs, 0 ≤ c.toInt ∧ c.toInt < 65536) :
    Con l Z n0 (⟨"java/lang/String", "<init>", "([C)V"⟩ : MethodName) jdk_42_method_3_code 2 none ⟨5, 2, 72, 74⟩ [.ref x, .ref t] h Ls [] (RN fun h' Ls' => ∃ b : Nat, Keep h h' [x] ∧ h.size ≤ b ∧ Exa Z h' b "[B" ∧ Str Z h' x b (coOf cs) (byOf cs) ∧ Ls = Ls') := by
  refine Con.of_run (plainFor_of_name pn0) hO ?_
  intro pX eX sX mX bX tX cX F hX
  refine ⟨[.val (.ref x), .val (.ref t)], rfl, ?_⟩
  refine Run.aloadN F d6_0 rfl rfl ?_
  refine Run.aloadN F d6_1 rfl rfl ?_
  refine Run.iconst F d6_2 (z := 0) rfl ?_
  refine Run.aloadN F d6_3 rfl rfl ?_
  refine Run.arrlen F At d6_4 ?_
  rw [List.length_map]
  refine Run.aconstNull F d6_5 ?_
  refine Run.callInit F (w27 hw) (w28 hw) (w23 hw) (w30 hw) (c_initG l Z n0 a0 hw x t cs SC hcz UA UH UL h Ls hO E Fv Fc g At hpos hcap hcs) rfl rfl pd10 rfl rfl rfl rfl (by decide) (by decide) rfl d6_6 ?_
  rintro _ h1 _ ⟨rfl, b, K1, hb, EB, S1, rfl⟩ _ _
  exact Run.return_ F (by decide) (by decide) d6_9 ⟨b, K1, hb, EB, S1, rfl⟩
theorem c_nbLenT (hw : HW Z a0) (n : Nat) (h : Heap) (Ls : Lits) (hO : Old Z n0 h) (hn : n ≤ 2) :
    Con l Z n0 (⟨"java/lang/StringUTF16", "newBytesLength", "(I)I"⟩ : MethodName) jdk_52_method_3_code 1 (some .int) ⟨0, 0, 0, 0⟩ [.int (Int32.ofNat n)] h Ls [] (RV fun v h' Ls' => v = .int (Int32.ofNat (2 * n)) ∧ h = h' ∧ Ls = Ls') := by
  refine Con.of_run (plainFor_of_name pn3) hO ?_
  intro pX eX sX mX bX tX cX F hX
  refine ⟨[.val (.int (Int32.ofNat n))], rfl, ?_⟩
  have e : (Int32.ofNat n).toInt = n := i32_ti (by omega)
  refine Run.iloadN F d13_0 rfl ?_
  refine Run.if_ge F d13_1 (t := 12) rfl e (fun _ => ?_) (fun q => by omega)
  refine Run.iloadN F d13_12 rfl ?_
  refine Run.ldcInt F (w52 hw) d13_13 ?_
  refine Run.icmp_lt F d13_15 (t := 55) rfl e (yi := 1073741823) rfl (fun _ => ?_) (fun q => by omega)
  refine Run.iloadN F d13_55 rfl ?_
  refine Run.iconst F d13_56 (z := 1) rfl ?_
  refine Run.ishl F d13_57 ?_
  rw [i32_dbl (by omega)]
  exact Run.ireturn F (by simp) rfl (by decide) (by decide) d13_58 ⟨rfl, rfl, rfl⟩
theorem c_nbForT (hw : HW Z a0) (n : Nat) (h : Heap) (Ls : Lits) (hO : Old Z n0 h) (hn : n ≤ 2) :
    Con l Z n0 (⟨"java/lang/StringUTF16", "newBytesFor", "(I)[B"⟩ : MethodName) jdk_52_method_2_code 1 (some (.array .byte)) ⟨1, 1, 4, 12⟩ [.int (Int32.ofNat n)] h Ls [] (RV fun v h' Ls' => ∃ b : Nat, v = .ref b ∧ Keep h h' [] ∧ b = h.size ∧ Exa Z h' b "[B" ∧ Av Z h' b .byte (List.replicate (2 * n) (.int 0)) ∧ Ls = Ls') := by
  refine Con.of_run (plainFor_of_name pn3) hO ?_
  intro pX eX sX mX bX tX cX F hX
  refine ⟨[.val (.int (Int32.ofNat n))], rfl, ?_⟩
  refine Run.iloadN F d12_0 rfl ?_
  refine Run.callStatic F (w49 hw) (w50 hw) (w37 hw) (w51 hw) (c_nbLenT l Z n0 a0 hw n h Ls hO hn) rfl pd3 rfl rfl rfl rfl (by decide) (by decide) rfl d12_1 ?_
  rintro _ _ _ ⟨_, rfl, rfl, rfl, rfl⟩ _ _
  refine Run.newarrayE (aty := .byte) F (w39 hw) (ad := "[B") (by decide) (i32_nn (by omega)) (i32_tn (by omega)) 4 (by omega) rfl (by decide) (by decide) d12_4 ?_
  intro h1 b hb K1 lt1 A1 E1
  exact Run.areturn F rfl rfl (by decide) (by decide) d12_6 ⟨b, rfl, K1, hb, E1, A1, rfl⟩
theorem c_nbLen (hw : HW Z a0) (n : Nat) (h : Heap) (Ls : Lits) (hO : Old Z n0 h) (hn : n ≤ 102) :
    Con l Z n0 (⟨"java/lang/StringUTF16", "newBytesLength", "(I)I"⟩ : MethodName) jdk_52_method_3_code 1 (some .int) ⟨0, 0, 0, 0⟩ [.int (Int32.ofNat n)] h Ls [] (RV fun v h' Ls' => v = .int (Int32.ofNat (2 * n)) ∧ h = h' ∧ Ls = Ls') := by
  refine Con.of_run (plainFor_of_name pn3) hO ?_
  intro pX eX sX mX bX tX cX F hX
  refine ⟨[.val (.int (Int32.ofNat n))], rfl, ?_⟩
  have e : (Int32.ofNat n).toInt = n := i32_ti (by omega)
  refine Run.iloadN F d13_0 rfl ?_
  refine Run.if_ge F d13_1 (t := 12) rfl e (fun _ => ?_) (fun q => by omega)
  refine Run.iloadN F d13_12 rfl ?_
  refine Run.ldcInt F (w52 hw) d13_13 ?_
  refine Run.icmp_lt F d13_15 (t := 55) rfl e (yi := 1073741823) rfl (fun _ => ?_) (fun q => by omega)
  refine Run.iloadN F d13_55 rfl ?_
  refine Run.iconst F d13_56 (z := 1) rfl ?_
  refine Run.ishl F d13_57 ?_
  rw [i32_dbl (by omega)]
  exact Run.ireturn F (by simp) rfl (by decide) (by decide) d13_58 ⟨rfl, rfl, rfl⟩
theorem c_nbFor (hw : HW Z a0) (n : Nat) (h : Heap) (Ls : Lits) (hO : Old Z n0 h) (hn : n ≤ 102) :
    Con l Z n0 (⟨"java/lang/StringUTF16", "newBytesFor", "(I)[B"⟩ : MethodName) jdk_52_method_2_code 1 (some (.array .byte)) ⟨1, 1, 204, 12⟩ [.int (Int32.ofNat n)] h Ls [] (RV fun v h' Ls' => ∃ b : Nat, v = .ref b ∧ Keep h h' [] ∧ b = h.size ∧ Exa Z h' b "[B" ∧ Av Z h' b .byte (List.replicate (2 * n) (.int 0)) ∧ Ls = Ls') := by
  refine Con.of_run (plainFor_of_name pn3) hO ?_
  intro pX eX sX mX bX tX cX F hX
  refine ⟨[.val (.int (Int32.ofNat n))], rfl, ?_⟩
  refine Run.iloadN F d12_0 rfl ?_
  refine Run.callStatic F (w49 hw) (w50 hw) (w37 hw) (w51 hw) (c_nbLen l Z n0 a0 hw n h Ls hO hn) rfl pd3 rfl rfl rfl rfl (by decide) (by decide) rfl d12_1 ?_
  rintro _ _ _ ⟨_, rfl, rfl, rfl, rfl⟩ _ _
  refine Run.newarrayE (aty := .byte) F (w39 hw) (ad := "[B") (by decide) (i32_nn (by omega)) (i32_tn (by omega)) 204 (by omega) rfl (by decide) (by decide) d12_4 ?_
  intro h1 b hb K1 lt1 A1 E1
  exact Run.areturn F rfl rfl (by decide) (by decide) d12_6 ⟨b, rfl, K1, hb, E1, A1, rfl⟩
theorem c_u16len (hw : HW Z a0) (b : Nat) (vs : List Value) (h : Heap) (Ls : Lits) (hO : Old Z n0 h) (A : Av Z h b .byte vs) :
    Con l Z n0 (⟨"java/lang/StringUTF16", "length", "([B)I"⟩ : MethodName) jdk_52_method_6_code 1 (some .int) ⟨0, 0, 0, 0⟩ [.ref b] h Ls [] (RV fun w h' Ls' => w = .int (Int32.ofNat (vs.length / 2)) ∧ h = h' ∧ Ls = Ls') := by
  refine Con.of_run (plainFor_of_name pn3) hO ?_
  intro pX eX sX mX bX tX cX F hX
  refine ⟨[.val (.ref b)], rfl, ?_⟩
  have e := shr_b2i true A.len
  refine Run.aloadN F d59_0 rfl rfl ?_
  refine Run.arrlen F A d59_1 ?_
  refine Run.iconst F d59_2 (z := 1) rfl ?_
  refine Run.ishr F d59_3 ?_
  exact Run.ireturn F (by simp) rfl (by decide) (by decide) d59_4 ⟨congrArg Value.int e, rfl, rfl⟩
theorem c_u16ci (hw : HW Z a0) (b : Nat) (j : Nat) (vs : List Value) {sf : Value} (SF : sF Z sf) (hsf : sf.isRef = true) (h : Heap) (Ls : Lits) (hO : Old Z n0 h) (A : Av Z h b .byte vs) (hj : j < vs.length / 2) :
    Con l Z n0 (⟨"java/lang/StringUTF16", "checkIndex", "(I[B)V"⟩ : MethodName) jdk_52_method_91_code 2 none ⟨2, 0, 0, 27⟩ [.int (Int32.ofNat j), .ref b] h Ls [] (RN fun h' Ls' => h = h' ∧ Ls = Ls') := by
  refine Con.of_run (plainFor_of_name pn3) hO ?_
  intro pX eX sX mX bX tX cX F hX
  refine ⟨[.val (.int (Int32.ofNat j)), .val (.ref b)], rfl, ?_⟩
  have hlen := A.len
  refine Run.iloadN F d93_0 rfl ?_
  refine Run.aloadN F d93_1 rfl rfl ?_
  refine Run.callStatic F (w258 hw) (w259 hw) (w37 hw) (w260 hw) (c_u16len l Z n0 a0 hw b vs h Ls hO A) rfl pd11 rfl rfl rfl rfl (by decide) (by decide) rfl d93_2 ?_
  rintro _ _ _ ⟨_, rfl, rfl, rfl, rfl⟩ _ _
  have e1 := i32_ti (i := j) (by omega)
  have e2 := i32_ti (i := vs.length / 2) (by omega)
  refine Run.callStatic F (w418 hw) (w182 hw) (w23 hw) (w183 hw) (c_checkIndex l Z n0 a0 hw (Int32.ofNat j) (Int32.ofNat (vs.length / 2)) SF hsf h Ls hO (by omega) (by omega)) rfl pd2 rfl rfl rfl rfl (by decide) (by decide) rfl d93_5 ?_
  rintro _ _ _ ⟨rfl, rfl, rfl⟩ _ _
  exact Run.return_ F (by decide) (by decide) d93_8 ⟨rfl, rfl⟩
theorem c_u16charAt (hw : HW Z a0) (b : Nat) (j : Nat) (cs : List Int32) (ch : Int32) {sf : Value} (SF : sF Z sf) (hsf : sf.isRef = true) (UA : uA Z) (UH : uH Z) (UL : uL Z) (h : Heap) (Ls : Lits) (hO : Old Z n0 h) (A : Av Z h b .byte (u16 cs)) (hj : cs[j]? = some ch) (c0 : 0 ≤ ch.toInt) (c1 : ch.toInt < 65536) :
    Con l Z n0 (⟨"java/lang/StringUTF16", "charAt", "([BI)C"⟩ : MethodName) jdk_52_method_83_code 2 (some .char) ⟨3, 0, 0, 40⟩ [.ref b, .int (Int32.ofNat j)] h Ls [] (RV fun w h' Ls' => w = .int ch ∧ h = h' ∧ Ls = Ls') := by
  refine Con.of_run (plainFor_of_name pn3) hO ?_
  intro pX eX sX mX bX tX cX F hX
  refine ⟨[.val (.ref b), .val (.int (Int32.ofNat j))], rfl, ?_⟩
  have hlt := (List.getElem?_eq_some_iff.mp hj).1
  have hg := u16_get hj
  have hl2 := u16_len cs
  refine Run.iloadN F d92_0 rfl ?_
  refine Run.aloadN F d92_1 rfl rfl ?_
  refine Run.callStatic F (w415 hw) (w416 hw) (w37 hw) (w417 hw) (c_u16ci l Z n0 a0 hw b j (u16 cs) SF hsf h Ls hO A (by omega)) rfl pd12 rfl rfl rfl rfl (by decide) (by decide) rfl d92_2 ?_
  rintro _ _ _ ⟨rfl, rfl, rfl⟩ _ _
  show Run _ _ _ _ _ _ _ _ _ _ _ _ _ _ _ _ _ _ _ _ []
  refine Run.aloadN F d92_5 rfl rfl ?_
  refine Run.iloadN F d92_6 rfl ?_
  refine Run.callStatic F (w59 hw) (w60 hw) (w37 hw) (w61 hw) (c_getChar l Z n0 a0 hw b j ch (u16 cs) UA UH UL h Ls hO A hg.1 hg.2 c0 c1) rfl pd8 rfl rfl rfl rfl (by decide) (by decide) rfl d92_7 ?_
  rintro _ _ _ ⟨_, rfl, rfl, rfl, rfl⟩ _ _
  exact Run.ireturn F (by simp) (narrow_char c0 c1) (by decide) (by decide) d92_10 ⟨rfl, rfl, rfl⟩
theorem c_charAt (hw : HW Z a0) (x b : Nat) (cs : List Int32) (j : Nat) (ch : Int32) {cz : Int32} (SC : sC Z cz) (hcz : cz.toInt ≠ 0) {sf : Value} (SF : sF Z sf) (hsf : sf.isRef = true) (UA : uA Z) (UH : uH Z) (UL : uL Z) (h : Heap) (Ls : Lits) (hO : Old Z n0 h) (S : Str Z h x b (coOf cs) (byOf cs)) (hj : cs[j]? = some ch) (hcs : ∀ c ∈ cs, 0 ≤ c.toInt ∧ c.toInt < 65536) (hlen : cs.length < 2 ^ 30) :
    Con l Z n0 (⟨"java/lang/String", "charAt", "(I)C"⟩ : MethodName) jdk_42_method_56_code 2 (some .char) ⟨4, 0, 0, 53⟩ [.ref x, .int (Int32.ofNat j)] h Ls [] (RV fun v h' Ls' => v = .int ch ∧ h = h' ∧ Ls = Ls') := by
  refine Con.of_run (plainFor_of_name pn0) hO ?_
  intro pX eX sX mX bX tX cX F hX
  refine ⟨[.val (.ref x), .val (.int (Int32.ofNat j))], rfl, ?_⟩
  have hlt := (List.getElem?_eq_some_iff.mp hj).1
  have hc := hcs ch (List.mem_of_getElem? hj)
  have ej := i32_ti (i := j) (by omega)
  refine Run.aloadN F d91_0 rfl rfl ?_
  refine Run.callVirtual F (w176 hw) (w177 hw) (nfs (w179 hw)) (w179 hw) (w178 hw) (w23 hw) (w180 hw) S.1 (c_isLatin1 l Z n0 a0 hw x (coOf cs) SC hcz h Ls hO S.2.1) rfl pd13 rfl rfl rfl rfl (by decide) (by decide) rfl d91_1 ?_
  rintro _ _ _ ⟨_, rfl, rfl, rfl, rfl⟩ _ _
  cases hl : lat cs
  · have e1 : coOf cs = 1 := by rw [coOf, hl]; rfl
    have e2 : byOf cs = u16 cs := by rw [byOf, hl]; rfl
    rw [e1, e2] at S
    rw [e1]
    refine Run.ifB_eq F d91_4 (t := 16) rfl (fun _ => ?_) (fun q => absurd q (by decide))
    refine Run.aloadN F d91_16 rfl rfl ?_
    refine Run.getfield F (host := "") (Or.inl (w67 hw)) Via.refl S.2.2.1 d91_17 ?_
    refine Run.iloadN F d91_20 rfl ?_
    refine Run.callStatic F (w412 hw) (w413 hw) (w37 hw) (w414 hw) (c_u16charAt l Z n0 a0 hw b j cs ch SF hsf UA UH UL h Ls hO S.2.2.2 hj hc.1 hc.2) rfl pd8 rfl rfl rfl rfl (by decide) (by decide) rfl d91_21 ?_
    rintro _ _ _ ⟨_, rfl, rfl, rfl, rfl⟩ _ _
    exact Run.ireturn F (by simp) (narrow_char hc.1 hc.2) (by decide) (by decide) d91_24 ⟨rfl, rfl, rfl⟩
  · have e1 : coOf cs = 0 := by rw [coOf, hl]; rfl
    have e2 : byOf cs = cs.map lb := by rw [byOf, hl]; rfl
    have h8 : ch.toInt < 256 := by have := List.all_eq_true.mp hl ch (List.mem_of_getElem? hj); simpa using this
    rw [e1, e2] at S
    rw [e1]
    refine Run.ifB_eq F d91_4 (t := 16) rfl (fun q => absurd q (by decide)) (fun _ => ?_)
    refine Run.aloadN F d91_7 rfl rfl ?_
    refine Run.getfield F (host := "") (Or.inl (w67 hw)) Via.refl S.2.2.1 d91_8 ?_
    refine Run.iloadN F d91_11 rfl ?_
    refine Run.callStatic F (w424 hw) (w425 hw) (w206 hw) (w426 hw) (c_l1charAt l Z n0 a0 hw b (Int32.ofNat j) ch.toInt8.toInt32 j (cs.map lb) SF hsf h Ls hO S.2.2.2 ej (lb_get hj)) rfl pd8 rfl rfl rfl rfl (by decide) (by decide) rfl d91_12 ?_
    rintro _ _ _ ⟨_, rfl, rfl, rfl, rfl⟩ _ _
    rw [low8 hc.1 h8]
    exact Run.ireturn F (by simp) (narrow_char hc.1 hc.2) (by decide) (by decide) d91_15 ⟨rfl, rfl, rfl⟩
theorem c_asbLatin1 (hw : HW Z a0) (x : Nat) (u : Bool) {cz : Int32} (SC : sC Z cz) (hcz : cz.toInt ≠ 0) (h : Heap) (Ls : Lits) (hO : Old Z n0 h) (Fc : Fld Z h x ASB "coder" "B" (.int (b2i u))) :
    Con l Z n0 (⟨"java/lang/AbstractStringBuilder", "isLatin1", "()Z"⟩ : MethodName) jdk_68_method_68_code 1 (some .boolean) ⟨0, 0, 0, 0⟩ [.ref x] h Ls [] (RV fun v h' Ls' => v = .int (b2i (!u)) ∧ h = h' ∧ Ls = Ls') := by
  refine Con.of_run (plainFor_of_name pn4) hO ?_
  intro pX eX sX mX bX tX cX F hX
  refine ⟨[.val (.ref x)], rfl, ?_⟩
  refine Run.getstatic F (w158 hw) Via.refl SC d71_0 ?_
  refine Run.if_eq F d71_3 (t := 17) rfl rfl (fun q => absurd q hcz) (fun _ => ?_)
  refine Run.aloadN F d71_6 rfl rfl ?_
  refine Run.getfield F (host := "") (Or.inl (w161 hw)) Via.refl Fc d71_7 ?_
  cases u
  · refine Run.ifNo F d71_10 rfl ?_
    refine Run.iconst F d71_13 (z := 1) rfl ?_
    refine Run.goto F d71_14 (t := 18) rfl ?_
    exact Run.ireturn F (by simp) rfl (by decide) (by decide) d71_18 ⟨rfl, rfl, rfl⟩
  · refine Run.ifYes F d71_10 (t := 17) rfl rfl ?_
    refine Run.iconst F d71_17 (z := 0) rfl ?_
    exact Run.ireturn F (by simp) rfl (by decide) (by decide) d71_18 ⟨rfl, rfl, rfl⟩
theorem c_asbValue (hw : HW Z a0) (x v : Nat) (h : Heap) (Ls : Lits) (hO : Old Z n0 h) (Fv : Fld Z h x ASB "value" "[B" (.ref v)) :
    Con l Z n0 (⟨"java/lang/AbstractStringBuilder", "getValue", "()[B"⟩ : MethodName) jdk_68_method_64_code 1 (some (.array .byte)) ⟨0, 0, 0, 0⟩ [.ref x] h Ls [] (RV fun w h' Ls' => w = .ref v ∧ h = h' ∧ Ls = Ls') := by
  refine Con.of_run (plainFor_of_name pn4) hO ?_
  intro pX eX sX mX bX tX cX F hX
  refine ⟨[.val (.ref x)], rfl, ?_⟩
  refine Run.aloadN F d83_0 rfl rfl ?_
  refine Run.getfield F (host := "") (Or.inl (w159 hw)) Via.refl Fv d83_1 ?_
  exact Run.areturn F rfl rfl (by decide) (by decide) d83_4 ⟨rfl, rfl, rfl⟩
theorem c_asbLength (hw : HW Z a0) (x : Nat) (n : Int32) (h : Heap) (Ls : Lits) (hO : Old Z n0 h) (Fn : Fld Z h x ASB "count" "I" (.int n)) :
    Con l Z n0 (⟨"java/lang/AbstractStringBuilder", "length", "()I"⟩ : MethodName) jdk_68_method_6_code 1 (some .int) ⟨0, 0, 0, 0⟩ [.ref x] h Ls [] (RV fun w h' Ls' => w = .int n ∧ h = h' ∧ Ls = Ls') := by
  refine Con.of_run (plainFor_of_name pn4) hO ?_
  intro pX eX sX mX bX tX cX F hX
  refine ⟨[.val (.ref x)], rfl, ?_⟩
  refine Run.aloadN F d85_0 rfl rfl ?_
  refine Run.getfield F (host := "") (Or.inl (w290 hw)) Via.refl Fn d85_1 ?_
  exact Run.ireturn F (by simp) rfl (by decide) (by decide) d85_4 ⟨rfl, rfl, rfl⟩
theorem c_sbLength (hw : HW Z a0) (x : Nat) (n : Int32) (h : Heap) (Ls : Lits) (hO : Old Z n0 h) (E : Exa Z h x SBN) (Fn : Fld Z h x ASB "count" "I" (.int n)) :
    Con l Z n0 (⟨"java/lang/StringBuilder", "length", "()I"⟩ : MethodName) jdk_67_method_93_code 1 (some .int) ⟨1, 0, 0, 12⟩ [.ref x] h Ls [] (RV fun w h' Ls' => w = .int n ∧ h = h' ∧ Ls = Ls') := by
  refine Con.of_run (plainFor_of_name pn5) hO ?_
  intro pX eX sX mX bX tX cX F hX
  refine ⟨[.val (.ref x)], rfl, ?_⟩
  refine Run.aloadN F d84_0 rfl rfl ?_
  refine Run.callSuper F (w382 hw) (same_own (w377 hw) (((fun U hU => nf_cls (a := #[]) (mvT hU (w295 hw)) (mvT hU (decl_of (w293 hw) (w296 hw))) rfl) : ∀ U : State, Z.Warmed39 U.vm → NotFace U ⟨"java/lang/AbstractStringBuilder", "length", "()I"⟩) Z (State.Warmed39.refl Z)) rfl) (w378 hw) (w286 hw) (w155 hw) (w383 hw) (Ins.of_exa E (w154 hw)) (c_asbLength l Z n0 a0 hw x n h Ls hO Fn) (by decide) pd14 rfl rfl rfl rfl (by decide) (by decide) rfl d84_1 ?_
  rintro _ _ _ ⟨_, rfl, rfl, rfl, rfl⟩ _ _
  exact Run.ireturn F (by simp) rfl (by decide) (by decide) d84_4 ⟨rfl, rfl, rfl⟩
theorem c_mathMax (hw : HW Z a0) (x y : Int32) (h : Heap) (Ls : Lits) (hO : Old Z n0 h)  :
    Con l Z n0 (⟨"java/lang/Math", "max", "(II)I"⟩ : MethodName) jdk_29_method_65_code 2 (some .int) ⟨0, 0, 0, 0⟩ [.int x, .int y] h Ls [] (RV fun v h' Ls' => ∃ z : Int32, v = .int z ∧ z.toInt = max x.toInt y.toInt ∧ h = h' ∧ Ls = Ls') := by
  refine Con.of_run pf_max hO ?_
  intro pX eX sX mX bX tX cX F hX
  refine ⟨[.val (.int x), .val (.int y)], rfl, ?_⟩
  refine Run.iloadN F d79_0 rfl ?_
  refine Run.iloadN F d79_1 rfl ?_
  refine Run.icmp_lt F d79_2 (t := 9) rfl rfl rfl (fun q => ?_) (fun q => ?_)
  · refine Run.iloadN F d79_9 rfl ?_
    exact Run.ireturn F (by simp) rfl (by decide) (by decide) d79_10 ⟨y, rfl, by omega, rfl, rfl⟩
  · refine Run.iloadN F d79_5 rfl ?_
    refine Run.goto F d79_6 (t := 10) rfl ?_
    exact Run.ireturn F (by simp) rfl (by decide) (by decide) d79_10 ⟨x, rfl, by omega, rfl, rfl⟩
theorem c_mathMin (hw : HW Z a0) (x y : Int32) (h : Heap) (Ls : Lits) (hO : Old Z n0 h)  :
    Con l Z n0 (⟨"java/lang/Math", "min", "(II)I"⟩ : MethodName) jdk_29_method_69_code 2 (some .int) ⟨0, 0, 0, 0⟩ [.int x, .int y] h Ls [] (RV fun v h' Ls' => ∃ z : Int32, v = .int z ∧ z.toInt = min x.toInt y.toInt ∧ h = h' ∧ Ls = Ls') := by
  refine Con.of_run pf_min hO ?_
  intro pX eX sX mX bX tX cX F hX
  refine ⟨[.val (.int x), .val (.int y)], rfl, ?_⟩
  refine Run.iloadN F d29_0 rfl ?_
  refine Run.iloadN F d29_1 rfl ?_
  refine Run.icmp_gt F d29_2 (t := 9) rfl rfl rfl (fun q => ?_) (fun q => ?_)
  · refine Run.iloadN F d29_9 rfl ?_
    exact Run.ireturn F (by simp) rfl (by decide) (by decide) d29_10 ⟨y, rfl, by omega, rfl, rfl⟩
  · refine Run.iloadN F d29_5 rfl ?_
    refine Run.goto F d29_6 (t := 10) rfl ?_
    exact Run.ireturn F (by simp) rfl (by decide) (by decide) d29_10 ⟨x, rfl, by omega, rfl, rfl⟩
theorem c_newLength (hw : HW Z a0) (o a b : Int32) (h : Heap) (Ls : Lits) (hO : Old Z n0 h) (h0 : 0 ≤ o.toInt) (h1 : o.toInt ≤ 100000) (h2 : -200000 ≤ a.toInt ∧ a.toInt ≤ 100000) (h3 : 0 < b.toInt ∧ b.toInt ≤ 200000) :
    Con l Z n0 (⟨"jdk/internal/util/ArraysSupport", "newLength", "(III)I"⟩ : MethodName) jdk_48_method_27_code 4 (some .int) ⟨1, 0, 0, 14⟩ [.int o, .int a, .int b] h Ls [] (RV fun v h' Ls' => ∃ z : Int32, v = .int z ∧ z.toInt = o.toInt + max a.toInt b.toInt ∧ h = h' ∧ Ls = Ls') := by
  refine Con.of_run (plainFor_of_name pn6) hO ?_
  intro pX eX sX mX bX tX cX F hX
  refine ⟨[.val (.int o), .val (.int a), .val (.int b), .unset], rfl, ?_⟩
  refine Run.iloadN F d78_0 rfl ?_
  refine Run.iloadN F d78_1 rfl ?_
  refine Run.iloadN F d78_2 rfl ?_
  refine Run.callStatic F (w353 hw) (w354 hw) (w123 hw) (w355 hw) (c_mathMax l Z n0 a0 hw a b h Ls hO) rfl pd15 rfl rfl rfl rfl (by decide) (by decide) rfl d78_3 ?_
  rintro _ _ _ ⟨_, rfl, z, rfl, hz, rfl, rfl⟩ _ _
  have e := c_iadd o z
  have r := rng32 (o + z)
  refine Run.iadd F d78_6 ?_
  refine Run.istoreN F d78_7 rfl ?_
  dsimp only [List.set]
  refine Run.iconst F d78_8 (z := 0) rfl ?_
  refine Run.iloadN F d78_9 rfl ?_
  refine Run.icmp_ge F d78_10 (t := 21) rfl (xi := 0) rfl rfl (fun q => by omega) (fun _ => ?_)
  refine Run.iloadN F d78_13 rfl ?_
  refine Run.ldcInt F (w356 hw) d78_14 ?_
  refine Run.icmp_gt F d78_16 (t := 21) rfl rfl (yi := 2147483639) rfl (fun q => by omega) (fun _ => ?_)
  refine Run.iloadN F d78_19 rfl ?_
  exact Run.ireturn F (by simp) rfl (by decide) (by decide) d78_20 ⟨o + z, rfl, by omega, rfl, rfl⟩
theorem c_newCapacity (hw : HW Z a0) (x v : Nat) (u : Bool) (mn : Nat) (vs : List Value) (h : Heap) (Ls : Lits) (hO : Old Z n0 h) (Fv : Fld Z h x ASB "value" "[B" (.ref v)) (Fc : Fld Z h x ASB "coder" "B" (.int (b2i u))) (A : Av Z h v .byte vs) (hmn : mn ≤ 50) (hcap : vs.length < wd u * mn) :
    Con l Z n0 (⟨"java/lang/AbstractStringBuilder", "newCapacity", "(I)I"⟩ : MethodName) jdk_68_method_10_code 6 (some .int) ⟨2, 0, 0, 29⟩ [.ref x, .int (Int32.ofNat mn)] h Ls [] (RV fun w h' Ls' => ∃ nc : Nat, w = .int (Int32.ofNat nc) ∧ mn ≤ nc ∧ nc ≤ 102 ∧ h = h' ∧ Ls = Ls') := by
  refine Con.of_run (plainFor_of_name pn4) hO ?_
  intro pX eX sX mX bX tX cX F hX
  refine ⟨[.val (.ref x), .val (.int (Int32.ofNat mn)), .unset, .unset, .unset, .unset], rfl, ?_⟩
  have hwd : wd u ≤ 2 := by cases u <;> decide
  have hwp := wd_pos u
  have hw2 : wd u * mn ≤ 2 * mn := Nat.mul_le_mul_right mn hwd
  have l0 : vs.length ≤ 100 := by omega
  have i2 : (2 : Int32) = Int32.ofNat 2 := rfl
  refine Run.aloadN F d77_0 rfl rfl ?_
  refine Run.getfield F (host := "") (Or.inl (w159 hw)) Via.refl Fv d77_1 ?_
  refine Run.arrlen F A d77_4 ?_
  refine Run.istoreN F d77_5 rfl ?_
  dsimp only [List.set]
  refine Run.iloadN F d77_6 rfl ?_
  refine Run.aloadN F d77_7 rfl rfl ?_
  refine Run.getfield F (host := "") (Or.inl (w161 hw)) Via.refl Fc d77_8 ?_
  refine Run.ishl F d77_11 ?_
  rw [shl_b2i u (by omega)]
  refine Run.istoreN F d77_12 rfl ?_
  dsimp only [List.set]
  refine Run.iloadN F d77_13 rfl ?_
  refine Run.iloadN F d77_14 rfl ?_
  refine Run.isub F d77_15 ?_
  refine Run.istore F d77_16 rfl ?_
  dsimp only [List.set]
  refine Run.iloadN F d77_18 rfl ?_
  refine Run.iload F d77_19 rfl ?_
  refine Run.iloadN F d77_21 rfl ?_
  refine Run.iconst F d77_22 (z := 2) rfl ?_
  refine Run.aloadN F d77_23 rfl rfl ?_
  refine Run.getfield F (host := "") (Or.inl (w161 hw)) Via.refl Fc d77_24 ?_
  refine Run.ishl F d77_27 ?_
  rw [i2, shl_b2i u (by omega)]
  refine Run.iadd F d77_28 ?_
  rw [i32_add (by omega)]
  have e1 := i32_subI (a := wd u * mn) (b := vs.length) (by omega) (by omega)
  have e2 := i32_ti (i := vs.length + wd u * 2) (by omega)
  have e0 := i32_ti (i := vs.length) (by omega)
  refine Run.callStatic F (w349 hw) (w350 hw) (w351 hw) (w352 hw) (c_newLength l Z n0 a0 hw (Int32.ofNat vs.length) (Int32.ofNat (wd u * mn) - Int32.ofNat vs.length) (Int32.ofNat (vs.length + wd u * 2)) h Ls hO (by omega) (by omega) (by omega) (by omega)) rfl pd16 rfl rfl rfl rfl (by decide) (by decide) rfl d77_29 ?_
  rintro _ _ _ ⟨_, rfl, z, rfl, hz, rfl, rfl⟩ _ _
  rw [e0, e1, e2] at hz
  obtain ⟨zn, hzn⟩ : ∃ zn : Nat, z.toInt = zn := ⟨z.toInt.toNat, by omega⟩
  have ez : z = Int32.ofNat zn := i32_eq hzn
  subst ez
  refine Run.istore F d77_32 rfl ?_
  dsimp only [List.set]
  refine Run.iload F d77_34 rfl ?_
  refine Run.ldcInt F (w357 hw) d77_36 ?_
  refine Run.icmp_ne F d77_38 (t := 51) rfl hzn (yi := 2147483647) rfl (fun _ => ?_) (fun q => by omega)
  refine Run.iload F d77_51 rfl ?_
  refine Run.aloadN F d77_53 rfl rfl ?_
  refine Run.getfield F (host := "") (Or.inl (w161 hw)) Via.refl Fc d77_54 ?_
  refine Run.ishr F d77_57 ?_
  rw [shr_b2i u (by omega)]
  refine Run.ireturn F (by simp) rfl (by decide) (by decide) d77_58 ⟨zn / wd u, rfl, ?_, ?_, rfl, rfl⟩
  · cases u <;> simp only [wd] at * <;> simp at * <;> omega
  · cases u <;> simp only [wd] at * <;> simp at * <;> omega
theorem c_copyOf (hw : HW Z a0) (v : Nat) (nl : Nat) (vs : List Value) (h : Heap) (Ls : Lits) (hO : Old Z n0 h) (A : Av Z h v .byte vs) (hlt : vs.length < nl) (hK : nl ≤ 204) :
    Con l Z n0 (⟨"java/util/Arrays", "copyOf", "([BI)[B"⟩ : MethodName) jdk_65_method_121_code 3 (some (.array .byte)) ⟨1, 1, 204, 18⟩ [.ref v, .int (Int32.ofNat nl)] h Ls [] (RV fun w h' Ls' => ∃ b : Nat, w = .ref b ∧ Keep h h' [] ∧ h.size ≤ b ∧ b < h'.size ∧ Exa Z h' b "[B" ∧ Av Z h' b .byte (vs ++ List.replicate (nl - vs.length) (.int 0)) ∧ Ls = Ls') := by
  refine Con.of_run (plainFor_of_name pn7) hO ?_
  intro pX eX sX mX bX tX cX F hX
  refine ⟨[.val (.ref v), .val (.int (Int32.ofNat nl)), .unset], rfl, ?_⟩
  have e1 := i32_ti (i := nl) (by omega)
  have e2 := i32_ti (i := vs.length) (by omega)
  refine Run.iloadN F d28_0 rfl ?_
  refine Run.aloadN F d28_1 rfl rfl ?_
  refine Run.arrlen F A d28_2 ?_
  refine Run.icmp_ne F d28_3 (t := 14) rfl e1 e2 (fun _ => ?_) (fun q => by omega)
  refine Run.iloadN F d28_14 rfl ?_
  refine Run.newarrayE (aty := .byte) F (w39 hw) (ad := "[B") (by decide) (i32_nn (by omega)) (i32_tn (by omega)) 204 hK rfl (by decide) (by decide) d28_15 ?_
  intro h1 b hb K1 lt1 A1 E1
  have hO1 : Old Z n0 h1 := hO.keep K1 all0
  have gb : n0 ≤ b := by rw [hb, ← hO.1]; exact hO.2.1
  refine Run.astoreN F d28_17 rfl rfl ?_
  dsimp only [List.set]
  refine Run.aloadN F d28_18 rfl rfl ?_
  refine Run.iconst F d28_19 (z := 0) rfl ?_
  refine Run.aloadN F d28_20 rfl rfl ?_
  refine Run.iconst F d28_21 (z := 0) rfl ?_
  refine Run.aloadN F d28_22 rfl rfl ?_
  refine Run.arrlen F (A.keep K1 nin0) d28_23 ?_
  refine Run.iloadN F d28_24 rfl ?_
  refine Run.callStatic F (w121 hw) (w122 hw) (w123 hw) (w124 hw) (c_mathMin l Z n0 a0 hw (Int32.ofNat vs.length) (Int32.ofNat nl) h1 Ls hO1) rfl pd15 rfl rfl rfl rfl (by decide) (by decide) rfl d28_25 ?_
  rintro _ _ _ ⟨_, rfl, z, rfl, hz, rfl, rfl⟩ _ _
  refine Run.arraycopy F (w125 hw) (w128 hw) (w126 hw) (w127 hw) (A.keep K1 nin0) A1 rfl gb (sp := 0) rfl (dp := 0) rfl (nn := vs.length) (by omega) (by omega) (by simp; omega) (us := vs) (by simp) rfl rfl rfl d28_28 ?_
  intro h2 K2 A2
  have A3 : Av Z h2 b .byte (vs ++ List.replicate (nl - vs.length) (.int 0)) := by
    rw [List.take_zero, List.nil_append, Nat.zero_add, List.drop_replicate] at A2; exact A2
  refine Run.aloadN F d28_31 rfl rfl ?_
  exact Run.areturn F rfl rfl (by decide) (by decide) d28_32 ⟨b, rfl, K1.trans K2 (allS (Or.inr (by omega)) all0), by omega, Nat.lt_of_lt_of_le lt1 K2.1, E1.keep K2, A3, rfl⟩
theorem c_ensure (hw : HW Z a0) (x v : Nat) (u : Bool) (cap mn : Nat) (ds : List Int32) (h : Heap) (Ls : Lits) (hO : Old Z n0 h) (S : Sb Z h x v u cap ds) (g : n0 ≤ x) (hmn : mn ≤ 50) (hcap : cap ≤ wd u * 102) :
    Con l Z n0 (⟨"java/lang/AbstractStringBuilder", "ensureCapacityInternal", "(I)V"⟩ : MethodName) jdk_68_method_9_code 3 none ⟨3, 1, 204, 48⟩ [.ref x, .int (Int32.ofNat mn)] h Ls [] (RN fun h' Ls' => ∃ v' cap' : Nat, Sb Z h' x v' u cap' ds ∧ wd u * mn ≤ cap' ∧ cap' ≤ wd u * 102 ∧ Keep h h' [x] ∧ (v' = v ∨ h.size ≤ v') ∧ Ls = Ls') := by
  refine Con.of_run (plainFor_of_name pn4) hO ?_
  intro pX eX sX mX bX tX cX F hX
  refine ⟨[.val (.ref x), .val (.int (Int32.ofNat mn)), .unset], rfl, ?_⟩
  have S0 := S
  obtain ⟨E, Fv, Fc, Fn, Fm, Ev, tl, ht, A⟩ := S
  have hwd : wd u ≤ 2 := by cases u <;> decide
  have hwp := wd_pos u
  have hln : (byts u ds ++ tl).length = cap := by rw [List.length_append, byts_len]; omega
  have hcb : cap ≤ 204 := Nat.le_trans hcap (Nat.mul_le_mul_right _ hwd)
  have nq1 : Jvm.RoadKit.slotOf Z ASB "coder" "B" ≠ Jvm.RoadKit.slotOf Z ASB "value" "[B" := slot_ne (a0 := a0) (C := "java/lang/StringBuilder") (Or.inl (w162 hw)) (Or.inl (w160 hw)) (by decide) (t := .byte) (t' := (.array .byte)) (by decide) (by decide)
  have nq2 : Jvm.RoadKit.slotOf Z ASB "count" "I" ≠ Jvm.RoadKit.slotOf Z ASB "value" "[B" := slot_ne (a0 := a0) (C := "java/lang/StringBuilder") (Or.inl (w291 hw)) (Or.inl (w160 hw)) (by decide) (t := .int) (t' := (.array .byte)) (by decide) (by decide)
  have nq3 : Jvm.RoadKit.slotOf Z ASB "maybeLatin1" "Z" ≠ Jvm.RoadKit.slotOf Z ASB "value" "[B" := slot_ne (a0 := a0) (C := "java/lang/StringBuilder") (Or.inl (w386 hw)) (Or.inl (w160 hw)) (by decide) (t := .boolean) (t' := (.array .byte)) (by decide) (by decide)
  refine Run.aloadN F d67_0 rfl rfl ?_
  refine Run.getfield F (host := "") (Or.inl (w159 hw)) Via.refl Fv d67_1 ?_
  refine Run.arrlen F A d67_4 ?_
  rw [hln]
  refine Run.aloadN F d67_5 rfl rfl ?_
  refine Run.getfield F (host := "") (Or.inl (w161 hw)) Via.refl Fc d67_6 ?_
  refine Run.ishr F d67_9 ?_
  rw [shr_b2i u (by omega)]
  have hq : cap / wd u ≤ cap := Nat.div_le_self _ _
  refine Run.istoreN F d67_10 rfl ?_
  dsimp only [List.set]
  refine Run.iloadN F d67_11 rfl ?_
  refine Run.iloadN F d67_12 rfl ?_
  refine Run.isub F d67_13 ?_
  have e1 := i32_subI (a := mn) (b := cap / wd u) (by omega) (by omega)
  refine Run.if_le F d67_14 (t := 38) rfl e1 (fun q => ?_) (fun q => ?_)
  · refine Run.return_ F (by decide) (by decide) d67_38 ⟨v, cap, S0, ?_, hcap, Keep.refl _ _, Or.inl rfl, rfl⟩
    have : mn ≤ cap / wd u := by omega
    calc wd u * mn ≤ wd u * (cap / wd u) := Nat.mul_le_mul_left _ this
      _ ≤ cap := Nat.mul_div_le _ _
  · have hlt : cap < wd u * mn := by
      have : cap / wd u < mn := by omega
      rw [Nat.mul_comm]; exact (Nat.div_lt_iff_lt_mul hwp).mp this
    refine Run.aloadN F d67_17 rfl rfl ?_
    refine Run.aloadN F d67_18 rfl rfl ?_
    refine Run.getfield F (host := "") (Or.inl (w159 hw)) Via.refl Fv d67_19 ?_
    refine Run.aloadN F d67_22 rfl rfl ?_
    refine Run.iloadN F d67_23 rfl ?_
    refine Run.callVirtual F (w344 hw) (decl_of (w345 hw) (w348 hw)) (nfs (w347 hw)) (w347 hw) (w345 hw) (w155 hw) (w348 hw) E (c_newCapacity l Z n0 a0 hw x v u mn (byts u ds ++ tl) h Ls hO Fv Fc A hmn (by rw [hln]; exact hlt)) rfl pd3 rfl rfl rfl rfl (by decide) (by decide) rfl d67_24 ?_
    rintro _ _ _ ⟨_, rfl, nc, rfl, hnc, hnc2, rfl, rfl⟩ _ _
    refine Run.aloadN F d67_27 rfl rfl ?_
    refine Run.getfield F (host := "") (Or.inl (w161 hw)) Via.refl Fc d67_28 ?_
    refine Run.ishl F d67_31 ?_
    rw [shl_b2i u (by omega)]
    have h1c : wd u * mn ≤ wd u * nc := Nat.mul_le_mul_left _ hnc
    have h2c : wd u * nc ≤ 2 * nc := Nat.mul_le_mul_right _ hwd
    refine Run.callStatic F (w358 hw) (w118 hw) (w119 hw) (w120 hw) (c_copyOf l Z n0 a0 hw v (wd u * nc) (byts u ds ++ tl) h Ls hO A (by omega) (by omega)) rfl pd17 rfl rfl rfl rfl (by decide) (by decide) rfl d67_32 ?_
    rintro _ h1 _ ⟨_, rfl, b, rfl, K1, hb, hb2, E1, A1, rfl⟩ hO1 _
    rw [hln] at A1
    refine Run.putfield F (w159 hw) Via.refl (Fv.keep K1 nin0) (E.keep K1) g (Or.inl (w160 hw)) (w146 hw) (ty := (.array .byte)) (by decide) (v' := .ref b) rfl rfl d67_35 ?_
    intro h2 W2 K2 hs2 F2
    have lx := (ltE E)
    have hbx : b ≠ x := by omega
    refine Run.return_ F (by decide) (by decide) d67_38 ⟨b, wd u * nc, ⟨(E.keep K1).keep K2, F2, (Fc.keep K1 nin0).other W2 (Or.inr nq1), (Fn.keep K1 nin0).other W2 (Or.inr nq2), (Fm.keep K1 nin0).other W2 (Or.inr nq3), E1.keep K2, tl ++ List.replicate (wd u * nc - cap) (.int 0), ?_, ?_⟩, h1c, Nat.mul_le_mul_left _ hnc2, (K1.mono (ws' := [x]) (by simp)).trans K2 (allS (Or.inl mem1) all0), Or.inr hb, rfl⟩
    · rw [List.length_append, List.length_replicate]; omega
    · rw [← List.append_assoc]; exact A1.keep K2 (ninS hbx nin0)
theorem c_cfis (hw : HW Z a0) (o n t : Nat) (v : Value) (h : Heap) (Ls : Lits) (hO : Old Z n0 h) (hv : v.isRef = true) (h1 : o + n ≤ t) (h2 : t < 2 ^ 31) :
    Con l Z n0 (⟨"jdk/internal/util/Preconditions", "checkFromIndexSize", "(IIILjava/util/function/BiFunction;)I"⟩ : MethodName) jdk_41_method_13_code 4 (some .int) ⟨0, 0, 0, 0⟩ [.int (Int32.ofNat o), .int (Int32.ofNat n), .int (Int32.ofNat t), v] h Ls [] (RV fun w h' Ls' => w = .int (Int32.ofNat o) ∧ h = h' ∧ Ls = Ls') := by
  refine Con.of_run (plainFor_of_name pn1) hO ?_
  intro pX eX sX mX bX tX cX F hX
  refine ⟨[.val (.int (Int32.ofNat o)), .val (.int (Int32.ofNat n)), .val (.int (Int32.ofNat t)), .val v], by first | rfl | (simp [entryFrame, mkF, argsToLocals, Value.category]; done) | (rcases ref_cases hv with rfl | ⟨va, rfl⟩ <;> rfl), ?_⟩
  have e0 := i32_ti (i := o) (by omega)
  have e1 := i32_ti (i := n) (by omega)
  have e2 := i32_ti (i := t) h2
  have e3 := i32_subI (a := t) (b := o) h2 (by omega)
  have nn : 0 ≤ (Int32.ofNat t ||| Int32.ofNat o ||| Int32.ofNat n).toInt := ior_nn (ior_nn (by omega) (by omega)) (by omega)
  refine Run.iloadN F d61_0 rfl ?_
  refine Run.iloadN F d61_1 rfl ?_
  refine Run.ior F d61_2 ?_
  refine Run.iloadN F d61_3 rfl ?_
  refine Run.ior F d61_4 ?_
  refine Run.if_lt F d61_5 (t := 15) rfl rfl (fun q => by omega) (fun _ => ?_)
  refine Run.iloadN F d61_8 rfl ?_
  refine Run.iloadN F d61_9 rfl ?_
  refine Run.iloadN F d61_10 rfl ?_
  refine Run.isub F d61_11 ?_
  refine Run.icmp_le F d61_12 (t := 23) rfl e1 e3 (fun _ => ?_) (fun q => by omega)
  refine Run.iloadN F d61_23 rfl ?_
  exact Run.ireturn F (by simp) rfl (by decide) (by decide) d61_24 ⟨rfl, rfl, rfl⟩
theorem c_cboc (hw : HW Z a0) (o n t : Nat) {sf : Value} (SF : sF Z sf) (hsf : sf.isRef = true) (h : Heap) (Ls : Lits) (hO : Old Z n0 h) (h1 : o + n ≤ t) (h2 : t < 2 ^ 31) :
    Con l Z n0 (⟨"java/lang/String", "checkBoundsOffCount", "(III)I"⟩ : MethodName) jdk_42_method_157_code 3 (some .int) ⟨1, 0, 0, 15⟩ [.int (Int32.ofNat o), .int (Int32.ofNat n), .int (Int32.ofNat t)] h Ls [] (RV fun w h' Ls' => w = .int (Int32.ofNat o) ∧ h = h' ∧ Ls = Ls') := by
  refine Con.of_run (plainFor_of_name pn0) hO ?_
  intro pX eX sX mX bX tX cX F hX
  refine ⟨[.val (.int (Int32.ofNat o)), .val (.int (Int32.ofNat n)), .val (.int (Int32.ofNat t))], rfl, ?_⟩
  refine Run.iloadN F d60_0 rfl ?_
  refine Run.iloadN F d60_1 rfl ?_
  refine Run.iloadN F d60_2 rfl ?_
  refine Run.getstatic F (w184 hw) Via.refl SF d60_3 ?_
  refine Run.callStatic F (w264 hw) (w265 hw) (w185 hw) (w266 hw) (c_cfis l Z n0 a0 hw o n t sf h Ls hO hsf h1 h2) rfl pd18 rfl rfl rfl rfl (by decide) (by decide) rfl d60_6 ?_
  rintro _ _ _ ⟨_, rfl, rfl, rfl, rfl⟩ _ _
  exact Run.ireturn F (by simp) rfl (by decide) (by decide) d60_9 ⟨rfl, rfl, rfl⟩
theorem c_u16cboc (hw : HW Z a0) (b : Nat) (o n : Nat) (vs : List Value) {sf : Value} (SF : sF Z sf) (hsf : sf.isRef = true) (h : Heap) (Ls : Lits) (hO : Old Z n0 h) (A : Av Z h b .byte vs) (h1 : o + n ≤ vs.length / 2) :
    Con l Z n0 (⟨"java/lang/StringUTF16", "checkBoundsOffCount", "(II[B)V"⟩ : MethodName) jdk_52_method_94_code 3 none ⟨2, 0, 0, 29⟩ [.int (Int32.ofNat o), .int (Int32.ofNat n), .ref b] h Ls [] (RN fun h' Ls' => h = h' ∧ Ls = Ls') := by
  refine Con.of_run (plainFor_of_name pn3) hO ?_
  intro pX eX sX mX bX tX cX F hX
  refine ⟨[.val (.int (Int32.ofNat o)), .val (.int (Int32.ofNat n)), .val (.ref b)], rfl, ?_⟩
  have hlen := A.len
  refine Run.iloadN F d58_0 rfl ?_
  refine Run.iloadN F d58_1 rfl ?_
  refine Run.aloadN F d58_2 rfl rfl ?_
  refine Run.callStatic F (w258 hw) (w259 hw) (w37 hw) (w260 hw) (c_u16len l Z n0 a0 hw b vs h Ls hO A) rfl pd11 rfl rfl rfl rfl (by decide) (by decide) rfl d58_3 ?_
  rintro _ _ _ ⟨_, rfl, rfl, rfl, rfl⟩ _ _
  refine Run.callStatic F (w261 hw) (w262 hw) (w23 hw) (w263 hw) (c_cboc l Z n0 a0 hw o n (vs.length / 2) SF hsf h Ls hO h1 (by omega)) rfl pd16 rfl rfl rfl rfl (by decide) (by decide) rfl d58_6 ?_
  rintro _ _ _ ⟨_, rfl, rfl, rfl, rfl⟩ _ _
  refine Run.pop F d58_9 rfl ?_
  exact Run.return_ F (by decide) (by decide) d58_10 ⟨rfl, rfl⟩
theorem c_u16inf (hw : HW Z a0) (b t : Nat) (cs : List Int32) (o : Nat) (sx pr rs : List Value) {sf : Value} (SF : sF Z sf) (hsf : sf.isRef = true) (UA : uA Z) (UH : uH Z) (UL : uL Z) (h : Heap) (Ls : Lits) (hO : Old Z n0 h) (As : Av Z h b .byte (cs.map lb ++ sx)) (Ad : Av Z h t .byte (pr ++ rs)) (g : n0 ≤ t) (hbt : b ≠ t) (hpr : pr.length = 2 * o) (hrs : 2 * cs.length ≤ rs.length) (hcs : ∀ c ∈ cs, 0 ≤ c.toInt ∧ c.toInt < 256) :
    Con l Z n0 (⟨"java/lang/StringUTF16", "inflate", "([BI[BII)V"⟩ : MethodName) jdk_52_method_86_code 6 none ⟨3, 0, 0, 43⟩ [.ref b, .int 0, .ref t, .int (Int32.ofNat o), .int (Int32.ofNat cs.length)] h Ls [] (RN fun h' Ls' => Keep h h' [t] ∧ Av Z h' t .byte (pr ++ u16 cs ++ rs.drop (2 * cs.length)) ∧ Ls = Ls') := by
  refine Con.of_run (plainFor_of_name pn3) hO ?_
  intro pX eX sX mX bX tX cX F hX
  refine ⟨[.val (.ref b), .val (.int 0), .val (.ref t), .val (.int (Int32.ofNat o)), .val (.int (Int32.ofNat cs.length)), .unset], rfl, ?_⟩
  have hls := As.len
  have hld := Ad.len
  rw [List.length_append, List.length_map] at hls
  rw [List.length_append] at hld
  refine Run.iloadN F d73_0 rfl ?_
  refine Run.iload F d73_1 rfl ?_
  refine Run.aloadN F d73_3 rfl rfl ?_
  refine Run.callStatic F (w255 hw) (w256 hw) (w37 hw) (w257 hw) (c_u16cboc l Z n0 a0 hw t o cs.length (pr ++ rs) SF hsf h Ls hO Ad (by rw [List.length_append]; omega)) rfl pd19 rfl rfl rfl rfl (by decide) (by decide) rfl d73_4 ?_
  rintro _ _ _ ⟨rfl, rfl, rfl⟩ _ _
  show Run _ _ _ _ _ _ _ _ _ _ _ _ _ _ _ _ _ _ _ _ []
  refine Run.iconst F d73_7 (z := 0) rfl ?_
  refine Run.istore F d73_8 rfl ?_
  dsimp only [List.set]
  refine Run.rec (fun r h' k n Ls' L st => ∃ i, i + r = cs.length ∧ k = 0 ∧ n = 0 ∧ Ls = Ls' ∧ Keep h h' [t] ∧ Old Z n0 h' ∧ Av Z h' t .byte (pr ++ u16 (cs.take i) ++ rs.drop (2 * i)) ∧ L = [.val (.ref b), .val (.int (Int32.ofNat i)), .val (.ref t), .val (.int (Int32.ofNat (o + i))), .val (.int (Int32.ofNat cs.length)), .val (.int (Int32.ofNat i))] ∧ st = []) ?_ cs.length _ _ _ _ _ _ ⟨0, by omega, rfl, rfl, rfl, Keep.refl _ _, hO, by simpa [u16] using Ad, rfl, rfl⟩
  rintro r h' k n Ls' L st ⟨i, hi, rfl, rfl, rfl, K, OO, A, rfl, rfl⟩ ih
  refine Run.iload F d73_10 rfl ?_
  refine Run.iload F d73_12 rfl ?_
  refine Run.icmp_ge F d73_14 (t := 41) rfl (i32_ti (by omega)) (i32_ti (by omega)) (fun q => ?_) (fun q => ?_)
  · have hr : r = 0 := by omega
    have hi' : i = cs.length := by omega
    subst hr hi'
    refine Run.return_ F (by decide) (by decide) d73_41 ⟨K, ?_, rfl⟩
    rw [List.take_length] at A; exact A
  · obtain ⟨r, rfl⟩ : ∃ r', r = r' + 1 := ⟨r - 1, by omega⟩
    have hlt : i < cs.length := by omega
    obtain ⟨c1, hc1⟩ : ∃ c1, cs[i]? = some c1 := ⟨_, List.getElem?_eq_getElem hlt⟩
    have hc2 := hcs c1 (List.mem_of_getElem? hc1)
    obtain ⟨r0, r1, rr, hrr⟩ : ∃ r0 r1 rr, rs.drop (2 * i) = r0 :: r1 :: rr := by
      have hl : 2 ≤ (rs.drop (2 * i)).length := by rw [List.length_drop]; omega
      match hm : rs.drop (2 * i), hl with
      | r0 :: r1 :: rr, _ => exact ⟨r0, r1, rr, rfl⟩
    have hrr2 : rs.drop (2 * (i + 1)) = rr := by
      have : rs.drop (2 * (i + 1)) = (rs.drop (2 * i)).drop 2 := by rw [List.drop_drop]; congr 1 <;> omega
      rw [this, hrr]; rfl
    rw [hrr] at A
    have hpl : (pr ++ u16 (cs.take i)).length = 2 * (o + i) := by rw [List.length_append, u16_len, List.length_take]; omega
    refine Run.aloadN F d73_17 rfl rfl ?_
    refine Run.iloadN F d73_18 rfl ?_
    refine Run.iinc F d73_19 (z := 1) rfl rfl ?_
    dsimp only [List.set]
    refine Run.aloadN F d73_22 rfl rfl ?_
    refine Run.iloadN F d73_23 rfl ?_
    refine Run.iinc F d73_24 (z := 1) rfl rfl ?_
    dsimp only [List.set]
    simp only [Jvm.Free.XT.succ32]
    refine Run.baload F (As.keep K (ninS hbt nin0)) (i32_nn (by omega)) (i32_tn (by omega)) (v := .int c1.toInt8.toInt32) (by rw [List.getElem?_append_left (by simpa using hlt)]; exact lb_get hc1) d73_27 ?_
    refine Run.sipush F d73_28 (z := 255) rfl ?_
    refine Run.iand F d73_31 ?_
    rw [low8' hc2.1 hc2.2]
    refine Run.callStatic F (w53 hw) (w54 hw) (w37 hw) (w55 hw) (c_putChar l Z n0 a0 hw t (o + i) c1 _ UA UH UL h' Ls OO A g (by rw [List.length_append, hpl, List.length_cons, List.length_cons]; omega)) rfl pd5 rfl rfl rfl rfl (by decide) (by decide) rfl d73_32 ?_
    rintro _ h2 _ ⟨rfl, K2, s2, A2, rfl⟩ O2 _
    show Run _ _ _ _ _ _ _ _ _ _ _ _ _ _ _ _ _ _ _ _ []
    refine Run.iinc F d73_35 (z := 1) rfl rfl ?_
    dsimp only [List.set]
    refine Run.goto F d73_38 (t := 10) rfl ?_
    refine ih r _ _ _ _ _ _ (by omega) ⟨i + 1, by omega, rfl, rfl, rfl, K.trans K2 (allS (Or.inl mem1) all0), O2, ?_, ?_, rfl⟩
    · rw [set2 hpl] at A2
      rw [hrr2, List.take_succ, hc1, u16_app]
      simpa [u16] using A2
    · simp only [Jvm.Free.XT.succ32]; rfl
theorem c_l1inf (hw : HW Z a0) (b t : Nat) (cs : List Int32) (o : Nat) (sx pr rs : List Value) {sf : Value} (SF : sF Z sf) (hsf : sf.isRef = true) (UA : uA Z) (UH : uH Z) (UL : uL Z) (h : Heap) (Ls : Lits) (hO : Old Z n0 h) (As : Av Z h b .byte (cs.map lb ++ sx)) (Ad : Av Z h t .byte (pr ++ rs)) (g : n0 ≤ t) (hbt : b ≠ t) (hpr : pr.length = 2 * o) (hrs : 2 * cs.length ≤ rs.length) (hcs : ∀ c ∈ cs, 0 ≤ c.toInt ∧ c.toInt < 256) :
    Con l Z n0 (⟨"java/lang/StringLatin1", "inflate", "([BI[BII)V"⟩ : MethodName) jdk_43_method_50_code 5 none ⟨4, 0, 0, 60⟩ [.ref b, .int 0, .ref t, .int (Int32.ofNat o), .int (Int32.ofNat cs.length)] h Ls [] (RN fun h' Ls' => Keep h h' [t] ∧ Av Z h' t .byte (pr ++ u16 cs ++ rs.drop (2 * cs.length)) ∧ Ls = Ls') := by
  refine Con.of_run (plainFor_of_name pn2) hO ?_
  intro pX eX sX mX bX tX cX F hX
  refine ⟨[.val (.ref b), .val (.int 0), .val (.ref t), .val (.int (Int32.ofNat o)), .val (.int (Int32.ofNat cs.length))], rfl, ?_⟩
  refine Run.aloadN F d72_0 rfl rfl ?_
  refine Run.iloadN F d72_1 rfl ?_
  refine Run.aloadN F d72_2 rfl rfl ?_
  refine Run.iloadN F d72_3 rfl ?_
  refine Run.iload F d72_4 rfl ?_
  refine Run.callStatic F (w322 hw) (w323 hw) (w37 hw) (w324 hw) (c_u16inf l Z n0 a0 hw b t cs o sx pr rs SF hsf UA UH UL h Ls hO As Ad g hbt hpr hrs hcs) rfl pd20 rfl rfl rfl rfl (by decide) (by decide) rfl d72_6 ?_
  rintro _ h1 _ ⟨rfl, K1, A1, rfl⟩ _ _
  exact Run.return_ F (by decide) (by decide) d72_9 ⟨K1, A1, rfl⟩
theorem c_asbInflT (hw : HW Z a0) (x : Nat) {cz : Int32} (SC : sC Z cz) (hcz : cz.toInt ≠ 0) (h : Heap) (Ls : Lits) (hO : Old Z n0 h) (E : Exa Z h x SBN) (Fc : Fld Z h x ASB "coder" "B" (.int (b2i true))) :
    Con l Z n0 (⟨"java/lang/AbstractStringBuilder", "inflate", "()V"⟩ : MethodName) jdk_68_method_11_code 2 none ⟨1, 0, 0, 12⟩ [.ref x] h Ls [] (RN fun h' Ls' => h = h' ∧ Ls = Ls') := by
  refine Con.of_run (plainFor_of_name pn4) hO ?_
  intro pX eX sX mX bX tX cX F hX
  refine ⟨[.val (.ref x), .unset], rfl, ?_⟩
  refine Run.aloadN F d70_0 rfl rfl ?_
  refine Run.callVirtual F (w313 hw) (w314 hw) (nfs (w316 hw)) (w316 hw) (w315 hw) (w155 hw) (w317 hw) E (c_asbLatin1 l Z n0 a0 hw x true SC hcz h Ls hO Fc) rfl pd13 rfl rfl rfl rfl (by decide) (by decide) rfl d70_1 ?_
  rintro _ _ _ ⟨_, rfl, rfl, rfl, rfl⟩ _ _
  refine Run.ifNo F d70_4 rfl ?_
  exact Run.return_ F (by decide) (by decide) d70_7 ⟨rfl, rfl⟩
theorem c_asbInflF (hw : HW Z a0) (x v : Nat) (cap : Nat) (ds : List Int32) {cz : Int32} (SC : sC Z cz) (hcz : cz.toInt ≠ 0) {sf : Value} (SF : sF Z sf) (hsf : sf.isRef = true) (UA : uA Z) (UH : uH Z) (UL : uL Z) (h : Heap) (Ls : Lits) (hO : Old Z n0 h) (S : Sb Z h x v false cap ds) (g : n0 ≤ x) (hcap : cap ≤ 102) (hds : ∀ c ∈ ds, 0 ≤ c.toInt ∧ c.toInt < 256) :
    Con l Z n0 (⟨"java/lang/AbstractStringBuilder", "inflate", "()V"⟩ : MethodName) jdk_68_method_11_code 2 none ⟨5, 1, 204, 76⟩ [.ref x] h Ls [] (RN fun h' Ls' => ∃ v' : Nat, Sb Z h' x v' true (2 * cap) ds ∧ Keep h h' [x] ∧ h.size ≤ v' ∧ Ls = Ls') := by
  refine Con.of_run (plainFor_of_name pn4) hO ?_
  intro pX eX sX mX bX tX cX F hX
  refine ⟨[.val (.ref x), .unset], rfl, ?_⟩
  obtain ⟨E, Fv, Fc, Fn, Fm, Ev, tl, ht, A⟩ := S
  have e1 : wd false * ds.length = ds.length := by simp [wd]
  rw [e1] at ht
  have e2 : byts false ds = ds.map lb := rfl
  rw [e2] at A
  have hln : (ds.map lb ++ tl).length = cap := by rw [List.length_append, List.length_map]; omega
  have nq1 : Jvm.RoadKit.slotOf Z ASB "coder" "B" ≠ Jvm.RoadKit.slotOf Z ASB "value" "[B" := slot_ne (a0 := a0) (C := "java/lang/StringBuilder") (Or.inl (w162 hw)) (Or.inl (w160 hw)) (by decide) (t := .byte) (t' := (.array .byte)) (by decide) (by decide)
  have nq2 : Jvm.RoadKit.slotOf Z ASB "count" "I" ≠ Jvm.RoadKit.slotOf Z ASB "value" "[B" := slot_ne (a0 := a0) (C := "java/lang/StringBuilder") (Or.inl (w291 hw)) (Or.inl (w160 hw)) (by decide) (t := .int) (t' := (.array .byte)) (by decide) (by decide)
  have nq3 : Jvm.RoadKit.slotOf Z ASB "maybeLatin1" "Z" ≠ Jvm.RoadKit.slotOf Z ASB "value" "[B" := slot_ne (a0 := a0) (C := "java/lang/StringBuilder") (Or.inl (w386 hw)) (Or.inl (w160 hw)) (by decide) (t := .boolean) (t' := (.array .byte)) (by decide) (by decide)
  have n4 : Jvm.RoadKit.slotOf Z ASB "value" "[B" ≠ Jvm.RoadKit.slotOf Z ASB "coder" "B" := slot_ne (a0 := a0) (C := "java/lang/StringBuilder") (Or.inl (w160 hw)) (Or.inl (w162 hw)) (by decide) (t := (.array .byte)) (t' := .byte) (by decide) (by decide)
  have n5 : Jvm.RoadKit.slotOf Z ASB "count" "I" ≠ Jvm.RoadKit.slotOf Z ASB "coder" "B" := slot_ne (a0 := a0) (C := "java/lang/StringBuilder") (Or.inl (w291 hw)) (Or.inl (w162 hw)) (by decide) (t := .int) (t' := .byte) (by decide) (by decide)
  have n6 : Jvm.RoadKit.slotOf Z ASB "maybeLatin1" "Z" ≠ Jvm.RoadKit.slotOf Z ASB "coder" "B" := slot_ne (a0 := a0) (C := "java/lang/StringBuilder") (Or.inl (w386 hw)) (Or.inl (w162 hw)) (by decide) (t := .boolean) (t' := .byte) (by decide) (by decide)
  refine Run.aloadN F d70_0 rfl rfl ?_
  refine Run.callVirtual F (w313 hw) (w314 hw) (nfs (w316 hw)) (w316 hw) (w315 hw) (w155 hw) (w317 hw) E (c_asbLatin1 l Z n0 a0 hw x false SC hcz h Ls hO Fc) rfl pd13 rfl rfl rfl rfl (by decide) (by decide) rfl d70_1 ?_
  rintro _ _ _ ⟨_, rfl, rfl, rfl, rfl⟩ _ _
  refine Run.ifYes F d70_4 (t := 8) rfl rfl ?_
  refine Run.aloadN F d70_8 rfl rfl ?_
  refine Run.getfield F (host := "") (Or.inl (w159 hw)) Via.refl Fv d70_9 ?_
  refine Run.arrlen F A d70_12 ?_
  rw [hln]
  refine Run.callStatic F (w318 hw) (w47 hw) (w37 hw) (w48 hw) (c_nbFor l Z n0 a0 hw cap h Ls hO (by omega)) rfl pd4 rfl rfl rfl rfl (by decide) (by decide) rfl d70_13 ?_
  rintro _ h1 _ ⟨_, rfl, b, rfl, K1, hb, E1, A1, rfl⟩ hO1 _
  have gb : n0 ≤ b := by rw [hb, ← hO.1]; exact hO.2.1
  have lv := A.lt
  have lx := (ltE E)
  have hvb : v ≠ b := by omega
  have hbx : b ≠ x := by omega
  refine Run.astoreN F d70_16 rfl rfl ?_
  dsimp only [List.set]
  refine Run.aloadN F d70_17 rfl rfl ?_
  refine Run.getfield F (host := "") (Or.inl (w159 hw)) Via.refl (Fv.keep K1 nin0) d70_18 ?_
  refine Run.iconst F d70_21 (z := 0) rfl ?_
  refine Run.aloadN F d70_22 rfl rfl ?_
  refine Run.iconst F d70_23 (z := 0) rfl ?_
  refine Run.aloadN F d70_24 rfl rfl ?_
  refine Run.getfield F (host := "") (Or.inl (w290 hw)) Via.refl (Fn.keep K1 nin0) d70_25 ?_
  refine Run.callStatic F (w319 hw) (w320 hw) (w206 hw) (w321 hw) (c_l1inf l Z n0 a0 hw v b ds 0 tl [] (List.replicate (2 * cap) (.int 0)) SF hsf UA UH UL h1 Ls hO1 (A.keep K1 nin0) (by simpa using A1) gb hvb rfl (by rw [List.length_replicate]; omega) hds) rfl pd20 rfl rfl rfl rfl (by decide) (by decide) rfl d70_28 ?_
  rintro _ h2 _ ⟨rfl, K2, A2, rfl⟩ hO2 _
  show Run _ _ _ _ _ _ _ _ _ _ _ _ _ _ _ _ _ _ _ _ []
  have hx2 : x ∉ [b] := ninS (Ne.symm hbx) nin0
  refine Run.aloadN F d70_31 rfl rfl ?_
  refine Run.aloadN F d70_32 rfl rfl ?_
  refine Run.putfield F (w159 hw) Via.refl ((Fv.keep K1 nin0).keep K2 hx2) ((E.keep K1).keep K2) g (Or.inl (w160 hw)) (w146 hw) (ty := (.array .byte)) (by decide) (v' := .ref b) rfl rfl d70_33 ?_
  intro h3 W3 K3 hs3 F3
  refine Run.aloadN F d70_36 rfl rfl ?_
  refine Run.iconst F d70_37 (z := 1) rfl ?_
  have E3 : Exa Z h3 x SBN := ((E.keep K1).keep K2).keep K3
  have Fc3 : Fld Z h3 x ASB "coder" "B" (.int (b2i false)) := ((Fc.keep K1 nin0).keep K2 hx2).other W3 (Or.inr nq1)
  refine Run.putfield F (w161 hw) Via.refl Fc3 E3 g (Or.inl (w162 hw)) (w146 hw) (ty := .byte) (by decide) (v' := .int (b2i true)) rfl rfl d70_38 ?_
  intro h4 W4 K4 hs4 F4
  have K12 : Keep h h2 [] := K1.trans K2 (allS (Or.inr (by omega)) all0)
  have K14 : Keep h h4 [x] := ((K12.mono (ws' := [x]) (by simp)).trans K3 (allS (Or.inl mem1) all0)).trans K4 (allS (Or.inl mem1) all0)
  refine Run.return_ F (by decide) (by decide) d70_41 ⟨b, ⟨E3.keep K4, F3.other W4 (Or.inr n4), F4, (((Fn.keep K1 nin0).keep K2 hx2).other W3 (Or.inr nq2)).other W4 (Or.inr n5), (((Fm.keep K1 nin0).keep K2 hx2).other W3 (Or.inr nq3)).other W4 (Or.inr n6), ((E1.keep K2).keep K3).keep K4, (List.replicate (2 * cap) (.int 0)).drop (2 * ds.length), ?_, ?_⟩, K14, by omega, rfl⟩
  · have : wd true = 2 := rfl
    rw [List.length_drop, List.length_replicate, this]; omega
  · exact ((by simpa [byts] using A2 : Av Z h2 b .byte (byts true ds ++ (List.replicate (2 * cap) (.int 0)).drop (2 * ds.length))).keep K3 (ninS hbx nin0)).keep K4 (ninS hbx nin0)
theorem c_asbInit (hw : HW Z a0) (x : Nat) (cap : Nat) {cz : Int32} (SC : sC Z cz) (hcz : cz.toInt ≠ 0) (h : Heap) (Ls : Lits) (hO : Old Z n0 h) (E : Exa Z h x SBN) (Fv : Fld Z h x ASB "value" "[B" .null) (Fc : Fld Z h x ASB "coder" "B" (.int 0)) (Fn : Fld Z h x ASB "count" "I" (.int 0)) (Fm : Fld Z h x ASB "maybeLatin1" "Z" (.int 0)) (g : n0 ≤ x) (hcap : cap ≤ 16) :
    Con l Z n0 (⟨"java/lang/AbstractStringBuilder", "<init>", "(I)V"⟩ : MethodName) jdk_68_method_2_code 2 none ⟨1, 1, 16, 12⟩ [.ref x, .int (Int32.ofNat cap)] h Ls [] (RN fun h' Ls' => ∃ v : Nat, Sb Z h' x v false cap [] ∧ Keep h h' [x] ∧ h.size ≤ v ∧ Ls = Ls') := by
  refine Con.of_run (plainFor_of_name pn4) hO ?_
  intro pX eX sX mX bX tX cX F hX
  refine ⟨[.val (.ref x), .val (.int (Int32.ofNat cap))], rfl, ?_⟩
  have nq1 : Jvm.RoadKit.slotOf Z ASB "coder" "B" ≠ Jvm.RoadKit.slotOf Z ASB "value" "[B" := slot_ne (a0 := a0) (C := "java/lang/StringBuilder") (Or.inl (w162 hw)) (Or.inl (w160 hw)) (by decide) (t := .byte) (t' := (.array .byte)) (by decide) (by decide)
  have nq2 : Jvm.RoadKit.slotOf Z ASB "count" "I" ≠ Jvm.RoadKit.slotOf Z ASB "value" "[B" := slot_ne (a0 := a0) (C := "java/lang/StringBuilder") (Or.inl (w291 hw)) (Or.inl (w160 hw)) (by decide) (t := .int) (t' := (.array .byte)) (by decide) (by decide)
  have nq3 : Jvm.RoadKit.slotOf Z ASB "maybeLatin1" "Z" ≠ Jvm.RoadKit.slotOf Z ASB "value" "[B" := slot_ne (a0 := a0) (C := "java/lang/StringBuilder") (Or.inl (w386 hw)) (Or.inl (w160 hw)) (by decide) (t := .boolean) (t' := (.array .byte)) (by decide) (by decide)
  have n4 : Jvm.RoadKit.slotOf Z ASB "value" "[B" ≠ Jvm.RoadKit.slotOf Z ASB "coder" "B" := slot_ne (a0 := a0) (C := "java/lang/StringBuilder") (Or.inl (w160 hw)) (Or.inl (w162 hw)) (by decide) (t := (.array .byte)) (t' := .byte) (by decide) (by decide)
  have n5 : Jvm.RoadKit.slotOf Z ASB "count" "I" ≠ Jvm.RoadKit.slotOf Z ASB "coder" "B" := slot_ne (a0 := a0) (C := "java/lang/StringBuilder") (Or.inl (w291 hw)) (Or.inl (w162 hw)) (by decide) (t := .int) (t' := .byte) (by decide) (by decide)
  have n6 : Jvm.RoadKit.slotOf Z ASB "maybeLatin1" "Z" ≠ Jvm.RoadKit.slotOf Z ASB "coder" "B" := slot_ne (a0 := a0) (C := "java/lang/StringBuilder") (Or.inl (w386 hw)) (Or.inl (w162 hw)) (by decide) (t := .boolean) (t' := .byte) (by decide) (by decide)
  refine Run.aloadN F d33_0 rfl rfl ?_
  refine Run.objInit F (w157 hw) (w32 hw) (w33 hw) rfl rfl rfl d33_1 ?_
  refine Run.getstatic F (w158 hw) Via.refl SC d33_4 ?_
  refine Run.if_eq F d33_7 (t := 25) rfl rfl (fun q => absurd q hcz) (fun _ => ?_)
  refine Run.aloadN F d33_10 rfl rfl ?_
  refine Run.iloadN F d33_11 rfl ?_
  refine Run.newarrayE (aty := .byte) F (w39 hw) (ad := "[B") (by decide) (i32_nn (by omega)) (i32_tn (by omega)) 16 hcap rfl (by decide) (by decide) d33_12 ?_
  intro h1 b hb K1 lt1 A1 E1
  have lx := (ltE E)
  have hbx : b ≠ x := by omega
  refine Run.putfield F (w159 hw) Via.refl (Fv.keep K1 nin0) (E.keep K1) g (Or.inl (w160 hw)) (w146 hw) (ty := (.array .byte)) (by decide) (v' := .ref b) rfl rfl d33_14 ?_
  intro h2 W2 K2 hs2 F2
  refine Run.aloadN F d33_17 rfl rfl ?_
  refine Run.iconst F d33_18 (z := 0) rfl ?_
  have E2 : Exa Z h2 x SBN := (E.keep K1).keep K2
  have Fc2 : Fld Z h2 x ASB "coder" "B" (.int 0) := (Fc.keep K1 nin0).other W2 (Or.inr nq1)
  refine Run.putfield F (w161 hw) Via.refl Fc2 E2 g (Or.inl (w162 hw)) (w146 hw) (ty := .byte) (by decide) (v' := .int 0) rfl rfl d33_19 ?_
  intro h3 W3 K3 hs3 F3
  refine Run.goto F d33_22 (t := 38) rfl ?_
  have K13 : Keep h h3 [x] := ((K1.mono (ws' := [x]) (by simp)).trans K2 (allS (Or.inl mem1) all0)).trans K3 (allS (Or.inl mem1) all0)
  refine Run.return_ F (by decide) (by decide) d33_38 ⟨b, ⟨E2.keep K3, F2.other W3 (Or.inr n4), F3, ((Fn.keep K1 nin0).other W2 (Or.inr nq2)).other W3 (Or.inr n5), ((Fm.keep K1 nin0).other W2 (Or.inr nq3)).other W3 (Or.inr n6), (E1.keep K2).keep K3, List.replicate cap (.int 0), by simp, (A1.keep K2 (ninS hbx nin0)).keep K3 (ninS hbx nin0)⟩, K13, by omega, rfl⟩
theorem c_getBytes (hw : HW Z a0) (y b t : Nat) (u : Bool) (cs : List Int32) (o : Nat) (pr rs : List Value) {cz : Int32} (SC : sC Z cz) (hcz : cz.toInt ≠ 0) {sf : Value} (SF : sF Z sf) (hsf : sf.isRef = true) (UA : uA Z) (UH : uH Z) (UL : uL Z) (h : Heap) (Ls : Lits) (hO : Old Z n0 h) (S : Str Z h y b 0 (cs.map lb)) (Ad : Av Z h t .byte (pr ++ rs)) (g : n0 ≤ t) (hbt : b ≠ t) (hpr : pr.length = wd u * o) (hrs : wd u * cs.length ≤ rs.length) (hcs : ∀ c ∈ cs, 0 ≤ c.toInt ∧ c.toInt < 256) :
    Con l Z n0 (⟨"java/lang/String", "getBytes", "([BIB)V"⟩ : MethodName) jdk_42_method_147_code 4 none ⟨5, 0, 0, 76⟩ [.ref y, .ref t, .int (Int32.ofNat o), .int (b2i u)] h Ls [] (RN fun h' Ls' => Keep h h' [t] ∧ Av Z h' t .byte (pr ++ byts u cs ++ rs.drop (wd u * cs.length)) ∧ Ls = Ls') := by
  refine Con.of_run (plainFor_of_name pn0) hO ?_
  intro pX eX sX mX bX tX cX F hX
  refine ⟨[.val (.ref y), .val (.ref t), .val (.int (Int32.ofNat o)), .val (.int (b2i u))], rfl, ?_⟩
  have hld := Ad.len
  rw [List.length_append] at hld
  refine Run.aloadN F d74_0 rfl rfl ?_
  refine Run.callVirtual F (w83 hw) (w84 hw) (nfs (w86 hw)) (w86 hw) (w85 hw) (w23 hw) (w87 hw) S.1 (c_coder l Z n0 a0 hw y 0 SC hcz h Ls hO S.2.1 rfl) rfl pd0 rfl rfl rfl rfl (by decide) (by decide) rfl d74_1 ?_
  rintro _ _ _ ⟨_, rfl, rfl, rfl, rfl⟩ _ _
  refine Run.iloadN F d74_4 rfl ?_
  cases u
  · refine Run.icmpNo F d74_5 rfl ?_
    have w1 : wd false = 1 := rfl
    rw [w1] at hpr hrs ⊢
    have e0 : Int32.ofNat o <<< (b2i false &&& 31) = Int32.ofNat (1 * o) := by
      apply Int32.toInt_inj.mp
      have f1 : ((Int32.ofNat o <<< (b2i false &&& 31)).toInt - (Int32.ofNat o).toInt * (2 ^ 0 : Nat)) % 4294967296 = 0 := c_ishl (Int32.ofNat o) 0 0 (by decide)
      have f2 := rng32 (Int32.ofNat o <<< (b2i false &&& 31))
      rw [Nat.one_mul, i32_ti (i := o) (by omega)]
      rw [i32_ti (i := o) (by omega)] at f1
      simp only [Nat.pow_zero] at f1
      omega
    refine Run.aloadN F d74_8 rfl rfl ?_
    refine Run.getfield F (host := "") (Or.inl (w67 hw)) Via.refl S.2.2.1 d74_9 ?_
    refine Run.iconst F d74_12 (z := 0) rfl ?_
    refine Run.aloadN F d74_13 rfl rfl ?_
    refine Run.iloadN F d74_14 rfl ?_
    refine Run.iloadN F d74_15 rfl ?_
    refine Run.ishl F d74_16 ?_
    rw [e0]
    refine Run.aloadN F d74_17 rfl rfl ?_
    refine Run.getfield F (host := "") (Or.inl (w67 hw)) Via.refl S.2.2.1 d74_18 ?_
    refine Run.arrlen F S.2.2.2 d74_21 ?_
    rw [List.length_map]
    refine Run.arraycopy F (w330 hw) (w128 hw) (w126 hw) (w127 hw) S.2.2.2 Ad rfl g (sp := 0) rfl (dp := 1 * o) (i32_ti (by omega)) (nn := cs.length) (i32_ti (by omega)) (by simp) (by rw [List.length_append]; omega) (us := cs.map lb) (by rw [List.drop_zero]; exact List.take_of_length_le (by simp)) rfl rfl rfl d74_22 ?_
    intro h1 K1 A1
    refine Run.goto F d74_25 (t := 43) rfl ?_
    refine Run.return_ F (by decide) (by decide) d74_43 ⟨K1, ?_, rfl⟩
    rw [← hpr, List.take_left, List.drop_append] at A1
    have e4 : pr.length + cs.length - pr.length = 1 * cs.length := by omega
    rw [e4, List.drop_eq_nil_of_le (by omega), List.nil_append] at A1
    exact A1
  · refine Run.icmpYes F d74_5 (t := 28) rfl rfl ?_
    have w1 : wd true = 2 := rfl
    rw [w1] at hpr hrs ⊢
    refine Run.aloadN F d74_28 rfl rfl ?_
    refine Run.getfield F (host := "") (Or.inl (w67 hw)) Via.refl S.2.2.1 d74_29 ?_
    refine Run.iconst F d74_32 (z := 0) rfl ?_
    refine Run.aloadN F d74_33 rfl rfl ?_
    refine Run.iloadN F d74_34 rfl ?_
    refine Run.aloadN F d74_35 rfl rfl ?_
    refine Run.getfield F (host := "") (Or.inl (w67 hw)) Via.refl S.2.2.1 d74_36 ?_
    refine Run.arrlen F S.2.2.2 d74_39 ?_
    rw [List.length_map]
    refine Run.callStatic F (w334 hw) (w320 hw) (w206 hw) (w321 hw) (c_l1inf l Z n0 a0 hw b t cs o [] pr rs SF hsf UA UH UL h Ls hO (by simpa using S.2.2.2) Ad g hbt hpr hrs hcs) rfl pd20 rfl rfl rfl rfl (by decide) (by decide) rfl d74_40 ?_
    rintro _ h1 _ ⟨rfl, K1, A1, rfl⟩ _ _
    exact Run.return_ F (by decide) (by decide) d74_43 ⟨K1, A1, rfl⟩
theorem c_inflIf (hw : HW Z a0) (x y : Nat) (u : Bool) {cz : Int32} (SC : sC Z cz) (hcz : cz.toInt ≠ 0) (h : Heap) (Ls : Lits) (hO : Old Z n0 h) (E : Exa Z h x SBN) (Fc : Fld Z h x ASB "coder" "B" (.int (b2i u))) (Ey : Exa Z h y "java/lang/String") (Fy : Fld Z h y "java/lang/String" "coder" "B" (.int 0)) :
    Con l Z n0 (⟨"java/lang/AbstractStringBuilder", "inflateIfNeededFor", "(Ljava/lang/String;)V"⟩ : MethodName) jdk_68_method_71_code 2 none ⟨2, 0, 0, 25⟩ [.ref x, .ref y] h Ls [] (RN fun h' Ls' => h = h' ∧ Ls = Ls') := by
  refine Con.of_run (plainFor_of_name pn4) hO ?_
  intro pX eX sX mX bX tX cX F hX
  refine ⟨[.val (.ref x), .val (.ref y)], rfl, ?_⟩
  refine Run.getstatic F (w158 hw) Via.refl SC d69_0 ?_
  refine Run.if_eq F d69_3 (t := 21) rfl rfl (fun q => absurd q hcz) (fun _ => ?_)
  refine Run.aloadN F d69_6 rfl rfl ?_
  refine Run.getfield F (host := "") (Or.inl (w161 hw)) Via.refl Fc d69_7 ?_
  refine Run.aloadN F d69_10 rfl rfl ?_
  refine Run.callVirtual F (w307 hw) (w84 hw) (nfs (w86 hw)) (w86 hw) (w85 hw) (w23 hw) (w87 hw) Ey (c_coder l Z n0 a0 hw y 0 SC hcz h Ls hO Fy rfl) rfl pd0 rfl rfl rfl rfl (by decide) (by decide) rfl d69_11 ?_
  rintro _ _ _ ⟨_, rfl, rfl, rfl, rfl⟩ _ _
  cases u
  · refine Run.icmpYes F d69_14 (t := 21) rfl rfl ?_
    exact Run.return_ F (by decide) (by decide) d69_21 ⟨rfl, rfl⟩
  · refine Run.icmpNo F d69_14 rfl ?_
    refine Run.aloadN F d69_17 rfl rfl ?_
    refine Run.callVirtual F (w308 hw) (decl_of (w309 hw) (w312 hw)) (nfs (w311 hw)) (w311 hw) (w309 hw) (w155 hw) (w312 hw) E (c_asbInflT l Z n0 a0 hw x SC hcz h Ls hO E Fc) rfl pd21 rfl rfl rfl rfl (by decide) (by decide) rfl d69_18 ?_
    rintro _ _ _ ⟨rfl, rfl, rfl⟩ _ _
    exact Run.return_ F (by decide) (by decide) d69_21 ⟨rfl, rfl⟩
theorem c_putAt (hw : HW Z a0) (x v y b : Nat) (u : Bool) (cap : Nat) (ds cs : List Int32) {cz : Int32} (SC : sC Z cz) (hcz : cz.toInt ≠ 0) {sf : Value} (SF : sF Z sf) (hsf : sf.isRef = true) (UA : uA Z) (UH : uH Z) (UL : uL Z) (h : Heap) (Ls : Lits) (hO : Old Z n0 h) (S : Sb Z h x v u cap ds) (T : Str Z h y b 0 (cs.map lb)) (g : n0 ≤ x) (gv : n0 ≤ v) (hbv : b ≠ v) (hcs : ∀ c ∈ cs, 0 ≤ c.toInt ∧ c.toInt < 256) (hroom : wd u * (ds.length + cs.length) ≤ cap) :
    Con l Z n0 (⟨"java/lang/AbstractStringBuilder", "putStringAt", "(ILjava/lang/String;)V"⟩ : MethodName) jdk_68_method_73_code 3 none ⟨6, 0, 0, 91⟩ [.ref x, .int (Int32.ofNat ds.length), .ref y] h Ls [] (RN fun h' Ls' => Keep h h' [v] ∧ (∃ tl : List Value, tl.length + wd u * (ds.length + cs.length) = cap ∧ Av Z h' v .byte (byts u (ds ++ cs) ++ tl)) ∧ Ls = Ls') := by
  refine Con.of_run (plainFor_of_name pn4) hO ?_
  intro pX eX sX mX bX tX cX F hX
  refine ⟨[.val (.ref x), .val (.int (Int32.ofNat ds.length)), .val (.ref y)], rfl, ?_⟩
  obtain ⟨E, Fv, Fc, Fn, Fm, Ev, tl, ht, A⟩ := S
  have hm : wd u * (ds.length + cs.length) = wd u * ds.length + wd u * cs.length := Nat.mul_add _ _ _
  refine Run.aloadN F d68_0 rfl rfl ?_
  refine Run.aloadN F d68_1 rfl rfl ?_
  refine Run.callVirtual F (w302 hw) (decl_of (w303 hw) (w306 hw)) (nfs (w305 hw)) (w305 hw) (w303 hw) (w155 hw) (w306 hw) E (c_inflIf l Z n0 a0 hw x y u SC hcz h Ls hO E Fc T.1 T.2.1) rfl pd22 rfl rfl rfl rfl (by decide) (by decide) rfl d68_2 ?_
  rintro _ _ _ ⟨rfl, rfl, rfl⟩ _ _
  show Run _ _ _ _ _ _ _ _ _ _ _ _ _ _ _ _ _ _ _ _ []
  refine Run.aloadN F d68_5 rfl rfl ?_
  refine Run.aloadN F d68_6 rfl rfl ?_
  refine Run.getfield F (host := "") (Or.inl (w159 hw)) Via.refl Fv d68_7 ?_
  refine Run.iloadN F d68_10 rfl ?_
  refine Run.aloadN F d68_11 rfl rfl ?_
  refine Run.getfield F (host := "") (Or.inl (w161 hw)) Via.refl Fc d68_12 ?_
  refine Run.callVirtual F (w325 hw) (w326 hw) (nfs (w328 hw)) (w328 hw) (w327 hw) (w23 hw) (w329 hw) T.1 (c_getBytes l Z n0 a0 hw y b v u cs ds.length (byts u ds) tl SC hcz SF hsf UA UH UL h Ls hO T A gv hbv (byts_len u ds) (by omega) hcs) rfl pd23 rfl rfl rfl rfl (by decide) (by decide) rfl d68_15 ?_
  rintro _ h1 _ ⟨rfl, K1, A1, rfl⟩ _ _
  exact Run.return_ F (by decide) (by decide) d68_18 ⟨K1, ⟨tl.drop (wd u * cs.length), by rw [List.length_drop]; omega, by rw [byts_app]; exact A1⟩, rfl⟩
theorem c_asbAppS (hw : HW Z a0) (x v y b : Nat) (u : Bool) (cap : Nat) (ds cs : List Int32) {cz : Int32} (SC : sC Z cz) (hcz : cz.toInt ≠ 0) {sf : Value} (SF : sF Z sf) (hsf : sf.isRef = true) (UA : uA Z) (UH : uH Z) (UL : uL Z) (h : Heap) (Ls : Lits) (hO : Old Z n0 h) (S : Sb Z h x v u cap ds) (T : Str Z h y b 0 (cs.map lb)) (g : n0 ≤ x) (gv : n0 ≤ v) (hbv : b ≠ v) (hcs : ∀ c ∈ cs, 0 ≤ c.toInt ∧ c.toInt < 256) (hby : y ≠ v ∧ y ≠ x ∧ b ≠ x) (hcap : cap ≤ wd u * 102) (hds : ds.length + cs.length ≤ 50) :
    Con l Z n0 (⟨"java/lang/AbstractStringBuilder", "append", "(Ljava/lang/String;)Ljava/lang/AbstractStringBuilder;"⟩ : MethodName) jdk_68_method_22_code 3 (some (.object "java/lang/AbstractStringBuilder")) ⟨7, 1, 204, 105⟩ [.ref x, .ref y] h Ls [] (RV fun w h' Ls' => w = .ref x ∧ ∃ v' cap' : Nat, Sb Z h' x v' u cap' (ds ++ cs) ∧ cap' ≤ wd u * 102 ∧ Keep h h' [x, v] ∧ (v' = v ∨ h.size ≤ v') ∧ Ls = Ls') := by
  refine Con.of_run (plainFor_of_name pn4) hO ?_
  intro pX eX sX mX bX tX cX F hX
  refine ⟨[.val (.ref x), .val (.ref y), .unset], rfl, ?_⟩
  have nq1 : Jvm.RoadKit.slotOf Z ASB "value" "[B" ≠ Jvm.RoadKit.slotOf Z ASB "count" "I" := slot_ne (a0 := a0) (C := "java/lang/StringBuilder") (Or.inl (w160 hw)) (Or.inl (w291 hw)) (by decide) (t := (.array .byte)) (t' := .int) (by decide) (by decide)
  have nq2 : Jvm.RoadKit.slotOf Z ASB "coder" "B" ≠ Jvm.RoadKit.slotOf Z ASB "count" "I" := slot_ne (a0 := a0) (C := "java/lang/StringBuilder") (Or.inl (w162 hw)) (Or.inl (w291 hw)) (by decide) (t := .byte) (t' := .int) (by decide) (by decide)
  have nq3 : Jvm.RoadKit.slotOf Z ASB "maybeLatin1" "Z" ≠ Jvm.RoadKit.slotOf Z ASB "count" "I" := slot_ne (a0 := a0) (C := "java/lang/StringBuilder") (Or.inl (w386 hw)) (Or.inl (w291 hw)) (by decide) (t := .boolean) (t' := .int) (by decide) (by decide)
  have hlT := T.2.2.2.len
  rw [List.length_map] at hlT
  have hwl : Int32.ofNat (cs.map lb).length >>> ((0 : Int32) &&& 31) = Int32.ofNat cs.length := by
    have e := shr_b2i false (a := cs.length) hlT
    rw [List.length_map]
    have e2 : cs.length / wd false = cs.length := by simp [wd]
    rw [e2] at e; exact e
  refine Run.aloadN F d66_0 rfl rfl ?_
  refine Run.ifnonnullYes F d66_1 (t := 9) rfl ?_
  refine Run.aloadN F d66_9 rfl rfl ?_
  refine Run.callVirtual F (w289 hw) (w167 hw) (nfs (w169 hw)) (w169 hw) (w168 hw) (w23 hw) (w170 hw) T.1 (c_length l Z n0 a0 hw y b 0 (Int32.ofNat cs.length) (cs.map lb) SC hcz h Ls hO T rfl hwl) rfl pd14 rfl rfl rfl rfl (by decide) (by decide) rfl d66_10 ?_
  rintro _ _ _ ⟨_, rfl, rfl, rfl, rfl⟩ _ _
  refine Run.istoreN F d66_13 rfl ?_
  dsimp only [List.set]
  refine Run.aloadN F d66_14 rfl rfl ?_
  refine Run.aloadN F d66_15 rfl rfl ?_
  refine Run.getfield F (host := "") (Or.inl (w290 hw)) Via.refl S.2.2.2.1 d66_16 ?_
  refine Run.iloadN F d66_19 rfl ?_
  refine Run.iadd F d66_20 ?_
  rw [i32_add (by omega)]
  refine Run.callVirtual F (w292 hw) (decl_of (w293 hw) (w296 hw)) (nfs (w295 hw)) (w295 hw) (w293 hw) (w155 hw) (w296 hw) S.1 (c_ensure l Z n0 a0 hw x v u cap (ds.length + cs.length) ds h Ls hO S g hds hcap) rfl pd24 rfl rfl rfl rfl (by decide) (by decide) rfl d66_21 ?_
  rintro _ h1 _ ⟨rfl, v1, cap1, S1, hc1, hc1', K1, hv1, rfl⟩ hO1 hz1
  show Run _ _ _ _ _ _ _ _ _ _ _ _ _ _ _ _ _ _ _ _ []
  have gv1 : n0 ≤ v1 := by
    have := hO.2.1
    rcases hv1 with rfl | q
    · exact gv
    · rw [hO.1] at this; omega
  have la := T.la
  have lbb := T.lb
  have T1 : Str Z h1 y b 0 (cs.map lb) := T.keep K1 (ninS hby.2.1 nin0) (ninS hby.2.2 nin0)
  have hb1 : b ≠ v1 := by
    rcases hv1 with rfl | q
    · exact hbv
    · omega
  refine Run.aloadN F d66_24 rfl rfl ?_
  refine Run.aloadN F d66_25 rfl rfl ?_
  refine Run.getfield F (host := "") (Or.inl (w290 hw)) Via.refl S1.2.2.2.1 d66_26 ?_
  refine Run.aloadN F d66_29 rfl rfl ?_
  refine Run.callVirtual F (w297 hw) (decl_of (w298 hw) (w301 hw)) (nfs (w300 hw)) (w300 hw) (w298 hw) (w155 hw) (w301 hw) S1.1 (c_putAt l Z n0 a0 hw x v1 y b u cap1 ds cs SC hcz SF hsf UA UH UL h1 Ls hO1 S1 T1 g gv1 hb1 hcs hc1) rfl pd25 rfl rfl rfl rfl (by decide) (by decide) rfl d66_30 ?_
  rintro _ h2 _ ⟨rfl, K2, ⟨tl2, ht2, A2⟩, rfl⟩ hO2 _
  show Run _ _ _ _ _ _ _ _ _ _ _ _ _ _ _ _ _ _ _ _ []
  have nxv := S1.ne
  have hx2 : x ∉ [v1] := ninS nxv nin0
  obtain ⟨E, Fv, Fc, Fn, Fm, Ev, -⟩ := S1
  refine Run.aloadN F d66_33 rfl rfl ?_
  refine Run.dup F d66_34 rfl ?_
  refine Run.getfield F (host := "") (Or.inl (w290 hw)) Via.refl (Fn.keep K2 hx2) d66_35 ?_
  refine Run.iloadN F d66_38 rfl ?_
  refine Run.iadd F d66_39 ?_
  rw [i32_add (by omega)]
  refine Run.putfield F (w290 hw) Via.refl (Fn.keep K2 hx2) (E.keep K2) g (Or.inl (w291 hw)) (w146 hw) (ty := .int) (by decide) (v' := .int (Int32.ofNat (ds.length + cs.length))) rfl rfl d66_40 ?_
  intro h3 W3 K3 hs3 F3
  have hln : Int32.ofNat (ds ++ cs).length = Int32.ofNat (ds.length + cs.length) := by simp
  have hv3 : v1 ∉ [x] := ninS (Ne.symm nxv) nin0
  have S3 : Sb Z h3 x v1 u cap1 (ds ++ cs) := ⟨(E.keep K2).keep K3, (Fv.keep K2 hx2).other W3 (Or.inr nq1), (Fc.keep K2 hx2).other W3 (Or.inr nq2), by rw [hln]; exact F3, (Fm.keep K2 hx2).other W3 (Or.inr nq3), (Ev.keep K2).keep K3, tl2, by rw [List.length_append]; exact ht2, A2.keep K3 hv3⟩
  have K03 : Keep h h3 [x, v] := ((K1.mono (ws' := [x, v]) (by simp)).trans K2 (allS (hv1.elim (fun q => Or.inl (q ▸ mem3)) Or.inr) all0)).trans K3 (allS (Or.inl mem2) all0)
  refine Run.aloadN F d66_43 rfl rfl ?_
  exact Run.areturn F rfl rfl (by decide) (by decide) d66_44 ⟨rfl, v1, cap1, S3, hc1', K03, hv1, rfl⟩
theorem c_sbAppS (hw : HW Z a0) (x v y b : Nat) (u : Bool) (cap : Nat) (ds cs : List Int32) {cz : Int32} (SC : sC Z cz) (hcz : cz.toInt ≠ 0) {sf : Value} (SF : sF Z sf) (hsf : sf.isRef = true) (UA : uA Z) (UH : uH Z) (UL : uL Z) (h : Heap) (Ls : Lits) (hO : Old Z n0 h) (S : Sb Z h x v u cap ds) (T : Str Z h y b 0 (cs.map lb)) (g : n0 ≤ x) (gv : n0 ≤ v) (hbv : b ≠ v) (hcs : ∀ c ∈ cs, 0 ≤ c.toInt ∧ c.toInt < 256) (hby : y ≠ v ∧ y ≠ x ∧ b ≠ x) (hcap : cap ≤ wd u * 102) (hds : ds.length + cs.length ≤ 50) :
    Con l Z n0 (⟨"java/lang/StringBuilder", "append", "(Ljava/lang/String;)Ljava/lang/StringBuilder;"⟩ : MethodName) jdk_67_method_7_code 2 (some (.object "java/lang/StringBuilder")) ⟨8, 1, 204, 119⟩ [.ref x, .ref y] h Ls [] (RV fun w h' Ls' => w = .ref x ∧ ∃ v' cap' : Nat, Sb Z h' x v' u cap' (ds ++ cs) ∧ cap' ≤ wd u * 102 ∧ Keep h h' [x, v] ∧ (v' = v ∨ h.size ≤ v') ∧ Ls = Ls') := by
  refine Con.of_run (plainFor_of_name pn5) hO ?_
  intro pX eX sX mX bX tX cX F hX
  refine ⟨[.val (.ref x), .val (.ref y)], rfl, ?_⟩
  refine Run.aloadN F d65_0 rfl rfl ?_
  refine Run.aloadN F d65_1 rfl rfl ?_
  refine Run.callSuper F (w284 hw) (same_own (w287 hw) (((fun U hU => nf_cls (a := #[]) (mvT hU (w295 hw)) (mvT hU (decl_of (w293 hw) (w296 hw))) rfl) : ∀ U : State, Z.Warmed39 U.vm → NotFace U ⟨"java/lang/AbstractStringBuilder", "append", "(Ljava/lang/String;)Ljava/lang/AbstractStringBuilder;"⟩) Z (State.Warmed39.refl Z)) rfl) (w285 hw) (w286 hw) (w155 hw) (w288 hw) (Ins.of_exa S.1 (w154 hw)) (c_asbAppS l Z n0 a0 hw x v y b u cap ds cs SC hcz SF hsf UA UH UL h Ls hO S T g gv hbv hcs hby hcap hds) (by decide) pd26 rfl rfl rfl rfl (by decide) (by decide) rfl d65_2 ?_
  rintro _ h1 _ ⟨_, rfl, rfl, hq⟩ _ _
  refine Run.pop F d65_5 rfl ?_
  refine Run.aloadN F d65_6 rfl rfl ?_
  exact Run.areturn F rfl rfl (by decide) (by decide) d65_7 ⟨rfl, hq⟩
theorem c_checkLen (hw : HW Z a0) (k : Nat) (h : Heap) (Ls : Lits) (hO : Old Z n0 h) (hk : k < 2 ^ 31) :
    Con l Z n0 (⟨"java/util/Arrays", "checkLength", "(II)V"⟩ : MethodName) jdk_65_method_131_code 2 none ⟨0, 0, 0, 0⟩ [.int 0, .int (Int32.ofNat k)] h Ls [] (RN fun h' Ls' => h = h' ∧ Ls = Ls') := by
  refine Con.of_run (plainFor_of_name pn7) hO ?_
  intro pX eX sX mX bX tX cX F hX
  refine ⟨[.val (.int 0), .val (.int (Int32.ofNat k))], rfl, ?_⟩
  refine Run.iloadN F d64_0 rfl ?_
  refine Run.iloadN F d64_1 rfl ?_
  refine Run.icmp_ge F d64_2 (t := 37) rfl (i32_ti hk) (yi := 0) rfl (fun _ => ?_) (fun q => by omega)
  exact Run.return_ F (by decide) (by decide) d64_37 ⟨rfl, rfl⟩
theorem c_corB (hw : HW Z a0) (v : Nat) (k : Nat) (vs : List Value) (h : Heap) (Ls : Lits) (hO : Old Z n0 h) (A : Av Z h v .byte vs) (hk : k ≤ vs.length) (hK : vs.length ≤ 204) :
    Con l Z n0 (⟨"java/util/Arrays", "copyOfRangeByte", "([BII)[B"⟩ : MethodName) jdk_65_method_133_code 5 (some (.array .byte)) ⟨1, 1, 204, 18⟩ [.ref v, .int 0, .int (Int32.ofNat k)] h Ls [] (RV fun w h' Ls' => ∃ b : Nat, w = .ref b ∧ Keep h h' [] ∧ h.size ≤ b ∧ Av Z h' b .byte (vs.take k) ∧ Ls = Ls') := by
  refine Con.of_run (plainFor_of_name pn7) hO ?_
  intro pX eX sX mX bX tX cX F hX
  refine ⟨[.val (.ref v), .val (.int 0), .val (.int (Int32.ofNat k)), .unset, .unset], rfl, ?_⟩
  have e1 := i32_ti (i := k) (by omega)
  have e2 := i32_ti (i := vs.length) (by omega)
  have s0 : ∀ z : Int32, z - 0 = z := fun z => by simp
  refine Run.iloadN F d63_0 rfl ?_
  refine Run.iloadN F d63_1 rfl ?_
  refine Run.callStatic F (w273 hw) (w274 hw) (w119 hw) (w275 hw) (c_checkLen l Z n0 a0 hw k h Ls hO (by omega)) rfl pd2 rfl rfl rfl rfl (by decide) (by decide) rfl d63_2 ?_
  rintro _ _ _ ⟨rfl, rfl, rfl⟩ _ _
  show Run _ _ _ _ _ _ _ _ _ _ _ _ _ _ _ _ _ _ _ _ []
  refine Run.iloadN F d63_5 rfl ?_
  refine Run.iloadN F d63_6 rfl ?_
  refine Run.isub F d63_7 ?_
  rw [s0]
  refine Run.istoreN F d63_8 rfl ?_
  dsimp only [List.set]
  refine Run.iloadN F d63_9 rfl ?_
  refine Run.newarray (aty := .byte) F (w39 hw) (i32_nn (by omega)) (i32_tn (by omega)) 204 (by omega) rfl (by decide) (by decide) d63_10 ?_
  intro h1 b hb K1 lt1 A1
  have hO1 : Old Z n0 h1 := hO.keep K1 all0
  have gb : n0 ≤ b := by rw [hb, ← hO.1]; exact hO.2.1
  refine Run.astore F d63_12 rfl rfl ?_
  dsimp only [List.set]
  refine Run.aloadN F d63_14 rfl rfl ?_
  refine Run.iloadN F d63_15 rfl ?_
  refine Run.aload F d63_16 rfl rfl ?_
  refine Run.iconst F d63_18 (z := 0) rfl ?_
  refine Run.aloadN F d63_19 rfl rfl ?_
  refine Run.arrlen F (A.keep K1 nin0) d63_20 ?_
  refine Run.iloadN F d63_21 rfl ?_
  refine Run.isub F d63_22 ?_
  rw [s0]
  refine Run.iloadN F d63_23 rfl ?_
  refine Run.callStatic F (w121 hw) (w122 hw) (w123 hw) (w124 hw) (c_mathMin l Z n0 a0 hw (Int32.ofNat vs.length) (Int32.ofNat k) h1 Ls hO1) rfl pd15 rfl rfl rfl rfl (by decide) (by decide) rfl d63_24 ?_
  rintro _ _ _ ⟨_, rfl, z, rfl, hz, rfl, rfl⟩ _ _
  refine Run.arraycopy F (w125 hw) (w128 hw) (w126 hw) (w127 hw) (A.keep K1 nin0) A1 rfl gb (sp := 0) rfl (dp := 0) rfl (nn := k) (by omega) (by omega) (by simp) (us := vs.take k) (by simp) rfl rfl rfl d63_27 ?_
  intro h2 K2 A2
  have A3 : Av Z h2 b .byte (vs.take k) := by
    rw [List.take_zero, List.nil_append, Nat.zero_add, List.drop_replicate, Nat.sub_self] at A2; simpa using A2
  refine Run.aload F d63_30 rfl rfl ?_
  exact Run.areturn F rfl rfl (by decide) (by decide) d63_32 ⟨b, rfl, K1.trans K2 (allS (Or.inr (by omega)) all0), by omega, A3, rfl⟩
theorem c_cor (hw : HW Z a0) (v : Nat) (k : Nat) (vs : List Value) (h : Heap) (Ls : Lits) (hO : Old Z n0 h) (A : Av Z h v .byte vs) (hk : k ≤ vs.length) (hK : vs.length ≤ 204) (E : Exa Z h v "[B") :
    Con l Z n0 (⟨"java/util/Arrays", "copyOfRange", "([BII)[B"⟩ : MethodName) jdk_65_method_132_code 3 (some (.array .byte)) ⟨2, 1, 204, 34⟩ [.ref v, .int 0, .int (Int32.ofNat k)] h Ls [] (RV fun w h' Ls' => ∃ b : Nat, w = .ref b ∧ Keep h h' [] ∧ h.size ≤ b ∧ Av Z h' b .byte (vs.take k) ∧ Ls = Ls') := by
  refine Con.of_run (plainFor_of_name pn7) hO ?_
  intro pX eX sX mX bX tX cX F hX
  refine ⟨[.val (.ref v), .val (.int 0), .val (.int (Int32.ofNat k))], rfl, ?_⟩
  have e1 := i32_ti (i := k) (by omega)
  have e2 := i32_ti (i := vs.length) (by omega)
  refine Run.iloadN F d62_0 rfl ?_
  refine Run.ifNo F d62_1 rfl ?_
  refine Run.iloadN F d62_4 rfl ?_
  refine Run.aloadN F d62_5 rfl rfl ?_
  refine Run.arrlen F A d62_6 ?_
  refine Run.icmp_eq F d62_7 (t := 17) rfl e1 e2 (fun q => ?_) (fun q => ?_)
  · have hkl : k = vs.length := by omega
    refine Run.aloadN F d62_17 rfl rfl ?_
    refine Run.clone F (w388 hw) (w137 hw) (w141 hw) (w139 hw) (w140 hw) (w142 hw) A E rfl rfl rfl 204 hK (by decide) (by decide) d62_18 ?_
    intro h1 b hb K1 A1 E1
    refine Run.checkcast F (w389 hw) (Ins.of_exa E1 (w144 hw)) d62_21 ?_
    exact Run.areturn F rfl rfl (by decide) (by decide) d62_24 ⟨b, rfl, K1, by omega, by rw [hkl, List.take_length]; exact A1, rfl⟩
  · refine Run.aloadN F d62_10 rfl rfl ?_
    refine Run.iloadN F d62_11 rfl ?_
    refine Run.iloadN F d62_12 rfl ?_
    refine Run.callStatic F (w270 hw) (w271 hw) (w119 hw) (w272 hw) (c_corB l Z n0 a0 hw v k vs h Ls hO A hk hK) rfl pd27 rfl rfl rfl rfl (by decide) (by decide) rfl d62_13 ?_
    rintro _ h1 _ ⟨_, rfl, b, rfl, hq⟩ _ _
    exact Run.areturn F rfl rfl (by decide) (by decide) d62_16 ⟨b, rfl, hq⟩
theorem c_initSB2 (hw : HW Z a0) (r x v : Nat) (u : Bool) (cap : Nat) (ds : List Int32) {cz : Int32} (SC : sC Z cz) (hcz : cz.toInt ≠ 0) (h : Heap) (Ls : Lits) (hO : Old Z n0 h) (E : Exa Z h r "java/lang/String") (Fv : Fld Z h r "java/lang/String" "value" "[B" .null) (Fc : Fld Z h r "java/lang/String" "coder" "B" (.int 0)) (g : n0 ≤ r) (S : Sb Z h x v u cap ds) (hcap : cap ≤ 204) :
    Con l Z n0 (⟨"java/lang/String", "<init>", "(Ljava/lang/AbstractStringBuilder;Ljava/lang/Void;)V"⟩ : MethodName) jdk_42_method_150_code 5 none ⟨3, 1, 204, 49⟩ [.ref r, .ref x, .null] h Ls [] (RN fun h' Ls' => ∃ b : Nat, Keep h h' [r] ∧ h.size ≤ b ∧ Str Z h' r b (b2i u) (byts u ds) ∧ Ls = Ls') := by
  refine Con.of_run (plainFor_of_name pn0) hO ?_
  intro pX eX sX mX bX tX cX F hX
  refine ⟨[.val (.ref r), .val (.ref x), .val .null, .unset, .unset], rfl, ?_⟩
  obtain ⟨Es, Gv, Gc, Gn, Gm, Ev, tl, ht, A⟩ := S
  have hne : Jvm.RoadKit.slotOf Z "java/lang/String" "coder" "B" ≠ Jvm.RoadKit.slotOf Z "java/lang/String" "value" "[B" := slot_ne (a0 := a0) (C := "java/lang/String") (Or.inr (w66 hw)) (Or.inr (w68 hw)) (by decide) (t := .byte) (t' := .array .byte) (by decide) (by decide)
  have hwd : wd u ≤ 2 := by cases u <;> decide
  have hwp := wd_pos u
  have hln : (byts u ds ++ tl).length = cap := by rw [List.length_append, byts_len]; omega
  have hdl : ds.length ≤ cap := Nat.le_trans (Nat.le_mul_of_pos_left _ hwp) (by omega)
  refine Run.aloadN F d82_0 rfl rfl ?_
  refine Run.objInit F (w31 hw) (w32 hw) (w33 hw) rfl rfl rfl d82_1 ?_
  refine Run.aloadN F d82_4 rfl rfl ?_
  refine Run.callVirtual F (w371 hw) (w372 hw) (nfs (w374 hw)) (w374 hw) (w373 hw) (w155 hw) (w375 hw) Es (c_asbValue l Z n0 a0 hw x v h Ls hO Gv) rfl pd28 rfl rfl rfl rfl (by decide) (by decide) rfl d82_5 ?_
  rintro _ _ _ ⟨_, rfl, rfl, rfl, rfl⟩ _ _
  refine Run.astoreN F d82_8 rfl rfl ?_
  dsimp only [List.set]
  refine Run.aloadN F d82_9 rfl rfl ?_
  refine Run.callVirtual F (w376 hw) (w377 hw) (fun U hU => nf_cls (a := #[]) (mvT hU (w295 hw)) (mvT hU (decl_of (w293 hw) (w296 hw))) rfl) (w379 hw) (w380 hw) (w147 hw) (w381 hw) Es (c_sbLength l Z n0 a0 hw x (Int32.ofNat ds.length) h Ls hO Es Gn) rfl pd14 rfl rfl rfl rfl (by decide) (by decide) rfl d82_10 ?_
  rintro _ _ _ ⟨_, rfl, rfl, rfl, rfl⟩ _ _
  refine Run.istore F d82_13 rfl ?_
  dsimp only [List.set]
  refine Run.aloadN F d82_15 rfl rfl ?_
  refine Run.callVirtual F (w384 hw) (w314 hw) (nfs (w316 hw)) (w316 hw) (w315 hw) (w155 hw) (w317 hw) Es (c_asbLatin1 l Z n0 a0 hw x u SC hcz h Ls hO Gc) rfl pd13 rfl rfl rfl rfl (by decide) (by decide) rfl d82_16 ?_
  rintro _ _ _ ⟨_, rfl, rfl, rfl, rfl⟩ _ _
  cases u
  · refine Run.ifB_eq F d82_19 (t := 41) rfl (fun q => absurd q (by decide)) (fun _ => ?_)
    have e0 : (byts false ds ++ tl).take ds.length = byts false ds := by rw [List.take_append_of_le_length (by rw [byts_len]; simp [wd]), List.take_of_length_le (by rw [byts_len]; simp [wd])]
    refine Run.aloadN F d82_22 rfl rfl ?_
    refine Run.iconst F d82_23 (z := 0) rfl ?_
    refine Run.putfield F (w65 hw) Via.refl Fc E g (Or.inr ⟨(w66 hw), rfl, rfl⟩) (w22 hw) (ty := .byte) (by decide) (v' := .int (b2i false)) rfl rfl d82_24 ?_
    intro h1 W1 K1 hs1 F1
    have hO1 : Old Z n0 h1 := hO.wr W1 g
    have hvr : v ≠ r := Exa.ne Ev E (by decide)
    refine Run.aloadN F d82_27 rfl rfl ?_
    refine Run.aloadN F d82_28 rfl rfl ?_
    refine Run.iconst F d82_29 (z := 0) rfl ?_
    refine Run.iload F d82_30 rfl ?_
    refine Run.callStatic F (w387 hw) (w268 hw) (w119 hw) (w269 hw) (c_cor l Z n0 a0 hw v ds.length (byts false ds ++ tl) h1 Ls hO1 (A.keep K1 (ninS hvr nin0)) (by omega) (by omega) (Ev.keep K1)) rfl pd27 rfl rfl rfl rfl (by decide) (by decide) rfl d82_32 ?_
    rintro _ h2 _ ⟨_, rfl, b, rfl, K2, hb, A2, rfl⟩ hO2 _
    rw [e0] at A2
    have lr := (ltE E)
    have hbr : b ≠ r := by omega
    have E2 : Exa Z h2 r "java/lang/String" := (E.keep K1).keep K2
    refine Run.putfield F (w67 hw) Via.refl ((Fv.other W1 (Or.inr (Ne.symm hne))).keep K2 nin0) E2 g (Or.inr ⟨(w68 hw), rfl, rfl⟩) (w22 hw) (ty := (.array .byte)) (by decide) (v' := .ref b) rfl rfl d82_35 ?_
    intro h3 W3 K3 hs3 F3
    refine Run.goto F d82_38 (t := 97) rfl ?_
    exact Run.return_ F (by decide) (by decide) d82_97 ⟨b, ((K1.trans K2 all0).trans K3 (allS (Or.inl mem1) all0)), by omega, ⟨E2.keep K3, (F1.keep K2 nin0).other W3 (Or.inr hne), F3, A2.keep K3 (ninS hbr nin0)⟩, rfl⟩
  · refine Run.ifB_eq F d82_19 (t := 41) rfl (fun _ => ?_) (fun q => absurd q (by decide))
    have w2 : wd true * ds.length = 2 * ds.length := rfl
    have e0 : (byts true ds ++ tl).take (2 * ds.length) = byts true ds := by rw [List.take_append_of_le_length (by rw [byts_len]; exact Nat.le_of_eq w2.symm), List.take_of_length_le (by rw [byts_len]; exact Nat.le_of_eq w2)]
    refine Run.getstatic F (w34 hw) Via.refl SC d82_41 ?_
    refine Run.if_eq F d82_44 (t := 79) rfl rfl (fun q => absurd q hcz) (fun _ => ?_)
    refine Run.aloadN F d82_47 rfl rfl ?_
    refine Run.getfield F (host := "") (Or.inl (w385 hw)) Via.refl Gm d82_48 ?_
    refine Run.ifYes F d82_51 (t := 79) rfl rfl ?_
    refine Run.aloadN F d82_79 rfl rfl ?_
    refine Run.iconst F d82_80 (z := 1) rfl ?_
    refine Run.putfield F (w65 hw) Via.refl Fc E g (Or.inr ⟨(w66 hw), rfl, rfl⟩) (w22 hw) (ty := .byte) (by decide) (v' := .int (b2i true)) rfl rfl d82_81 ?_
    intro h1 W1 K1 hs1 F1
    have hO1 : Old Z n0 h1 := hO.wr W1 g
    have hvr : v ≠ r := Exa.ne Ev E (by decide)
    refine Run.aloadN F d82_84 rfl rfl ?_
    refine Run.aloadN F d82_85 rfl rfl ?_
    refine Run.iconst F d82_86 (z := 0) rfl ?_
    refine Run.iload F d82_87 rfl ?_
    refine Run.iconst F d82_89 (z := 1) rfl ?_
    refine Run.ishl F d82_90 ?_
    rw [i32_dbl (by omega)]
    refine Run.callStatic F (w387 hw) (w268 hw) (w119 hw) (w269 hw) (c_cor l Z n0 a0 hw v (2 * ds.length) (byts true ds ++ tl) h1 Ls hO1 (A.keep K1 (ninS hvr nin0)) (by omega) (by omega) (Ev.keep K1)) rfl pd27 rfl rfl rfl rfl (by decide) (by decide) rfl d82_91 ?_
    rintro _ h2 _ ⟨_, rfl, b, rfl, K2, hb, A2, rfl⟩ hO2 _
    rw [e0] at A2
    have lr := (ltE E)
    have hbr : b ≠ r := by omega
    have E2 : Exa Z h2 r "java/lang/String" := (E.keep K1).keep K2
    refine Run.putfield F (w67 hw) Via.refl ((Fv.other W1 (Or.inr (Ne.symm hne))).keep K2 nin0) E2 g (Or.inr ⟨(w68 hw), rfl, rfl⟩) (w22 hw) (ty := (.array .byte)) (by decide) (v' := .ref b) rfl rfl d82_94 ?_
    intro h3 W3 K3 hs3 F3
    exact Run.return_ F (by decide) (by decide) d82_97 ⟨b, ((K1.trans K2 all0).trans K3 (allS (Or.inl mem1) all0)), by omega, ⟨E2.keep K3, (F1.keep K2 nin0).other W3 (Or.inr hne), F3, A2.keep K3 (ninS hbr nin0)⟩, rfl⟩
theorem c_initSB1 (hw : HW Z a0) (r x v : Nat) (u : Bool) (cap : Nat) (ds : List Int32) {cz : Int32} (SC : sC Z cz) (hcz : cz.toInt ≠ 0) (h : Heap) (Ls : Lits) (hO : Old Z n0 h) (E : Exa Z h r "java/lang/String") (Fv : Fld Z h r "java/lang/String" "value" "[B" .null) (Fc : Fld Z h r "java/lang/String" "coder" "B" (.int 0)) (g : n0 ≤ r) (S : Sb Z h x v u cap ds) (hcap : cap ≤ 204) :
    Con l Z n0 (⟨"java/lang/String", "<init>", "(Ljava/lang/StringBuilder;)V"⟩ : MethodName) jdk_42_method_53_code 2 none ⟨4, 1, 204, 65⟩ [.ref r, .ref x] h Ls [] (RN fun h' Ls' => ∃ b : Nat, Keep h h' [r] ∧ h.size ≤ b ∧ Str Z h' r b (b2i u) (byts u ds) ∧ Ls = Ls') := by
  refine Con.of_run (plainFor_of_name pn0) hO ?_
  intro pX eX sX mX bX tX cX F hX
  refine ⟨[.val (.ref r), .val (.ref x)], rfl, ?_⟩
  refine Run.aloadN F d81_0 rfl rfl ?_
  refine Run.aloadN F d81_1 rfl rfl ?_
  refine Run.aconstNull F d81_2 ?_
  refine Run.callInit F (w368 hw) (w369 hw) (w23 hw) (w370 hw) (c_initSB2 l Z n0 a0 hw r x v u cap ds SC hcz h Ls hO E Fv Fc g S hcap) rfl rfl pd29 rfl rfl rfl rfl (by decide) (by decide) rfl d81_3 ?_
  rintro _ h1 _ ⟨rfl, hq⟩ _ _
  exact Run.return_ F (by decide) (by decide) d81_6 hq
theorem c_toStr (hw : HW Z a0) (x v : Nat) (u : Bool) (cap : Nat) (ds : List Int32) {cz : Int32} (SC : sC Z cz) (hcz : cz.toInt ≠ 0) (h : Heap) (Ls : Lits) (hO : Old Z n0 h) (S : Sb Z h x v u cap ds) (hcap : cap ≤ 204) :
    Con l Z n0 (⟨"java/lang/StringBuilder", "toString", "()Ljava/lang/String;"⟩ : MethodName) jdk_67_method_42_code 1 (some (.object "java/lang/String")) ⟨5, 2, 208, 79⟩ [.ref x] h Ls [] (RV fun w h' Ls' => ∃ r b : Nat, w = .ref r ∧ Keep h h' [] ∧ h.size ≤ r ∧ h.size ≤ b ∧ Str Z h' r b (b2i u) (byts u ds) ∧ Ls = Ls') := by
  refine Con.of_run (plainFor_of_name pn5) hO ?_
  intro pX eX sX mX bX tX cX F hX
  refine ⟨[.val (.ref x)], rfl, ?_⟩
  refine Run.new F (w364 hw) (w22 hw) (w23 hw) (by decide) (by decide) d80_0 ?_
  intro h1 r hr K1 lt1 E1 D1 U1
  have hO1 : Old Z n0 h1 := hO.keep K1 all0
  have g : n0 ≤ r := by rw [hr, ← hO.1]; exact hO.2.1
  have Fv := D1 (O := "java/lang/String") (f := "value") (ds := "[B") (ty := .array .byte) (Or.inr (w68 hw)) (by decide)
  have Fc := D1 (O := "java/lang/String") (f := "coder") (ds := "B") (ty := .byte) (Or.inr (w66 hw)) (by decide)
  have sl := S.lt
  refine Run.dup F d80_3 rfl ?_
  refine Run.aloadN F d80_4 rfl rfl ?_
  refine Run.callInit F (w365 hw) (w366 hw) (w23 hw) (w367 hw) (c_initSB1 l Z n0 a0 hw r x v u cap ds SC hcz h1 Ls hO1 E1 Fv Fc g (S.keep K1 nin0 nin0) hcap) rfl rfl pd30 rfl rfl rfl rfl (by decide) (by decide) rfl d80_5 ?_
  rintro _ h2 _ ⟨rfl, b, K2, hb, S2, rfl⟩ hO2 _
  show Run _ _ _ _ _ _ _ _ _ _ _ _ _ _ _ _ _ _ _ _ [Value.ref r]
  have z1 := K1.1
  exact Run.areturn F rfl rfl (by decide) (by decide) d80_8 ⟨r, b, rfl, K1.trans K2 (allS (Or.inr (by omega)) all0), by omega, by omega, S2, rfl⟩
theorem c_isSur (hw : HW Z a0) (ch : Int32) (h : Heap) (Ls : Lits) (hO : Old Z n0 h)  :
    Con l Z n0 (⟨"java/lang/Character", "isSurrogate", "(C)Z"⟩ : MethodName) jdk_89_method_16_code 1 (some .boolean) ⟨0, 0, 0, 0⟩ [.int ch] h Ls [] (RV fun w h' Ls' => w = .int (b2i (decide (55296 ≤ ch.toInt ∧ ch.toInt < 57344))) ∧ h = h' ∧ Ls = Ls') := by
  refine Con.of_run (plainFor_of_name pn8) hO ?_
  intro pX eX sX mX bX tX cX F hX
  refine ⟨[.val (.int ch)], rfl, ?_⟩
  refine Run.iloadN F d24_0 rfl ?_
  refine Run.ldcInt F (w104 hw) d24_1 ?_
  refine Run.icmp_lt F d24_3 (t := 16) rfl rfl (yi := 55296) rfl (fun q => ?_) (fun q => ?_)
  · refine Run.iconst F d24_16 (z := 0) rfl ?_
    exact Run.ireturn F (by simp) rfl (by decide) (by decide) d24_17 ⟨by rw [decide_eq_false (by omega)]; rfl, rfl, rfl⟩
  · refine Run.iloadN F d24_6 rfl ?_
    refine Run.ldcInt F (w105 hw) d24_7 ?_
    refine Run.icmp_ge F d24_9 (t := 16) rfl rfl (yi := 57344) rfl (fun q2 => ?_) (fun q2 => ?_)
    · refine Run.iconst F d24_16 (z := 0) rfl ?_
      exact Run.ireturn F (by simp) rfl (by decide) (by decide) d24_17 ⟨by rw [decide_eq_false (by omega)]; rfl, rfl, rfl⟩
    · refine Run.iconst F d24_12 (z := 1) rfl ?_
      refine Run.goto F d24_13 (t := 17) rfl ?_
      exact Run.ireturn F (by simp) rfl (by decide) (by decide) d24_17 ⟨by rw [decide_eq_true (by omega)]; rfl, rfl, rfl⟩
theorem c_isHigh (hw : HW Z a0) (ch : Int32) (h : Heap) (Ls : Lits) (hO : Old Z n0 h)  :
    Con l Z n0 (⟨"java/lang/Character", "isHighSurrogate", "(C)Z"⟩ : MethodName) jdk_89_method_14_code 1 (some .boolean) ⟨0, 0, 0, 0⟩ [.int ch] h Ls [] (RV fun w h' Ls' => w = .int (b2i (decide (55296 ≤ ch.toInt ∧ ch.toInt < 56320))) ∧ h = h' ∧ Ls = Ls') := by
  refine Con.of_run (plainFor_of_name pn8) hO ?_
  intro pX eX sX mX bX tX cX F hX
  refine ⟨[.val (.int ch)], rfl, ?_⟩
  refine Run.iloadN F d25_0 rfl ?_
  refine Run.ldcInt F (w104 hw) d25_1 ?_
  refine Run.icmp_lt F d25_3 (t := 16) rfl rfl (yi := 55296) rfl (fun q => ?_) (fun q => ?_)
  · refine Run.iconst F d25_16 (z := 0) rfl ?_
    exact Run.ireturn F (by simp) rfl (by decide) (by decide) d25_17 ⟨by rw [decide_eq_false (by omega)]; rfl, rfl, rfl⟩
  · refine Run.iloadN F d25_6 rfl ?_
    refine Run.ldcInt F (w109 hw) d25_7 ?_
    refine Run.icmp_ge F d25_9 (t := 16) rfl rfl (yi := 56320) rfl (fun q2 => ?_) (fun q2 => ?_)
    · refine Run.iconst F d25_16 (z := 0) rfl ?_
      exact Run.ireturn F (by simp) rfl (by decide) (by decide) d25_17 ⟨by rw [decide_eq_false (by omega)]; rfl, rfl, rfl⟩
    · refine Run.iconst F d25_12 (z := 1) rfl ?_
      refine Run.goto F d25_13 (t := 17) rfl ?_
      exact Run.ireturn F (by simp) rfl (by decide) (by decide) d25_17 ⟨by rw [decide_eq_true (by omega)]; rfl, rfl, rfl⟩
theorem c_isLow (hw : HW Z a0) (ch : Int32) (h : Heap) (Ls : Lits) (hO : Old Z n0 h)  :
    Con l Z n0 (⟨"java/lang/Character", "isLowSurrogate", "(C)Z"⟩ : MethodName) jdk_89_method_15_code 1 (some .boolean) ⟨0, 0, 0, 0⟩ [.int ch] h Ls [] (RV fun w h' Ls' => w = .int (b2i (decide (56320 ≤ ch.toInt ∧ ch.toInt < 57344))) ∧ h = h' ∧ Ls = Ls') := by
  refine Con.of_run (plainFor_of_name pn8) hO ?_
  intro pX eX sX mX bX tX cX F hX
  refine ⟨[.val (.int ch)], rfl, ?_⟩
  refine Run.iloadN F d26_0 rfl ?_
  refine Run.ldcInt F (w109 hw) d26_1 ?_
  refine Run.icmp_lt F d26_3 (t := 16) rfl rfl (yi := 56320) rfl (fun q => ?_) (fun q => ?_)
  · refine Run.iconst F d26_16 (z := 0) rfl ?_
    exact Run.ireturn F (by simp) rfl (by decide) (by decide) d26_17 ⟨by rw [decide_eq_false (by omega)]; rfl, rfl, rfl⟩
  · refine Run.iloadN F d26_6 rfl ?_
    refine Run.ldcInt F (w105 hw) d26_7 ?_
    refine Run.icmp_ge F d26_9 (t := 16) rfl rfl (yi := 57344) rfl (fun q2 => ?_) (fun q2 => ?_)
    · refine Run.iconst F d26_16 (z := 0) rfl ?_
      exact Run.ireturn F (by simp) rfl (by decide) (by decide) d26_17 ⟨by rw [decide_eq_false (by omega)]; rfl, rfl, rfl⟩
    · refine Run.iconst F d26_12 (z := 1) rfl ?_
      refine Run.goto F d26_13 (t := 17) rfl ?_
      exact Run.ireturn F (by simp) rfl (by decide) (by decide) d26_17 ⟨by rw [decide_eq_true (by omega)]; rfl, rfl, rfl⟩
theorem c_isSupp (hw : HW Z a0) (ch : Int32) (h : Heap) (Ls : Lits) (hO : Old Z n0 h)  :
    Con l Z n0 (⟨"java/lang/Character", "isSupplementaryCodePoint", "(I)Z"⟩ : MethodName) jdk_89_method_13_code 1 (some .boolean) ⟨0, 0, 0, 0⟩ [.int ch] h Ls [] (RV fun w h' Ls' => w = .int (b2i (decide (65536 ≤ ch.toInt ∧ ch.toInt < 1114112))) ∧ h = h' ∧ Ls = Ls') := by
  refine Con.of_run (plainFor_of_name pn8) hO ?_
  intro pX eX sX mX bX tX cX F hX
  refine ⟨[.val (.int ch)], rfl, ?_⟩
  refine Run.iloadN F d46_0 rfl ?_
  refine Run.ldcInt F (w214 hw) d46_1 ?_
  refine Run.icmp_lt F d46_3 (t := 16) rfl rfl (yi := 65536) rfl (fun q => ?_) (fun q => ?_)
  · refine Run.iconst F d46_16 (z := 0) rfl ?_
    exact Run.ireturn F (by simp) rfl (by decide) (by decide) d46_17 ⟨by rw [decide_eq_false (by omega)]; rfl, rfl, rfl⟩
  · refine Run.iloadN F d46_6 rfl ?_
    refine Run.ldcInt F (w215 hw) d46_7 ?_
    refine Run.icmp_ge F d46_9 (t := 16) rfl rfl (yi := 1114112) rfl (fun q2 => ?_) (fun q2 => ?_)
    · refine Run.iconst F d46_16 (z := 0) rfl ?_
      exact Run.ireturn F (by simp) rfl (by decide) (by decide) d46_17 ⟨by rw [decide_eq_false (by omega)]; rfl, rfl, rfl⟩
    · refine Run.iconst F d46_12 (z := 1) rfl ?_
      refine Run.goto F d46_13 (t := 17) rfl ?_
      exact Run.ireturn F (by simp) rfl (by decide) (by decide) d46_17 ⟨by rw [decide_eq_true (by omega)]; rfl, rfl, rfl⟩
theorem c_toCP (hw : HW Z a0) (p : Nat) (h : Heap) (Ls : Lits) (hO : Old Z n0 h) (hp : okP p) (h2 : 65536 ≤ p) :
    Con l Z n0 (⟨"java/lang/Character", "toCodePoint", "(CC)I"⟩ : MethodName) jdk_89_method_19_code 2 (some .int) ⟨0, 0, 0, 0⟩ [.int (Int32.ofNat (hiP p)), .int (Int32.ofNat (loP p))] h Ls [] (RV fun w h' Ls' => w = .int (Int32.ofNat p) ∧ h = h' ∧ Ls = Ls') := by
  refine Con.of_run (plainFor_of_name pn8) hO ?_
  intro pX eX sX mX bX tX cX F hX
  refine ⟨[.val (.int (Int32.ofNat (hiP p))), .val (.int (Int32.ofNat (loP p)))], rfl, ?_⟩
  refine Run.iloadN F d27_0 rfl ?_
  refine Run.bipush F d27_1 (z := 10) rfl ?_
  refine Run.ishl F d27_3 ?_
  refine Run.iloadN F d27_4 rfl ?_
  refine Run.iadd F d27_5 ?_
  refine Run.ldcInt F (w116 hw) d27_6 ?_
  refine Run.iadd F d27_8 ?_
  rw [toCP hp h2]
  exact Run.ireturn F (by simp) rfl (by decide) (by decide) d27_9 ⟨rfl, rfl, rfl⟩
theorem c_charCount (hw : HW Z a0) (p : Nat) (h : Heap) (Ls : Lits) (hO : Old Z n0 h) (hp : okP p) :
    Con l Z n0 (⟨"java/lang/Character", "charCount", "(I)I"⟩ : MethodName) jdk_89_method_18_code 1 (some .int) ⟨0, 0, 0, 0⟩ [.int (Int32.ofNat p)] h Ls [] (RV fun w h' Ls' => w = .int (Int32.ofNat (nu p)) ∧ h = h' ∧ Ls = Ls') := by
  refine Con.of_run (plainFor_of_name pn8) hO ?_
  intro pX eX sX mX bX tX cX F hX
  refine ⟨[.val (.int (Int32.ofNat p))], rfl, ?_⟩
  have hp1 := hp.1
  refine Run.iloadN F d51_0 rfl ?_
  refine Run.ldcInt F (w214 hw) d51_1 ?_
  refine Run.icmp_lt F d51_3 (t := 10) rfl (i32_ti (by omega)) (yi := 65536) rfl (fun q => ?_) (fun q => ?_)
  · refine Run.iconst F d51_10 (z := 1) rfl ?_
    exact Run.ireturn F (by simp) rfl (by decide) (by decide) d51_11 ⟨by rw [nu1 (by omega)]; rfl, rfl, rfl⟩
  · refine Run.iconst F d51_6 (z := 2) rfl ?_
    refine Run.goto F d51_7 (t := 11) rfl ?_
    exact Run.ireturn F (by simp) rfl (by decide) (by decide) d51_11 ⟨by rw [nu2 (by omega)]; rfl, rfl, rfl⟩
theorem c_canEncI (hw : HW Z a0) (p : Nat) (h : Heap) (Ls : Lits) (hO : Old Z n0 h) (hp : p < 1114112) :
    Con l Z n0 (⟨"java/lang/StringLatin1", "canEncode", "(I)Z"⟩ : MethodName) jdk_43_method_4_code 1 (some .boolean) ⟨0, 0, 0, 0⟩ [.int (Int32.ofNat p)] h Ls [] (RV fun w h' Ls' => w = .int (b2i (decide (p < 256))) ∧ h = h' ∧ Ls = Ls') := by
  refine Con.of_run (plainFor_of_name pn2) hO ?_
  intro pX eX sX mX bX tX cX F hX
  refine ⟨[.val (.int (Int32.ofNat p))], rfl, ?_⟩
  have e := i32_ti (i := p) (by omega)
  refine Run.iloadN F d44_0 rfl ?_
  refine Run.if_lt F d44_1 (t := 15) rfl e (fun q => by omega) (fun _ => ?_)
  refine Run.iloadN F d44_4 rfl ?_
  refine Run.sipush F d44_5 (z := 255) rfl ?_
  refine Run.icmp_gt F d44_8 (t := 15) rfl e (yi := 255) rfl (fun q => ?_) (fun q => ?_)
  · refine Run.iconst F d44_15 (z := 0) rfl ?_
    exact Run.ireturn F (by simp) rfl (by decide) (by decide) d44_16 ⟨by rw [decide_eq_false (by omega)]; rfl, rfl, rfl⟩
  · refine Run.iconst F d44_11 (z := 1) rfl ?_
    refine Run.goto F d44_12 (t := 16) rfl ?_
    exact Run.ireturn F (by simp) rfl (by decide) (by decide) d44_16 ⟨by rw [decide_eq_true (by omega)]; rfl, rfl, rfl⟩
theorem c_isBmp (hw : HW Z a0) (p : Nat) (h : Heap) (Ls : Lits) (hO : Old Z n0 h) (hp : p < 1114112) :
    Con l Z n0 (⟨"java/lang/Character", "isBmpCodePoint", "(I)Z"⟩ : MethodName) jdk_89_method_12_code 1 (some .boolean) ⟨0, 0, 0, 0⟩ [.int (Int32.ofNat p)] h Ls [] (RV fun w h' Ls' => w = .int (b2i (decide (p < 65536))) ∧ h = h' ∧ Ls = Ls') := by
  refine Con.of_run (plainFor_of_name pn8) hO ?_
  intro pX eX sX mX bX tX cX F hX
  refine ⟨[.val (.int (Int32.ofNat p))], rfl, ?_⟩
  have e1 : XT.ushr (Int32.ofNat p) 16 = Int32.ofNat (p / 2 ^ 16) := ushrN (by omega) (by decide) (by omega)
  have e := i32_ti (i := p / 2 ^ 16) (by omega)
  refine Run.iloadN F d45_0 rfl ?_
  refine Run.bipush F d45_1 (z := 16) rfl ?_
  refine Run.iushr F d45_3 ?_
  rw [e1]
  refine Run.if_ne F d45_4 (t := 11) rfl e (fun q => ?_) (fun q => ?_)
  · refine Run.iconst F d45_11 (z := 0) rfl ?_
    exact Run.ireturn F (by simp) rfl (by decide) (by decide) d45_12 ⟨by rw [decide_eq_false (by omega)]; rfl, rfl, rfl⟩
  · refine Run.iconst F d45_7 (z := 1) rfl ?_
    refine Run.goto F d45_8 (t := 12) rfl ?_
    exact Run.ireturn F (by simp) rfl (by decide) (by decide) d45_12 ⟨by rw [decide_eq_true (by omega)]; rfl, rfl, rfl⟩
theorem c_hiSur (hw : HW Z a0) (p : Nat) (h : Heap) (Ls : Lits) (hO : Old Z n0 h) (hp : okP p) (h2 : 65536 ≤ p) :
    Con l Z n0 (⟨"java/lang/Character", "highSurrogate", "(I)C"⟩ : MethodName) jdk_89_method_28_code 1 (some .char) ⟨0, 0, 0, 0⟩ [.int (Int32.ofNat p)] h Ls [] (RV fun w h' Ls' => w = .int (Int32.ofNat (hiP p)) ∧ h = h' ∧ Ls = Ls') := by
  refine Con.of_run (plainFor_of_name pn8) hO ?_
  intro pX eX sX mX bX tX cX F hX
  refine ⟨[.val (.int (Int32.ofNat p))], rfl, ?_⟩
  have a := hi_rng hp h2
  have b := lo_rng p
  have e := i32_ti (i := hiP p) (by omega)
  refine Run.iloadN F d48_0 rfl ?_
  refine Run.bipush F d48_1 (z := 10) rfl ?_
  refine Run.iushr F d48_3 ?_
  refine Run.ldcInt F (w223 hw) d48_4 ?_
  refine Run.iadd F d48_6 ?_
  rw [hiS hp h2]
  refine Run.i2c F d48_7 ?_
  rw [chr_id (x := Int32.ofNat (hiP p)) (by omega) (by omega)]
  exact Run.ireturn F (by simp) (narrow_char (by omega) (by omega)) (by decide) (by decide) d48_8 ⟨rfl, rfl, rfl⟩
theorem c_loSur (hw : HW Z a0) (p : Nat) (h : Heap) (Ls : Lits) (hO : Old Z n0 h) (hp : okP p) (h2 : 65536 ≤ p) :
    Con l Z n0 (⟨"java/lang/Character", "lowSurrogate", "(I)C"⟩ : MethodName) jdk_89_method_29_code 1 (some .char) ⟨0, 0, 0, 0⟩ [.int (Int32.ofNat p)] h Ls [] (RV fun w h' Ls' => w = .int (Int32.ofNat (loP p)) ∧ h = h' ∧ Ls = Ls') := by
  refine Con.of_run (plainFor_of_name pn8) hO ?_
  intro pX eX sX mX bX tX cX F hX
  refine ⟨[.val (.int (Int32.ofNat p))], rfl, ?_⟩
  have a := hi_rng hp h2
  have b := lo_rng p
  have e := i32_ti (i := loP p) (by omega)
  refine Run.iloadN F d49_0 rfl ?_
  refine Run.sipush F d49_1 (z := 1023) rfl ?_
  refine Run.iand F d49_4 ?_
  refine Run.ldcInt F (w109 hw) d49_5 ?_
  refine Run.iadd F d49_7 ?_
  rw [loS hp h2]
  refine Run.i2c F d49_8 ?_
  rw [chr_id (x := Int32.ofNat (loP p)) (by omega) (by omega)]
  exact Run.ireturn F (by simp) (narrow_char (by omega) (by omega)) (by decide) (by decide) d49_9 ⟨rfl, rfl, rfl⟩
theorem c_cpos (hw : HW Z a0) (v : Nat) (cs : List Int32) (h : Heap) (Ls : Lits) (hO : Old Z n0 h) (A : Av Z h v .byte (cs.map lb)) (hcs : ∀ c ∈ cs, 0 ≤ c.toInt ∧ c.toInt < 256) :
    Con l Z n0 (⟨"java/lang/StringCoding", "countPositives", "([BII)I"⟩ : MethodName) jdk_123_method_3_code 5 (some .int) ⟨0, 0, 0, 0⟩ [.ref v, .int 0, .int (Int32.ofNat cs.length)] h Ls [] (RV fun w h' Ls' => ∃ i : Nat, w = .int (Int32.ofNat i) ∧ i ≤ cs.length ∧ (i = cs.length → ∀ c ∈ cs, c.toInt < 128) ∧ h = h' ∧ Ls = Ls') := by
  refine Con.of_run (plainFor_of_name pn9) hO ?_
  intro pX eX sX mX bX tX cX F hX
  refine ⟨[.val (.ref v), .val (.int 0), .val (.int (Int32.ofNat cs.length)), .unset, .unset], rfl, ?_⟩
  have hlen := A.len
  rw [List.length_map] at hlen
  refine Run.iloadN F d31_0 rfl ?_
  refine Run.iloadN F d31_1 rfl ?_
  refine Run.iadd F d31_2 ?_
  rw [i32_z]
  refine Run.istoreN F d31_3 rfl ?_
  dsimp only [List.set]
  refine Run.iloadN F d31_4 rfl ?_
  refine Run.istore F d31_5 rfl ?_
  dsimp only [List.set]
  refine Run.rec (fun r h' k n Ls' L st => ∃ i, i + r = cs.length ∧ k = 0 ∧ n = 0 ∧ Ls = Ls' ∧ h = h' ∧ (∀ c ∈ cs.take i, c.toInt < 128) ∧ L = [.val (.ref v), .val (.int 0), .val (.int (Int32.ofNat cs.length)), .val (.int (Int32.ofNat cs.length)), .val (.int (Int32.ofNat i))] ∧ st = []) ?_ cs.length _ _ _ _ _ _ ⟨0, by omega, rfl, rfl, rfl, rfl, fun c hc => by simp at hc, rfl, rfl⟩
  rintro r h' k n Ls' L st ⟨i, hi, rfl, rfl, rfl, rfl, hp, rfl, rfl⟩ ih
  refine Run.iload F d31_7 rfl ?_
  refine Run.iloadN F d31_9 rfl ?_
  refine Run.icmp_ge F d31_10 (t := 31) rfl (i32_ti (by omega)) (i32_ti (by omega)) (fun q => ?_) (fun q => ?_)
  · have hi' : i = cs.length := by omega
    refine Run.iloadN F d31_31 rfl ?_
    exact Run.ireturn F (by simp) rfl (by decide) (by decide) d31_32 ⟨cs.length, rfl, Nat.le_refl _, fun _ => by rw [hi', List.take_length] at hp; exact hp, rfl, rfl⟩
  · obtain ⟨c1, hc1⟩ : ∃ c1, cs[i]? = some c1 := ⟨_, List.getElem?_eq_getElem (by omega)⟩
    have hc2 := hcs c1 (List.mem_of_getElem? hc1)
    have hc3 := c_i2b c1
    refine Run.aloadN F d31_13 rfl rfl ?_
    refine Run.iload F d31_14 rfl ?_
    refine Run.baload F A (i32_nn (by omega)) (i32_tn (by omega)) (lb_get hc1) d31_16 ?_
    refine Run.if_ge F d31_17 (t := 25) rfl rfl (fun q2 => ?_) (fun q2 => ?_)
    · refine Run.iinc F d31_25 (z := 1) rfl rfl ?_
      dsimp only [List.set]
      refine Run.goto F d31_28 (t := 7) rfl ?_
      refine ih (r - 1) _ _ _ _ _ _ (by omega) ⟨i + 1, by omega, rfl, rfl, rfl, rfl, ?_, by simp only [Jvm.Free.XT.succ32], rfl⟩
      intro c hc
      rw [List.take_succ, hc1] at hc
      simp only [Option.toList_some, List.mem_append, List.mem_singleton] at hc
      rcases hc with hc | rfl
      · exact hp c hc
      · omega
    · refine Run.iload F d31_20 rfl ?_
      refine Run.iloadN F d31_22 rfl ?_
      refine Run.isub F d31_23 ?_
      rw [i32_s]
      exact Run.ireturn F (by simp) rfl (by decide) (by decide) d31_24 ⟨i, rfl, by omega, fun q => by omega, rfl, rfl⟩
theorem c_hasNeg (hw : HW Z a0) (v : Nat) (cs : List Int32) (h : Heap) (Ls : Lits) (hO : Old Z n0 h) (A : Av Z h v .byte (cs.map lb)) (hcs : ∀ c ∈ cs, 0 ≤ c.toInt ∧ c.toInt < 256) :
    Con l Z n0 (⟨"java/lang/StringCoding", "hasNegatives", "([BII)Z"⟩ : MethodName) jdk_123_method_2_code 3 (some .boolean) ⟨1, 0, 0, 16⟩ [.ref v, .int 0, .int (Int32.ofNat cs.length)] h Ls [] (RV fun w h' Ls' => ∃ bb : Bool, w = .int (b2i bb) ∧ (bb = false → ∀ c ∈ cs, c.toInt < 128) ∧ h = h' ∧ Ls = Ls') := by
  refine Con.of_run (plainFor_of_name pn9) hO ?_
  intro pX eX sX mX bX tX cX F hX
  refine ⟨[.val (.ref v), .val (.int 0), .val (.int (Int32.ofNat cs.length))], rfl, ?_⟩
  have hlen := A.len
  rw [List.length_map] at hlen
  refine Run.aloadN F d30_0 rfl rfl ?_
  refine Run.iloadN F d30_1 rfl ?_
  refine Run.iloadN F d30_2 rfl ?_
  refine Run.callStatic F (w133 hw) (w134 hw) (w131 hw) (w135 hw) (c_cpos l Z n0 a0 hw v cs h Ls hO A hcs) rfl pd31 rfl rfl rfl rfl (by decide) (by decide) rfl d30_3 ?_
  rintro _ _ _ ⟨_, rfl, i, rfl, hi, hall, rfl, rfl⟩ _ _
  refine Run.iloadN F d30_6 rfl ?_
  refine Run.icmp_eq F d30_7 (t := 14) rfl (i32_ti (by omega)) (i32_ti (by omega)) (fun q => ?_) (fun q => ?_)
  · refine Run.iconst F d30_14 (z := 0) rfl ?_
    exact Run.ireturn F (by simp) rfl (by decide) (by decide) d30_15 ⟨false, rfl, fun _ => hall (by omega), rfl, rfl⟩
  · refine Run.iconst F d30_10 (z := 1) rfl ?_
    refine Run.goto F d30_11 (t := 15) rfl ?_
    exact Run.ireturn F (by simp) rfl (by decide) (by decide) d30_15 ⟨true, rfl, (fun q => nomatch q), rfl, rfl⟩
theorem c_ctB (hw : HW Z a0) (v : Nat) (nl : Nat) (vs : List Value) (h : Heap) (Ls : Lits) (hO : Old Z n0 h) (A : Av Z h v .byte vs) (hlt : nl < vs.length) (hK : vs.length ≤ 72) :
    Con l Z n0 (⟨"java/util/Arrays", "copyOf", "([BI)[B"⟩ : MethodName) jdk_65_method_121_code 3 (some (.array .byte)) ⟨1, 1, 72, 18⟩ [.ref v, .int (Int32.ofNat nl)] h Ls [] (RV fun w h' Ls' => ∃ (b : Nat) (ws : List Value), w = .ref b ∧ Keep h h' [] ∧ ws.length = nl ∧ Av Z h' b .byte ws ∧ Ls = Ls') := by
  refine Con.of_run (plainFor_of_name pn7) hO ?_
  intro pX eX sX mX bX tX cX F hX
  refine ⟨[.val (.ref v), .val (.int (Int32.ofNat nl)), .unset], rfl, ?_⟩
  have e1 := i32_ti (i := nl) (by omega)
  have e2 := i32_ti (i := vs.length) (by omega)
  refine Run.iloadN F d28_0 rfl ?_
  refine Run.aloadN F d28_1 rfl rfl ?_
  refine Run.arrlen F A d28_2 ?_
  refine Run.icmp_ne F d28_3 (t := 14) rfl e1 e2 (fun _ => ?_) (fun q => by omega)
  refine Run.iloadN F d28_14 rfl ?_
  refine Run.newarray (aty := .byte) F (w39 hw) (i32_nn (by omega)) (i32_tn (by omega)) 72 (by omega) rfl (by decide) (by decide) d28_15 ?_
  intro h1 b hb K1 lt1 A1
  have hO1 : Old Z n0 h1 := hO.keep K1 all0
  have gb : n0 ≤ b := by rw [hb, ← hO.1]; exact hO.2.1
  refine Run.astoreN F d28_17 rfl rfl ?_
  dsimp only [List.set]
  refine Run.aloadN F d28_18 rfl rfl ?_
  refine Run.iconst F d28_19 (z := 0) rfl ?_
  refine Run.aloadN F d28_20 rfl rfl ?_
  refine Run.iconst F d28_21 (z := 0) rfl ?_
  refine Run.aloadN F d28_22 rfl rfl ?_
  refine Run.arrlen F (A.keep K1 nin0) d28_23 ?_
  refine Run.iloadN F d28_24 rfl ?_
  refine Run.callStatic F (w121 hw) (w122 hw) (w123 hw) (w124 hw) (c_mathMin l Z n0 a0 hw (Int32.ofNat vs.length) (Int32.ofNat nl) h1 Ls hO1) rfl pd15 rfl rfl rfl rfl (by decide) (by decide) rfl d28_25 ?_
  rintro _ _ _ ⟨_, rfl, z, rfl, hz, rfl, rfl⟩ _ _
  refine Run.arraycopy F (w125 hw) (w128 hw) (w126 hw) (w127 hw) (A.keep K1 nin0) A1 rfl gb (sp := 0) rfl (dp := 0) rfl (nn := nl) (by omega) (by omega) (by simp) (us := vs.take nl) (by simp) rfl rfl rfl d28_28 ?_
  intro h2 K2 A2
  refine Run.aloadN F d28_31 rfl rfl ?_
  refine Run.areturn F rfl rfl (by decide) (by decide) d28_32 ⟨b, _, rfl, K1.trans K2 (allS (Or.inr (by omega)) all0), ?_, A2, rfl⟩
  simp only [List.length_append, List.length_take, List.length_drop, List.length_replicate]
  omega
theorem c_e16B (hw : HW Z a0) (v : Nat) (ps : List Nat) (UA : uA Z) (UH : uH Z) (UL : uL Z) (h : Heap) (Ls : Lits) (hO : Old Z n0 h) (A : Av Z h v .byte (u16 (uns ps))) (hok : ∀ p ∈ ps, okP p) (hN : (uns ps).length ≤ 24) :
    Con l Z n0 (⟨"java/lang/String", "encodeUTF8_UTF16", "([BZ)[B"⟩ : MethodName) jdk_42_method_47_code 9 (some (.array .byte)) ⟨2, 2, 144, 32⟩ [.ref v, .int 1] h Ls [] (RV fun w h' Ls' => ∃ (b : Nat) (ws : List Value), w = .ref b ∧ Keep h h' [] ∧ ws.length = w8s ps ∧ Av Z h' b .byte ws ∧ Ls = Ls') := by
  refine Con.of_run (plainFor_of_name pn0) hO ?_
  intro pX eX sX mX bX tX cX F hX
  refine ⟨[.val (.ref v), .val (.int 1), .unset, .unset, .unset, .unset, .unset, .unset, .unset], rfl, ?_⟩
  have hlen := A.len
  rw [u16_len] at hlen
  refine Run.iconst F d23_0 (z := 0) rfl ?_
  refine Run.istoreN F d23_1 rfl ?_
  dsimp only [List.set]
  refine Run.iconst F d23_2 (z := 0) rfl ?_
  refine Run.istoreN F d23_3 rfl ?_
  dsimp only [List.set]
  refine Run.aloadN F d23_4 rfl rfl ?_
  refine Run.arrlen F A d23_5 ?_
  rw [u16_len]
  refine Run.iconst F d23_6 (z := 1) rfl ?_
  refine Run.ishr F d23_7 ?_
  rw [shr1 (by omega)]
  refine Run.istore F d23_8 rfl ?_
  dsimp only [List.set]
  refine Run.iload F d23_10 rfl ?_
  refine Run.iconst F d23_12 (z := 3) rfl ?_
  refine Run.imul F d23_13 ?_
  have e3 : Int32.ofNat (uns ps).length * 3 = Int32.ofNat ((uns ps).length * 3) := i32_mul (b := 3) (by omega) (by omega) (by omega)
  rw [e3]
  refine Run.newarray (aty := .byte) F (w39 hw) (i32_nn (by omega)) (i32_tn (by omega)) 72 (by omega) rfl (by decide) (by decide) d23_14 ?_
  intro h1 b hb K1 lt1 A1
  have hO1 : Old Z n0 h1 := hO.keep K1 all0
  have gb : n0 ≤ b := by rw [hb, ← hO.1]; exact hO.2.1
  have hvb : v ≠ b := by have := A.lt; omega
  refine Run.astore F d23_16 rfl rfl ?_
  dsimp only [List.set]
  refine Run.via (pcJ := 58) (fun h' k n Ls' L st => ∃ r : Nat, ∃ (dn rs : List Nat) (x6 x7 x8 : Slot) (ws : List Value), ps = dn ++ rs ∧ rs.length = r ∧ okSlot x6 = true ∧ okSlot x7 = true ∧ okSlot x8 = true ∧ k = 1 ∧ n = 72 ∧ Ls = Ls' ∧ Keep h1 h' [b] ∧ Old Z n0 h' ∧ ws.length = 3 * (uns ps).length ∧ Av Z h' b .byte ws ∧ L = [.val (.ref v), .val (.int 1), .val (.int (Int32.ofNat (w8s dn))), .val (.int (Int32.ofNat (uns dn).length)), .val (.int (Int32.ofNat (uns ps).length)), .val (.ref b), x6, x7, x8] ∧ st = []) ?_ ?_
  · rintro h' k n Ls' L st ⟨r, hI⟩
    refine Run.rec (fun r h' k n Ls' L st => ∃ (dn rs : List Nat) (x6 x7 x8 : Slot) (ws : List Value), ps = dn ++ rs ∧ rs.length = r ∧ okSlot x6 = true ∧ okSlot x7 = true ∧ okSlot x8 = true ∧ k = 1 ∧ n = 72 ∧ Ls = Ls' ∧ Keep h1 h' [b] ∧ Old Z n0 h' ∧ ws.length = 3 * (uns ps).length ∧ Av Z h' b .byte ws ∧ L = [.val (.ref v), .val (.int 1), .val (.int (Int32.ofNat (w8s dn))), .val (.int (Int32.ofNat (uns dn).length)), .val (.int (Int32.ofNat (uns ps).length)), .val (.ref b), x6, x7, x8] ∧ st = []) ?_ r _ _ _ _ _ _ hI
    rintro r h' k n Ls' L st ⟨dn, rs, x6, x7, x8, ws, hps, hr, hx6, hx7, hx8, rfl, rfl, rfl, K, OO, hws, A2, rfl, rfl⟩ ih
    have sl := w8s_le dn
    have hdl : (uns dn).length ≤ (uns ps).length := by rw [hps, uns_app, List.length_append]; omega
    rcases rs with _ | ⟨p, rs⟩
    · have e0 : (uns ps).length = (uns dn).length := by rw [hps, List.append_nil]
      have ew : w8s ps = w8s dn := by rw [hps, List.append_nil]
      refine Run.iloadN F d23_58 rfl ?_
      refine Run.iload F d23_59 rfl ?_
      refine Run.icmp_ge F d23_61 (t := 355) rfl (i32_ti (by omega)) (i32_ti (by omega)) (fun _ => ?_) (fun q => by omega)
      refine Run.iloadN F d23_355 rfl ?_
      refine Run.aload F d23_356 rfl rfl ?_
      refine Run.arrlen F A2 d23_358 ?_
      refine Run.icmp_ne F d23_359 (t := 365) rfl (i32_ti (by omega)) (i32_ti (by omega)) (fun q => ?_) (fun q => ?_)
      · refine Run.aload F d23_365 rfl rfl ?_
        refine Run.iloadN F d23_367 rfl ?_
        refine Run.callStatic F (w117 hw) (w118 hw) (w119 hw) (w120 hw) (c_ctB l Z n0 a0 hw b (w8s dn) ws h' Ls OO A2 (by omega) (by omega)) rfl pd17 rfl rfl rfl rfl (by decide) (by decide) rfl d23_368 ?_
        rintro _ h3 _ ⟨_, rfl, b2, ws2, rfl, K3, hl3, A3, rfl⟩ _ _
        exact Run.areturn F rfl rfl (by decide) (by decide) d23_371 ⟨b2, ws2, rfl, (K1.trans K (allS (Or.inr (by omega)) all0)).trans K3 all0, by omega, A3, rfl⟩
      · refine Run.aload F d23_362 rfl rfl ?_
        exact Run.areturn F rfl rfl (by decide) (by decide) d23_364 ⟨b, ws, rfl, K1.trans K (allS (Or.inr (by omega)) all0), by omega, A2, rfl⟩
    · have hp : okP p := hok p (by rw [hps]; simp)
      have hsp := uns_split hps
      have hnp := nu_pos p
      have hw8 := w8_le p
      have hev := ev_rng hp
      have hc0 := uns_at hps
      have hg0 := u16_get hc0
      have e6 := i32_ti (i := evN p) (by omega)
      have A' : Av Z h' v .byte (u16 (uns ps)) := (A.keep K1 nin0).keep K (ninN hvb nin0)
      refine Run.iloadN F d23_58 rfl ?_
      refine Run.iload F d23_59 rfl ?_
      refine Run.icmp_ge F d23_61 (t := 355) rfl (i32_ti (by omega)) (i32_ti (by omega)) (fun q => by omega) (fun _ => ?_)
      refine Run.aloadN F d23_64 rfl rfl ?_
      refine Run.iloadN F d23_65 rfl ?_
      refine Run.iinc F d23_66 (z := 1) rfl rfl ?_
      dsimp only [List.set]
      simp only [Jvm.Free.XT.succ32]
      refine Run.callStatic F (w99 hw) (w60 hw) (w37 hw) (w61 hw) (c_getChar l Z n0 a0 hw v (uns dn).length (Int32.ofNat (evN p)) (u16 (uns ps)) UA UH UL h' Ls OO A' hg0.1 hg0.2 (by omega) (by omega)) rfl pd8 rfl rfl rfl rfl (by decide) (by decide) rfl d23_69 ?_
      rintro _ _ _ ⟨_, rfl, rfl, rfl, rfl⟩ _ _
      refine Run.istore F d23_72 (by simp [hx6]) ?_
      dsimp only [List.set]
      refine Run.iload F d23_74 rfl ?_
      refine Run.sipush F d23_76 (z := 128) rfl ?_
      refine Run.icmp_ge F d23_79 (t := 95) rfl e6 (yi := 128) rfl (fun q => ?_) (fun q => ?_)
      rotate_left
      · have hp1 : p < 128 := by
          by_cases z : p < 65536
          · rw [ev1 z] at q; omega
          · have hh := hi_rng hp (by omega)
            rw [ev2 (by omega)] at q; omega
        have hw1 : u8n p = 1 := if_pos hp1
        have hn1 : nu p = 1 := nu1 (by omega)
        refine Run.aload F d23_82 rfl rfl ?_
        refine Run.iloadN F d23_84 rfl ?_
        refine Run.iinc F d23_85 (z := 1) rfl rfl ?_
        dsimp only [List.set]
        refine Run.iload F d23_88 rfl ?_
        refine Run.i2b F d23_90 ?_
        simp only [Jvm.Free.XT.succ32]
        refine Run.bastore F A2 gb (i32_nn (by omega)) (i32_tn (by omega)) (by omega) (narB _) d23_91 ?_
        intro h3 W3 K3 s3 B3
        have O3 := OO.wr W3 gb
        obtain ⟨ws3, hws3, A3⟩ := Av.setAny B3 hws
        have KK3 := K.trans K3 (allS (Or.inl mem1) all0)
        refine Run.goto F d23_92 (t := 352) rfl ?_
        refine Run.goto F d23_352 (t := 58) rfl ?_
        have ed : w8s (dn ++ [p]) = w8s dn + 1 := by rw [w8s_snoc]; omega
        have es : (uns (dn ++ [p])).length = (uns dn).length + 1 := by rw [uns_snoc]; omega
        refine ih rs.length _ _ _ _ _ _ (by rw [← hr]; simp) ⟨dn ++ [p], rs, .val (.int (Int32.ofNat (evN p))), x7, x8, ws3, by rw [hps]; simp, rfl, rfl, hx7, hx8, rfl, rfl, rfl, KK3, O3, hws3, A3, by rw [ed, es], rfl⟩
      refine Run.iload F d23_95 rfl ?_
      refine Run.sipush F d23_97 (z := 2048) rfl ?_
      refine Run.icmp_ge F d23_100 (t := 140) rfl e6 (yi := 2048) rfl (fun q2 => ?_) (fun q2 => ?_)
      rotate_left
      · have hp2 : p < 2048 ∧ 128 ≤ p := by
          by_cases z : p < 65536
          · rw [ev1 z] at q q2; omega
          · have hh := hi_rng hp (by omega)
            rw [ev2 (by omega)] at q2; omega
        have hw1 : u8n p = 2 := by unfold u8n; rw [if_neg (by omega), if_pos (by omega)]
        have hn1 : nu p = 1 := nu1 (by omega)
        refine Run.aload F d23_103 rfl rfl ?_
        refine Run.iloadN F d23_105 rfl ?_
        refine Run.iinc F d23_106 (z := 1) rfl rfl ?_
        dsimp only [List.set]
        refine Run.sipush F d23_109 (z := 192) rfl ?_
        refine Run.iload F d23_112 rfl ?_
        refine Run.bipush F d23_114 (z := 6) rfl ?_
        refine Run.ishr F d23_116 ?_
        refine Run.ior F d23_117 ?_
        refine Run.i2b F d23_118 ?_
        simp only [Jvm.Free.XT.succ32]
        refine Run.bastore F A2 gb (i32_nn (by omega)) (i32_tn (by omega)) (by omega) (narB _) d23_119 ?_
        intro h3 W3 K3 s3 B3
        have O3 := OO.wr W3 gb
        obtain ⟨ws3, hws3, A3⟩ := Av.setAny B3 hws
        have KK3 := K.trans K3 (allS (Or.inl mem1) all0)
        refine Run.aload F d23_120 rfl rfl ?_
        refine Run.iloadN F d23_122 rfl ?_
        refine Run.iinc F d23_123 (z := 1) rfl rfl ?_
        dsimp only [List.set]
        refine Run.sipush F d23_126 (z := 128) rfl ?_
        refine Run.iload F d23_129 rfl ?_
        refine Run.bipush F d23_131 (z := 63) rfl ?_
        refine Run.iand F d23_133 ?_
        refine Run.ior F d23_134 ?_
        refine Run.i2b F d23_135 ?_
        simp only [Jvm.Free.XT.succ32]
        refine Run.bastore F A3 gb (i32_nn (by omega)) (i32_tn (by omega)) (by omega) (narB _) d23_136 ?_
        intro h4 W4 K4 s4 B4
        have O4 := O3.wr W4 gb
        obtain ⟨ws4, hws4, A4⟩ := Av.setAny B4 hws3
        have KK4 := KK3.trans K4 (allS (Or.inl mem1) all0)
        refine Run.goto F d23_137 (t := 352) rfl ?_
        refine Run.goto F d23_352 (t := 58) rfl ?_
        have ed : w8s (dn ++ [p]) = w8s dn + 1 + 1 := by rw [w8s_snoc]; omega
        have es : (uns (dn ++ [p])).length = (uns dn).length + 1 := by rw [uns_snoc]; omega
        refine ih rs.length _ _ _ _ _ _ (by rw [← hr]; simp) ⟨dn ++ [p], rs, .val (.int (Int32.ofNat (evN p))), x7, x8, ws4, by rw [hps]; simp, rfl, rfl, hx7, hx8, rfl, rfl, rfl, KK4, O4, hws4, A4, by rw [ed, es], rfl⟩
      refine Run.iload F d23_140 rfl ?_
      refine Run.callStatic F (w100 hw) (w101 hw) (w102 hw) (w103 hw) (c_isSur l Z n0 a0 hw (Int32.ofNat (evN p)) h' Ls OO) rfl pd32 rfl rfl rfl rfl (by decide) (by decide) rfl d23_142 ?_
      rintro _ _ _ ⟨_, rfl, rfl, rfl, rfl⟩ _ _
      refine Run.ifB_eq F d23_145 (t := 298) rfl (fun q3 => ?_) (fun q3 => ?_)
      · have z : p < 65536 ∧ 2048 ≤ p := by
          have n1 := of_decide_eq_false q3
          rw [e6] at n1
          by_cases z : p < 65536
          · rw [ev1 z] at q2; omega
          · exfalso
            have hh := hi_rng hp (by omega)
            rw [ev2 (by omega)] at n1; omega
        have hw1 : u8n p = 3 := by unfold u8n; rw [if_neg (by omega), if_neg (by omega), if_pos (by omega)]
        have hn1 : nu p = 1 := nu1 (by omega)
        refine Run.aload F d23_298 rfl rfl ?_
        refine Run.iloadN F d23_300 rfl ?_
        refine Run.iinc F d23_301 (z := 1) rfl rfl ?_
        dsimp only [List.set]
        refine Run.sipush F d23_304 (z := 224) rfl ?_
        refine Run.iload F d23_307 rfl ?_
        refine Run.bipush F d23_309 (z := 12) rfl ?_
        refine Run.ishr F d23_311 ?_
        refine Run.ior F d23_312 ?_
        refine Run.i2b F d23_313 ?_
        simp only [Jvm.Free.XT.succ32]
        refine Run.bastore F A2 gb (i32_nn (by omega)) (i32_tn (by omega)) (by omega) (narB _) d23_314 ?_
        intro h3 W3 K3 s3 B3
        have O3 := OO.wr W3 gb
        obtain ⟨ws3, hws3, A3⟩ := Av.setAny B3 hws
        have KK3 := K.trans K3 (allS (Or.inl mem1) all0)
        refine Run.aload F d23_315 rfl rfl ?_
        refine Run.iloadN F d23_317 rfl ?_
        refine Run.iinc F d23_318 (z := 1) rfl rfl ?_
        dsimp only [List.set]
        refine Run.sipush F d23_321 (z := 128) rfl ?_
        refine Run.iload F d23_324 rfl ?_
        refine Run.bipush F d23_326 (z := 6) rfl ?_
        refine Run.ishr F d23_328 ?_
        refine Run.bipush F d23_329 (z := 63) rfl ?_
        refine Run.iand F d23_331 ?_
        refine Run.ior F d23_332 ?_
        refine Run.i2b F d23_333 ?_
        simp only [Jvm.Free.XT.succ32]
        refine Run.bastore F A3 gb (i32_nn (by omega)) (i32_tn (by omega)) (by omega) (narB _) d23_334 ?_
        intro h4 W4 K4 s4 B4
        have O4 := O3.wr W4 gb
        obtain ⟨ws4, hws4, A4⟩ := Av.setAny B4 hws3
        have KK4 := KK3.trans K4 (allS (Or.inl mem1) all0)
        refine Run.aload F d23_335 rfl rfl ?_
        refine Run.iloadN F d23_337 rfl ?_
        refine Run.iinc F d23_338 (z := 1) rfl rfl ?_
        dsimp only [List.set]
        refine Run.sipush F d23_341 (z := 128) rfl ?_
        refine Run.iload F d23_344 rfl ?_
        refine Run.bipush F d23_346 (z := 63) rfl ?_
        refine Run.iand F d23_348 ?_
        refine Run.ior F d23_349 ?_
        refine Run.i2b F d23_350 ?_
        simp only [Jvm.Free.XT.succ32]
        refine Run.bastore F A4 gb (i32_nn (by omega)) (i32_tn (by omega)) (by omega) (narB _) d23_351 ?_
        intro h5 W5 K5 s5 B5
        have O5 := O4.wr W5 gb
        obtain ⟨ws5, hws5, A5⟩ := Av.setAny B5 hws4
        have KK5 := KK4.trans K5 (allS (Or.inl mem1) all0)
        refine Run.goto F d23_352 (t := 58) rfl ?_
        have ed : w8s (dn ++ [p]) = w8s dn + 1 + 1 + 1 := by rw [w8s_snoc]; omega
        have es : (uns (dn ++ [p])).length = (uns dn).length + 1 := by rw [uns_snoc]; omega
        refine ih rs.length _ _ _ _ _ _ (by rw [← hr]; simp) ⟨dn ++ [p], rs, .val (.int (Int32.ofNat (evN p))), x7, x8, ws5, by rw [hps]; simp, rfl, rfl, hx7, hx8, rfl, rfl, rfl, KK5, O5, hws5, A5, by rw [ed, es], rfl⟩
      · have z : 65536 ≤ p := by
          have n1 := of_decide_eq_true q3
          rw [e6] at n1
          by_cases z : p < 65536
          · exfalso
            have hh := hp.2
            rw [ev1 z] at n1; omega
          · omega
        have hw1 : u8n p = 4 := by unfold u8n; rw [if_neg (by omega), if_neg (by omega), if_neg (by omega)]
        have hn1 : nu p = 2 := nu2 z
        have hh := hi_rng hp z
        have hl := lo_rng p
        have hp9 := hp.1
        have ee := ev2 z
        have hc1 := uns_at2 hps z
        have hg1 := u16_get hc1
        have e8 := i32_ti (i := loP p) (by omega)
        refine Run.iconst F d23_148 (z := -1) (by decide) ?_
        refine Run.istore F d23_149 (by simp [hx7]) ?_
        dsimp only [List.set]
        refine Run.iload F d23_151 rfl ?_
        refine Run.callStatic F (w106 hw) (w107 hw) (w102 hw) (w108 hw) (c_isHigh l Z n0 a0 hw (Int32.ofNat (evN p)) h' Ls OO) rfl pd32 rfl rfl rfl rfl (by decide) (by decide) rfl d23_153 ?_
        rintro _ _ _ ⟨_, rfl, rfl, rfl, rfl⟩ _ _
        refine Run.ifB_eq F d23_156 (t := 188) rfl (fun q4 => absurd (of_decide_eq_false q4) (by omega)) (fun _ => ?_)
        refine Run.iloadN F d23_159 rfl ?_
        refine Run.iload F d23_160 rfl ?_
        refine Run.icmp_ge F d23_162 (t := 188) rfl (i32_ti (by omega)) (i32_ti (by omega)) (fun q => by omega) (fun _ => ?_)
        refine Run.aloadN F d23_165 rfl rfl ?_
        refine Run.iloadN F d23_166 rfl ?_
        refine Run.callStatic F (w99 hw) (w60 hw) (w37 hw) (w61 hw) (c_getChar l Z n0 a0 hw v ((uns dn).length + 1) (Int32.ofNat (loP p)) (u16 (uns ps)) UA UH UL h' Ls OO A' hg1.1 hg1.2 (by omega) (by omega)) rfl pd8 rfl rfl rfl rfl (by decide) (by decide) rfl d23_167 ?_
        rintro _ _ _ ⟨_, rfl, rfl, rfl, rfl⟩ _ _
        refine Run.dup F d23_170 rfl ?_
        refine Run.istore F d23_171 (by simp [hx8]) ?_
        dsimp only [List.set]
        refine Run.callStatic F (w110 hw) (w111 hw) (w102 hw) (w112 hw) (c_isLow l Z n0 a0 hw (Int32.ofNat (loP p)) h' Ls OO) rfl pd32 rfl rfl rfl rfl (by decide) (by decide) rfl d23_173 ?_
        rintro _ _ _ ⟨_, rfl, rfl, rfl, rfl⟩ _ _
        refine Run.ifB_eq F d23_176 (t := 188) rfl (fun q4 => absurd (of_decide_eq_false q4) (by omega)) (fun _ => ?_)
        refine Run.iload F d23_179 rfl ?_
        refine Run.iload F d23_181 rfl ?_
        rw [ee]
        refine Run.callStatic F (w113 hw) (w114 hw) (w102 hw) (w115 hw) (c_toCP l Z n0 a0 hw p h' Ls OO hp z) rfl pd33 rfl rfl rfl rfl (by decide) (by decide) rfl d23_183 ?_
        rintro _ _ _ ⟨_, rfl, rfl, rfl, rfl⟩ _ _
        rw [← ee]
        refine Run.istore F d23_186 rfl ?_
        dsimp only [List.set]
        refine Run.iload F d23_188 rfl ?_
        refine Run.if_ge F d23_190 (t := 218) rfl (i32_ti (by omega)) (fun _ => ?_) (fun q => by omega)
        refine Run.aload F d23_218 rfl rfl ?_
        refine Run.iloadN F d23_220 rfl ?_
        refine Run.iinc F d23_221 (z := 1) rfl rfl ?_
        dsimp only [List.set]
        refine Run.sipush F d23_224 (z := 240) rfl ?_
        refine Run.iload F d23_227 rfl ?_
        refine Run.bipush F d23_229 (z := 18) rfl ?_
        refine Run.ishr F d23_231 ?_
        refine Run.ior F d23_232 ?_
        refine Run.i2b F d23_233 ?_
        simp only [Jvm.Free.XT.succ32]
        refine Run.bastore F A2 gb (i32_nn (by omega)) (i32_tn (by omega)) (by omega) (narB _) d23_234 ?_
        intro h3 W3 K3 s3 B3
        have O3 := OO.wr W3 gb
        obtain ⟨ws3, hws3, A3⟩ := Av.setAny B3 hws
        have KK3 := K.trans K3 (allS (Or.inl mem1) all0)
        refine Run.aload F d23_235 rfl rfl ?_
        refine Run.iloadN F d23_237 rfl ?_
        refine Run.iinc F d23_238 (z := 1) rfl rfl ?_
        dsimp only [List.set]
        refine Run.sipush F d23_241 (z := 128) rfl ?_
        refine Run.iload F d23_244 rfl ?_
        refine Run.bipush F d23_246 (z := 12) rfl ?_
        refine Run.ishr F d23_248 ?_
        refine Run.bipush F d23_249 (z := 63) rfl ?_
        refine Run.iand F d23_251 ?_
        refine Run.ior F d23_252 ?_
        refine Run.i2b F d23_253 ?_
        simp only [Jvm.Free.XT.succ32]
        refine Run.bastore F A3 gb (i32_nn (by omega)) (i32_tn (by omega)) (by omega) (narB _) d23_254 ?_
        intro h4 W4 K4 s4 B4
        have O4 := O3.wr W4 gb
        obtain ⟨ws4, hws4, A4⟩ := Av.setAny B4 hws3
        have KK4 := KK3.trans K4 (allS (Or.inl mem1) all0)
        refine Run.aload F d23_255 rfl rfl ?_
        refine Run.iloadN F d23_257 rfl ?_
        refine Run.iinc F d23_258 (z := 1) rfl rfl ?_
        dsimp only [List.set]
        refine Run.sipush F d23_261 (z := 128) rfl ?_
        refine Run.iload F d23_264 rfl ?_
        refine Run.bipush F d23_266 (z := 6) rfl ?_
        refine Run.ishr F d23_268 ?_
        refine Run.bipush F d23_269 (z := 63) rfl ?_
        refine Run.iand F d23_271 ?_
        refine Run.ior F d23_272 ?_
        refine Run.i2b F d23_273 ?_
        simp only [Jvm.Free.XT.succ32]
        refine Run.bastore F A4 gb (i32_nn (by omega)) (i32_tn (by omega)) (by omega) (narB _) d23_274 ?_
        intro h5 W5 K5 s5 B5
        have O5 := O4.wr W5 gb
        obtain ⟨ws5, hws5, A5⟩ := Av.setAny B5 hws4
        have KK5 := KK4.trans K5 (allS (Or.inl mem1) all0)
        refine Run.aload F d23_275 rfl rfl ?_
        refine Run.iloadN F d23_277 rfl ?_
        refine Run.iinc F d23_278 (z := 1) rfl rfl ?_
        dsimp only [List.set]
        refine Run.sipush F d23_281 (z := 128) rfl ?_
        refine Run.iload F d23_284 rfl ?_
        refine Run.bipush F d23_286 (z := 63) rfl ?_
        refine Run.iand F d23_288 ?_
        refine Run.ior F d23_289 ?_
        refine Run.i2b F d23_290 ?_
        simp only [Jvm.Free.XT.succ32]
        refine Run.bastore F A5 gb (i32_nn (by omega)) (i32_tn (by omega)) (by omega) (narB _) d23_291 ?_
        intro h6 W6 K6 s6 B6
        have O6 := O5.wr W6 gb
        obtain ⟨ws6, hws6, A6⟩ := Av.setAny B6 hws5
        have KK6 := KK5.trans K6 (allS (Or.inl mem1) all0)
        refine Run.iinc F d23_292 (z := 1) rfl rfl ?_
        dsimp only [List.set]
        refine Run.goto F d23_295 (t := 352) rfl ?_
        refine Run.goto F d23_352 (t := 58) rfl ?_
        simp only [Jvm.Free.XT.succ32]
        have ed : w8s (dn ++ [p]) = w8s dn + 1 + 1 + 1 + 1 := by rw [w8s_snoc]; omega
        have es : (uns (dn ++ [p])).length = (uns dn).length + 1 + 1 := by rw [uns_snoc]; omega
        refine ih rs.length _ _ _ _ _ _ (by rw [← hr]; simp) ⟨dn ++ [p], rs, .val (.int (Int32.ofNat (evN p))), .val (.int (Int32.ofNat p)), .val (.int (Int32.ofNat (loP p))), ws6, by rw [hps]; simp, rfl, rfl, rfl, rfl, rfl, rfl, rfl, KK6, O6, hws6, A6, by rw [ed, es], rfl⟩
  · intro JJ
    refine Run.rec (fun r h' k n Ls' L st => ∃ (dn rs : List Nat) (x6 x7 x8 : Slot) (ws : List Value), ps = dn ++ rs ∧ rs.length = r ∧ okSlot x6 = true ∧ okSlot x7 = true ∧ okSlot x8 = true ∧ k = 1 ∧ n = 72 ∧ Ls = Ls' ∧ Keep h1 h' [b] ∧ Old Z n0 h' ∧ ws.length = 3 * (uns ps).length ∧ Av Z h' b .byte ws ∧ L = [.val (.ref v), .val (.int 1), .val (.int (Int32.ofNat (w8s dn))), .val (.int (Int32.ofNat (uns dn).length)), .val (.int (Int32.ofNat (uns ps).length)), .val (.ref b), x6, x7, x8] ∧ st = []) ?_ ps.length _ _ _ _ _ _ ⟨[], ps, .unset, .unset, .unset, List.replicate ((uns ps).length * 3) (.int 0), rfl, rfl, rfl, rfl, rfl, rfl, rfl, rfl, Keep.refl _ _, hO1, by rw [List.length_replicate]; omega, A1, rfl, rfl⟩
    rintro r h' k n Ls' L st ⟨dn, rs, x6, x7, x8, ws, hps, hr, hx6, hx7, hx8, rfl, rfl, rfl, K, OO, hws, A2, rfl, rfl⟩ ih
    have sl := w8s_le dn
    have hdl : (uns dn).length ≤ (uns ps).length := by rw [hps, uns_app, List.length_append]; omega
    rcases rs with _ | ⟨p, rs⟩
    · have e0 : (uns ps).length = (uns dn).length := by rw [hps, List.append_nil]
      refine Run.iloadN F d23_18 rfl ?_
      refine Run.iload F d23_19 rfl ?_
      refine Run.icmp_ge F d23_21 (t := 58) rfl (i32_ti (by omega)) (i32_ti (by omega)) (fun _ => ?_) (fun q => by omega)
      exact JJ _ _ _ _ _ _ ⟨r, dn, [], x6, x7, x8, ws, hps, hr, hx6, hx7, hx8, rfl, rfl, rfl, K, OO, hws, A2, rfl, rfl⟩
    · have hp : okP p := hok p (by rw [hps]; simp)
      have hsp := uns_split hps
      have hnp := nu_pos p
      have hw8 := w8_le p
      have hev := ev_rng hp
      have hc0 := uns_at hps
      have hg0 := u16_get hc0
      have e6 := i32_ti (i := evN p) (by omega)
      have A' : Av Z h' v .byte (u16 (uns ps)) := (A.keep K1 nin0).keep K (ninN hvb nin0)
      refine Run.iloadN F d23_18 rfl ?_
      refine Run.iload F d23_19 rfl ?_
      refine Run.icmp_ge F d23_21 (t := 58) rfl (i32_ti (by omega)) (i32_ti (by omega)) (fun q => by omega) (fun _ => ?_)
      refine Run.aloadN F d23_24 rfl rfl ?_
      refine Run.iloadN F d23_25 rfl ?_
      refine Run.callStatic F (w99 hw) (w60 hw) (w37 hw) (w61 hw) (c_getChar l Z n0 a0 hw v (uns dn).length (Int32.ofNat (evN p)) (u16 (uns ps)) UA UH UL h' Ls OO A' hg0.1 hg0.2 (by omega) (by omega)) rfl pd8 rfl rfl rfl rfl (by decide) (by decide) rfl d23_26 ?_
      rintro _ _ _ ⟨_, rfl, rfl, rfl, rfl⟩ _ _
      refine Run.istore F d23_29 (by simp [hx6]) ?_
      dsimp only [List.set]
      refine Run.iload F d23_31 rfl ?_
      refine Run.sipush F d23_33 (z := 128) rfl ?_
      refine Run.icmp_lt F d23_36 (t := 42) rfl e6 (yi := 128) rfl (fun q => ?_) (fun q => ?_)
      · have hp1 : p < 128 := by
          by_cases z : p < 65536
          · rw [ev1 z] at q; omega
          · have hh := hi_rng hp (by omega)
            rw [ev2 (by omega)] at q; omega
        have hw1 : u8n p = 1 := if_pos hp1
        have hn1 : nu p = 1 := nu1 (by omega)
        refine Run.aload F d23_42 rfl rfl ?_
        refine Run.iloadN F d23_44 rfl ?_
        refine Run.iinc F d23_45 (z := 1) rfl rfl ?_
        dsimp only [List.set]
        refine Run.iload F d23_48 rfl ?_
        refine Run.i2b F d23_50 ?_
        simp only [Jvm.Free.XT.succ32]
        refine Run.bastore F A2 gb (i32_nn (by omega)) (i32_tn (by omega)) (by omega) (narB _) d23_51 ?_
        intro h3 W3 K3 s3 B3
        have O3 := OO.wr W3 gb
        obtain ⟨ws3, hws3, A3⟩ := Av.setAny B3 hws
        have KK3 := K.trans K3 (allS (Or.inl mem1) all0)
        refine Run.iinc F d23_52 (z := 1) rfl rfl ?_
        dsimp only [List.set]
        refine Run.goto F d23_55 (t := 18) rfl ?_
        simp only [Jvm.Free.XT.succ32]
        have ed : w8s (dn ++ [p]) = w8s dn + 1 := by rw [w8s_snoc]; omega
        have es : (uns (dn ++ [p])).length = (uns dn).length + 1 := by rw [uns_snoc]; omega
        refine ih rs.length _ _ _ _ _ _ (by rw [← hr]; simp) ⟨dn ++ [p], rs, .val (.int (Int32.ofNat (evN p))), x7, x8, ws3, by rw [hps]; simp, rfl, rfl, hx7, hx8, rfl, rfl, rfl, KK3, O3, hws3, A3, by rw [ed, es], rfl⟩
      · refine Run.goto F d23_39 (t := 58) rfl ?_
        exact JJ _ _ _ _ _ _ ⟨r, dn, p :: rs, .val (.int (Int32.ofNat (evN p))), x7, x8, ws, hps, hr, rfl, hx7, hx8, rfl, rfl, rfl, K, OO, hws, A2, rfl, rfl⟩
theorem c_eu8B (hw : HW Z a0) (v : Nat) (co : Int32) (ps : List Nat) (UA : uA Z) (UH : uH Z) (UL : uL Z) (h : Heap) (Ls : Lits) (hO : Old Z n0 h) (hco : co = coOf (uns ps)) (A : Av Z h v .byte (byOf (uns ps))) (E : Exa Z h v "[B") (hok : ∀ p ∈ ps, okP p) (hN : (uns ps).length ≤ 24) :
    Con l Z n0 (⟨"java/lang/String", "encodeUTF8", "(B[BZ)[B"⟩ : MethodName) jdk_42_method_46_code 9 (some (.array .byte)) ⟨3, 2, 144, 52⟩ [.int co, .ref v, .int 1] h Ls [] (RV fun w h' Ls' => ∃ (b : Nat) (ws : List Value), w = .ref b ∧ Keep h h' [] ∧ ws.length = w8s ps ∧ Av Z h' b .byte ws ∧ Ls = Ls') := by
  refine Con.of_run (plainFor_of_name pn0) hO ?_
  intro pX eX sX mX bX tX cX F hX
  refine ⟨[.val (.int co), .val (.ref v), .val (.int 1), .unset, .unset, .unset, .unset, .unset, .unset], rfl, ?_⟩
  have hcs := uns_rng hok
  cases hl : lat (uns ps)
  · have e1 : co = 1 := by rw [hco, coOf, hl]; rfl
    have e2 : byOf (uns ps) = u16 (uns ps) := by rw [byOf, hl]; rfl
    rw [e2] at A
    subst e1
    refine Run.iloadN F d22_0 rfl ?_
    refine Run.iconst F d22_1 (z := 1) rfl ?_
    refine Run.icmpNo F d22_2 rfl ?_
    refine Run.aloadN F d22_5 rfl rfl ?_
    refine Run.iloadN F d22_6 rfl ?_
    refine Run.callStatic F (w96 hw) (w97 hw) (w23 hw) (w98 hw) (c_e16B l Z n0 a0 hw v ps UA UH UL h Ls hO A hok hN) rfl pd34 rfl rfl rfl rfl (by decide) (by decide) rfl d22_7 ?_
    rintro _ h1 _ ⟨_, rfl, b, ws, rfl, K1, hl1, A1, rfl⟩ _ _
    exact Run.areturn F rfl rfl (by decide) (by decide) d22_10 ⟨b, ws, rfl, K1, hl1, A1, rfl⟩
  · have e1 : co = 0 := by rw [hco, coOf, hl]; rfl
    have e2 : byOf (uns ps) = (uns ps).map lb := by rw [byOf, hl]; rfl
    rw [e2] at A
    subst e1
    have h8 : ∀ c ∈ uns ps, 0 ≤ c.toInt ∧ c.toInt < 256 := lat_lt (by rw [hl]; rfl) hcs
    have ew := w8s_lat hok hl
    refine Run.iloadN F d22_0 rfl ?_
    refine Run.iconst F d22_1 (z := 1) rfl ?_
    refine Run.icmpYes F d22_2 (t := 11) rfl rfl ?_
    refine Run.aloadN F d22_11 rfl rfl ?_
    refine Run.iconst F d22_12 (z := 0) rfl ?_
    refine Run.aloadN F d22_13 rfl rfl ?_
    refine Run.arrlen F A d22_14 ?_
    rw [List.length_map]
    refine Run.callStatic F (w129 hw) (w130 hw) (w131 hw) (w132 hw) (c_hasNeg l Z n0 a0 hw v (uns ps) h Ls hO A h8) rfl pd35 rfl rfl rfl rfl (by decide) (by decide) rfl d22_15 ?_
    rintro _ _ _ ⟨_, rfl, bb, rfl, hbb, rfl, rfl⟩ _ _
    refine Run.ifB_ne F d22_18 (t := 29) rfl (fun _ => ?_) (fun q => ?_)
    rotate_left
    · have ha := hbb q
      refine Run.aloadN F d22_21 rfl rfl ?_
      refine Run.clone F (w136 hw) (w137 hw) (w141 hw) (w139 hw) (w140 hw) (w142 hw) A E rfl rfl rfl 24 (by rw [List.length_map]; omega) (by decide) (by decide) d22_22 ?_
      intro h1 b hb K1 A1 E1
      refine Run.checkcast F (w143 hw) (Ins.of_exa E1 (w144 hw)) d22_25 ?_
      exact Run.areturn F rfl rfl (by decide) (by decide) d22_28 ⟨b, (uns ps).map lb, rfl, K1, by rw [List.length_map, ew, w8l_asc ha], A1, rfl⟩
    refine Run.iconst F d22_29 (z := 0) rfl ?_
    refine Run.istoreN F d22_30 rfl ?_
    dsimp only [List.set]
    refine Run.aloadN F d22_31 rfl rfl ?_
    refine Run.arrlen F A d22_32 ?_
    rw [List.length_map]
    refine Run.callStatic F (w423 hw) (w47 hw) (w37 hw) (w48 hw) (c_nbForS l Z n0 a0 hw (uns ps).length h Ls hO hN) rfl pd4 rfl rfl rfl rfl (by decide) (by decide) rfl d22_33 ?_
    rintro _ h1 _ ⟨_, rfl, b, rfl, K1, hb, E1, A1, rfl⟩ hO1 _
    have gb : n0 ≤ b := by rw [hb, ← hO.1]; exact hO.2.1
    have hvb : v ≠ b := by have := A.lt; omega
    refine Run.astore F d22_36 rfl rfl ?_
    dsimp only [List.set]
    refine Run.aloadN F d22_38 rfl rfl ?_
    refine Run.astore F d22_39 rfl rfl ?_
    dsimp only [List.set]
    refine Run.aload F d22_41 rfl rfl ?_
    refine Run.arrlen F (A.keep K1 nin0) d22_43 ?_
    rw [List.length_map]
    refine Run.istore F d22_44 rfl ?_
    dsimp only [List.set]
    refine Run.iconst F d22_46 (z := 0) rfl ?_
    refine Run.istore F d22_47 rfl ?_
    dsimp only [List.set]
    refine Run.rec (fun r h' k n Ls' L st => ∃ (i : Nat) (x8 : Slot) (ws : List Value), i + r = (uns ps).length ∧ okSlot x8 = true ∧ k = 1 ∧ n = 48 ∧ Ls = Ls' ∧ Keep h1 h' [b] ∧ Old Z n0 h' ∧ ws.length = 2 * (uns ps).length ∧ Av Z h' b .byte ws ∧ L = [.val (.int 0), .val (.ref v), .val (.int 1), .val (.int (Int32.ofNat (w8l ((uns ps).take i)))), .val (.ref b), .val (.ref v), .val (.int (Int32.ofNat (uns ps).length)), .val (.int (Int32.ofNat i)), x8] ∧ st = []) ?_ (uns ps).length _ _ _ _ _ _ ⟨0, .unset, List.replicate (2 * (uns ps).length) (.int 0), by omega, rfl, rfl, rfl, rfl, Keep.refl _ _, hO1, by rw [List.length_replicate], A1, rfl, rfl⟩
    rintro r h' k n Ls' L st ⟨i, x8, ws, hi, hx8, rfl, rfl, rfl, K, OO, hws, A2, rfl, rfl⟩ ih
    have hwl := w8l_le ((uns ps).take i)
    rw [List.length_take] at hwl
    refine Run.iload F d22_49 rfl ?_
    refine Run.iload F d22_51 rfl ?_
    refine Run.icmp_ge F d22_53 (t := 124) rfl (i32_ti (by omega)) (i32_ti (by omega)) (fun q => ?_) (fun q => ?_)
    · have hi' : i = (uns ps).length := by omega
      have et : w8l ((uns ps).take i) = w8s ps := by rw [hi', List.take_length, ew]
      refine Run.iloadN F d22_124 rfl ?_
      refine Run.aload F d22_125 rfl rfl ?_
      refine Run.arrlen F A2 d22_127 ?_
      refine Run.icmp_ne F d22_128 (t := 134) rfl (i32_ti (by omega)) (i32_ti (by omega)) (fun q => ?_) (fun q => ?_)
      · refine Run.aload F d22_134 rfl rfl ?_
        refine Run.iloadN F d22_136 rfl ?_
        refine Run.callStatic F (w117 hw) (w118 hw) (w119 hw) (w120 hw) (c_ctB l Z n0 a0 hw b (w8l ((uns ps).take i)) ws h' Ls OO A2 (by omega) (by omega)) rfl pd17 rfl rfl rfl rfl (by decide) (by decide) rfl d22_137 ?_
        rintro _ h3 _ ⟨_, rfl, b2, ws2, rfl, K3, hl3, A3, rfl⟩ _ _
        exact Run.areturn F rfl rfl (by decide) (by decide) d22_140 ⟨b2, ws2, rfl, (K1.trans K (allS (Or.inr (by omega)) all0)).trans K3 all0, by omega, A3, rfl⟩
      · refine Run.aload F d22_131 rfl rfl ?_
        exact Run.areturn F rfl rfl (by decide) (by decide) d22_133 ⟨b, ws, rfl, K1.trans K (allS (Or.inr (by omega)) all0), by omega, A2, rfl⟩
    · obtain ⟨c1, hc1⟩ : ∃ c1, (uns ps)[i]? = some c1 := ⟨_, List.getElem?_eq_getElem (by omega)⟩
      have hc2 := h8 c1 (List.mem_of_getElem? hc1)
      have hc3 := c_i2b c1
      have ht := u8_take hc1
      refine Run.aload F d22_56 rfl rfl ?_
      refine Run.iload F d22_58 rfl ?_
      refine Run.baload F ((A.keep K1 nin0).keep K (ninN hvb nin0)) (i32_nn (by omega)) (i32_tn (by omega)) (lb_get hc1) d22_60 ?_
      refine Run.istore F d22_61 (by simp [hx8]) ?_
      dsimp only [List.set]
      refine Run.iload F d22_63 rfl ?_
      refine Run.if_ge F d22_65 (t := 109) rfl rfl (fun q2 => ?_) (fun q2 => ?_)
      · rw [if_pos (by omega)] at ht
        refine Run.aload F d22_109 rfl rfl ?_
        refine Run.iloadN F d22_111 rfl ?_
        refine Run.iinc F d22_112 (z := 1) rfl rfl ?_
        dsimp only [List.set]
        refine Run.iload F d22_115 rfl ?_
        simp only [Jvm.Free.XT.succ32]
        refine Run.bastore F A2 gb (i32_nn (by omega)) (i32_tn (by omega)) (by omega) (narB c1) d22_117 ?_
        intro h3 W3 K3 s3 B3
        have O3 := OO.wr W3 gb
        obtain ⟨ws3, hws3, A3⟩ := Av.setAny B3 hws
        refine Run.iinc F d22_118 (z := 1) rfl rfl ?_
        dsimp only [List.set]
        refine Run.goto F d22_121 (t := 49) rfl ?_
        simp only [Jvm.Free.XT.succ32]
        exact ih (r - 1) _ _ _ _ _ _ (by omega) ⟨i + 1, .val (.int c1.toInt8.toInt32), ws3, by omega, rfl, rfl, rfl, rfl, K.trans K3 (allS (Or.inl mem1) all0), O3, hws3, A3, by rw [ht], rfl⟩
      · rw [if_neg (by omega)] at ht
        have ht2 : w8l ((uns ps).take (i + 1)) = w8l ((uns ps).take i) + 1 + 1 := by omega
        refine Run.aload F d22_68 rfl rfl ?_
        refine Run.iloadN F d22_70 rfl ?_
        refine Run.iinc F d22_71 (z := 1) rfl rfl ?_
        dsimp only [List.set]
        refine Run.sipush F d22_74 (z := 192) rfl ?_
        refine Run.iload F d22_77 rfl ?_
        refine Run.sipush F d22_79 (z := 255) rfl ?_
        refine Run.iand F d22_82 ?_
        refine Run.bipush F d22_83 (z := 6) rfl ?_
        refine Run.ishr F d22_85 ?_
        refine Run.ior F d22_86 ?_
        refine Run.i2b F d22_87 ?_
        simp only [Jvm.Free.XT.succ32]
        refine Run.bastore F A2 gb (i32_nn (by omega)) (i32_tn (by omega)) (by omega) (narB _) d22_88 ?_
        intro h3 W3 K3 s3 B3
        have O3 := OO.wr W3 gb
        obtain ⟨ws3, hws3, A3⟩ := Av.setAny B3 hws
        refine Run.aload F d22_89 rfl rfl ?_
        refine Run.iloadN F d22_91 rfl ?_
        refine Run.iinc F d22_92 (z := 1) rfl rfl ?_
        dsimp only [List.set]
        refine Run.sipush F d22_95 (z := 128) rfl ?_
        refine Run.iload F d22_98 rfl ?_
        refine Run.bipush F d22_100 (z := 63) rfl ?_
        refine Run.iand F d22_102 ?_
        refine Run.ior F d22_103 ?_
        refine Run.i2b F d22_104 ?_
        simp only [Jvm.Free.XT.succ32]
        refine Run.bastore F A3 gb (i32_nn (by omega)) (i32_tn (by omega)) (by omega) (narB _) d22_105 ?_
        intro h4 W4 K4 s4 B4
        have O4 := O3.wr W4 gb
        obtain ⟨ws4, hws4, A4⟩ := Av.setAny B4 hws3
        refine Run.goto F d22_106 (t := 118) rfl ?_
        refine Run.iinc F d22_118 (z := 1) rfl rfl ?_
        dsimp only [List.set]
        refine Run.goto F d22_121 (t := 49) rfl ?_
        simp only [Jvm.Free.XT.succ32]
        exact ih (r - 1) _ _ _ _ _ _ (by omega) ⟨i + 1, .val (.int c1.toInt8.toInt32), ws4, by omega, rfl, rfl, rfl, rfl, (K.trans K3 (allS (Or.inl mem1) all0)).trans K4 (allS (Or.inl mem1) all0), O4, hws4, A4, by rw [ht2], rfl⟩
theorem c_encB (hw : HW Z a0) (v : Nat) (co : Int32) (ps : List Nat) {u8 : Nat} (S8a : Sta Z Z.heap "java/nio/charset/StandardCharsets" "UTF_8" "Ljava/nio/charset/Charset;" (.ref u8)) (S8b : Sta Z Z.heap "sun/nio/cs/UTF_8" "INSTANCE" "Lsun/nio/cs/UTF_8;" (.ref u8)) (UA : uA Z) (UH : uH Z) (UL : uL Z) (h : Heap) (Ls : Lits) (hO : Old Z n0 h) (hco : co = coOf (uns ps)) (A : Av Z h v .byte (byOf (uns ps))) (E : Exa Z h v "[B") (hok : ∀ p ∈ ps, okP p) (hN : (uns ps).length ≤ 24) :
    Con l Z n0 (⟨"java/lang/String", "encode", "(Ljava/nio/charset/Charset;B[B)[B"⟩ : MethodName) jdk_42_method_18_code 3 (some (.array .byte)) ⟨4, 2, 144, 72⟩ [.ref u8, .int co, .ref v] h Ls [] (RV fun w h' Ls' => ∃ (b : Nat) (ws : List Value), w = .ref b ∧ Keep h h' [] ∧ ws.length = w8s ps ∧ Av Z h' b .byte ws ∧ Ls = Ls') := by
  refine Con.of_run (plainFor_of_name pn0) hO ?_
  intro pX eX sX mX bX tX cX F hX
  refine ⟨[.val (.ref u8), .val (.int co), .val (.ref v)], rfl, ?_⟩
  refine Run.aloadN F d21_0 rfl rfl ?_
  refine Run.getstatic F (w91 hw) Via.refl S8b d21_1 ?_
  refine Run.acmpNo F d21_4 (t := 14) rfl rfl rfl (b := true) (decide_eq_true rfl) rfl ?_
  refine Run.iloadN F d21_7 rfl ?_
  refine Run.aloadN F d21_8 rfl rfl ?_
  refine Run.iconst F d21_9 (z := 1) rfl ?_
  refine Run.callStatic F (w93 hw) (w94 hw) (w23 hw) (w95 hw) (c_eu8B l Z n0 a0 hw v co ps UA UH UL h Ls hO hco A E hok hN) rfl pd36 rfl rfl rfl rfl (by decide) (by decide) rfl d21_10 ?_
  rintro _ h1 _ ⟨_, rfl, b, ws, rfl, hq⟩ _ _
  exact Run.areturn F rfl rfl (by decide) (by decide) d21_13 ⟨b, ws, rfl, hq⟩
theorem c_gbB (hw : HW Z a0) (x b : Nat) (ps : List Nat) {cz : Int32} (SC : sC Z cz) (hcz : cz.toInt ≠ 0) {u8 : Nat} (S8a : Sta Z Z.heap "java/nio/charset/StandardCharsets" "UTF_8" "Ljava/nio/charset/Charset;" (.ref u8)) (S8b : Sta Z Z.heap "sun/nio/cs/UTF_8" "INSTANCE" "Lsun/nio/cs/UTF_8;" (.ref u8)) (UA : uA Z) (UH : uH Z) (UL : uL Z) (h : Heap) (Ls : Lits) (hO : Old Z n0 h) (S : Str Z h x b (coOf (uns ps)) (byOf (uns ps))) (E : Exa Z h b "[B") (hok : ∀ p ∈ ps, okP p) (hN : (uns ps).length ≤ 24) :
    Con l Z n0 (⟨"java/lang/String", "getBytes", "(Ljava/nio/charset/Charset;)[B"⟩ : MethodName) jdk_42_method_64_code 2 (some (.array .byte)) ⟨5, 2, 144, 86⟩ [.ref x, .ref u8] h Ls [] (RV fun w h' Ls' => ∃ (b : Nat) (ws : List Value), w = .ref b ∧ Keep h h' [] ∧ ws.length = w8s ps ∧ Av Z h' b .byte ws ∧ Ls = Ls') := by
  refine Con.of_run (plainFor_of_name pn0) hO ?_
  intro pX eX sX mX bX tX cX F hX
  refine ⟨[.val (.ref x), .val (.ref u8)], rfl, ?_⟩
  refine Run.aloadN F d19_0 rfl rfl ?_
  refine Run.ifnonnullYes F d19_1 (t := 12) rfl ?_
  refine Run.aloadN F d19_12 rfl rfl ?_
  refine Run.aloadN F d19_13 rfl rfl ?_
  refine Run.callVirtual F (w83 hw) (w84 hw) (nfs (w86 hw)) (w86 hw) (w85 hw) (w23 hw) (w87 hw) S.1 (c_coder l Z n0 a0 hw x (coOf (uns ps)) SC hcz h Ls hO S.2.1 (co8 _)) rfl pd0 rfl rfl rfl rfl (by decide) (by decide) rfl d19_14 ?_
  rintro _ _ _ ⟨_, rfl, rfl, rfl, rfl⟩ _ _
  refine Run.aloadN F d19_17 rfl rfl ?_
  refine Run.getfield F (host := "") (Or.inl (w67 hw)) Via.refl S.2.2.1 d19_18 ?_
  refine Run.callStatic F (w88 hw) (w89 hw) (w23 hw) (w90 hw) (c_encB l Z n0 a0 hw b (coOf (uns ps)) ps S8a S8b UA UH UL h Ls hO rfl S.2.2.2 E hok hN) rfl pd37 rfl rfl rfl rfl (by decide) (by decide) rfl d19_21 ?_
  rintro _ h1 _ ⟨_, rfl, b1, ws, rfl, hq⟩ _ _
  exact Run.areturn F rfl rfl (by decide) (by decide) d19_24 ⟨b1, ws, rfl, hq⟩
theorem c_u8lB (hw : HW Z a0) (x b : Nat) (ps : List Nat) {cz : Int32} (SC : sC Z cz) (hcz : cz.toInt ≠ 0) {u8 : Nat} (S8a : Sta Z Z.heap "java/nio/charset/StandardCharsets" "UTF_8" "Ljava/nio/charset/Charset;" (.ref u8)) (S8b : Sta Z Z.heap "sun/nio/cs/UTF_8" "INSTANCE" "Lsun/nio/cs/UTF_8;" (.ref u8)) (UA : uA Z) (UH : uH Z) (UL : uL Z) (h : Heap) (Ls : Lits) (hO : Old Z n0 h) (S : Str Z h x b (coOf (uns ps)) (byOf (uns ps))) (E : Exa Z h b "[B") (hok : ∀ p ∈ ps, okP p) (hN : (uns ps).length ≤ 24) :
    Con l Z n0 (⟨"com/example/earnest_orm/earnestorm/mapping/Identifiers", "utf8Length", "(Ljava/lang/String;)I"⟩ : MethodName) prog_5_method_7_code 1 (some .int) ⟨6, 2, 144, 99⟩ [.ref x] h Ls [] (RV fun w h' Ls' => w = .int (Int32.ofNat (w8s ps)) ∧ Keep h h' [] ∧ Ls = Ls') := by
  refine Con.of_run (plainFor_of_name pn10) hO ?_
  intro pX eX sX mX bX tX cX F hX
  refine ⟨[.val (.ref x)], rfl, ?_⟩
  refine Run.aloadN F d18_0 rfl rfl ?_
  refine Run.getstatic F (w76 hw) Via.refl S8a d18_1 ?_
  refine Run.callVirtual F (w78 hw) (w79 hw) (nfs (w81 hw)) (w81 hw) (w80 hw) (w23 hw) (w82 hw) S.1 (c_gbB l Z n0 a0 hw x b ps SC hcz S8a S8b UA UH UL h Ls hO S E hok hN) rfl pd38 rfl rfl rfl rfl (by decide) (by decide) rfl d18_4 ?_
  rintro _ h1 _ ⟨_, rfl, b1, ws, rfl, K1, hl1, A1, rfl⟩ _ _
  refine Run.arrlen F A1 d18_7 ?_
  rw [hl1]
  exact Run.ireturn F (by simp) rfl (by decide) (by decide) d18_8 ⟨rfl, K1, rfl⟩
theorem c_ctT (hw : HW Z a0) (v : Nat) (nl : Nat) (vs : List Value) (h : Heap) (Ls : Lits) (hO : Old Z n0 h) (A : Av Z h v .byte vs) (hlt : nl < vs.length) (hK : vs.length ≤ 6) :
    Con l Z n0 (⟨"java/util/Arrays", "copyOf", "([BI)[B"⟩ : MethodName) jdk_65_method_121_code 3 (some (.array .byte)) ⟨1, 1, 6, 18⟩ [.ref v, .int (Int32.ofNat nl)] h Ls [] (RV fun w h' Ls' => ∃ (b : Nat) (ws : List Value), w = .ref b ∧ Keep h h' [] ∧ ws.length = nl ∧ Av Z h' b .byte ws ∧ Ls = Ls') := by
  refine Con.of_run (plainFor_of_name pn7) hO ?_
  intro pX eX sX mX bX tX cX F hX
  refine ⟨[.val (.ref v), .val (.int (Int32.ofNat nl)), .unset], rfl, ?_⟩
  have e1 := i32_ti (i := nl) (by omega)
  have e2 := i32_ti (i := vs.length) (by omega)
  refine Run.iloadN F d28_0 rfl ?_
  refine Run.aloadN F d28_1 rfl rfl ?_
  refine Run.arrlen F A d28_2 ?_
  refine Run.icmp_ne F d28_3 (t := 14) rfl e1 e2 (fun _ => ?_) (fun q => by omega)
  refine Run.iloadN F d28_14 rfl ?_
  refine Run.newarray (aty := .byte) F (w39 hw) (i32_nn (by omega)) (i32_tn (by omega)) 6 (by omega) rfl (by decide) (by decide) d28_15 ?_
  intro h1 b hb K1 lt1 A1
  have hO1 : Old Z n0 h1 := hO.keep K1 all0
  have gb : n0 ≤ b := by rw [hb, ← hO.1]; exact hO.2.1
  refine Run.astoreN F d28_17 rfl rfl ?_
  dsimp only [List.set]
  refine Run.aloadN F d28_18 rfl rfl ?_
  refine Run.iconst F d28_19 (z := 0) rfl ?_
  refine Run.aloadN F d28_20 rfl rfl ?_
  refine Run.iconst F d28_21 (z := 0) rfl ?_
  refine Run.aloadN F d28_22 rfl rfl ?_
  refine Run.arrlen F (A.keep K1 nin0) d28_23 ?_
  refine Run.iloadN F d28_24 rfl ?_
  refine Run.callStatic F (w121 hw) (w122 hw) (w123 hw) (w124 hw) (c_mathMin l Z n0 a0 hw (Int32.ofNat vs.length) (Int32.ofNat nl) h1 Ls hO1) rfl pd15 rfl rfl rfl rfl (by decide) (by decide) rfl d28_25 ?_
  rintro _ _ _ ⟨_, rfl, z, rfl, hz, rfl, rfl⟩ _ _
  refine Run.arraycopy F (w125 hw) (w128 hw) (w126 hw) (w127 hw) (A.keep K1 nin0) A1 rfl gb (sp := 0) rfl (dp := 0) rfl (nn := nl) (by omega) (by omega) (by simp) (us := vs.take nl) (by simp) rfl rfl rfl d28_28 ?_
  intro h2 K2 A2
  refine Run.aloadN F d28_31 rfl rfl ?_
  refine Run.areturn F rfl rfl (by decide) (by decide) d28_32 ⟨b, _, rfl, K1.trans K2 (allS (Or.inr (by omega)) all0), ?_, A2, rfl⟩
  simp only [List.length_append, List.length_take, List.length_drop, List.length_replicate]
  omega
theorem c_e16T (hw : HW Z a0) (v : Nat) (ps : List Nat) (UA : uA Z) (UH : uH Z) (UL : uL Z) (h : Heap) (Ls : Lits) (hO : Old Z n0 h) (A : Av Z h v .byte (u16 (uns ps))) (hok : ∀ p ∈ ps, okP p) (hN : (uns ps).length ≤ 2) :
    Con l Z n0 (⟨"java/lang/String", "encodeUTF8_UTF16", "([BZ)[B"⟩ : MethodName) jdk_42_method_47_code 9 (some (.array .byte)) ⟨2, 2, 12, 32⟩ [.ref v, .int 1] h Ls [] (RV fun w h' Ls' => ∃ (b : Nat) (ws : List Value), w = .ref b ∧ Keep h h' [] ∧ ws.length = w8s ps ∧ Av Z h' b .byte ws ∧ Ls = Ls') := by
  refine Con.of_run (plainFor_of_name pn0) hO ?_
  intro pX eX sX mX bX tX cX F hX
  refine ⟨[.val (.ref v), .val (.int 1), .unset, .unset, .unset, .unset, .unset, .unset, .unset], rfl, ?_⟩
  have hlen := A.len
  rw [u16_len] at hlen
  refine Run.iconst F d23_0 (z := 0) rfl ?_
  refine Run.istoreN F d23_1 rfl ?_
  dsimp only [List.set]
  refine Run.iconst F d23_2 (z := 0) rfl ?_
  refine Run.istoreN F d23_3 rfl ?_
  dsimp only [List.set]
  refine Run.aloadN F d23_4 rfl rfl ?_
  refine Run.arrlen F A d23_5 ?_
  rw [u16_len]
  refine Run.iconst F d23_6 (z := 1) rfl ?_
  refine Run.ishr F d23_7 ?_
  rw [shr1 (by omega)]
  refine Run.istore F d23_8 rfl ?_
  dsimp only [List.set]
  refine Run.iload F d23_10 rfl ?_
  refine Run.iconst F d23_12 (z := 3) rfl ?_
  refine Run.imul F d23_13 ?_
  have e3 : Int32.ofNat (uns ps).length * 3 = Int32.ofNat ((uns ps).length * 3) := i32_mul (b := 3) (by omega) (by omega) (by omega)
  rw [e3]
  refine Run.newarray (aty := .byte) F (w39 hw) (i32_nn (by omega)) (i32_tn (by omega)) 6 (by omega) rfl (by decide) (by decide) d23_14 ?_
  intro h1 b hb K1 lt1 A1
  have hO1 : Old Z n0 h1 := hO.keep K1 all0
  have gb : n0 ≤ b := by rw [hb, ← hO.1]; exact hO.2.1
  have hvb : v ≠ b := by have := A.lt; omega
  refine Run.astore F d23_16 rfl rfl ?_
  dsimp only [List.set]
  refine Run.via (pcJ := 58) (fun h' k n Ls' L st => ∃ r : Nat, ∃ (dn rs : List Nat) (x6 x7 x8 : Slot) (ws : List Value), ps = dn ++ rs ∧ rs.length = r ∧ okSlot x6 = true ∧ okSlot x7 = true ∧ okSlot x8 = true ∧ k = 1 ∧ n = 6 ∧ Ls = Ls' ∧ Keep h1 h' [b] ∧ Old Z n0 h' ∧ ws.length = 3 * (uns ps).length ∧ Av Z h' b .byte ws ∧ L = [.val (.ref v), .val (.int 1), .val (.int (Int32.ofNat (w8s dn))), .val (.int (Int32.ofNat (uns dn).length)), .val (.int (Int32.ofNat (uns ps).length)), .val (.ref b), x6, x7, x8] ∧ st = []) ?_ ?_
  · rintro h' k n Ls' L st ⟨r, hI⟩
    refine Run.rec (fun r h' k n Ls' L st => ∃ (dn rs : List Nat) (x6 x7 x8 : Slot) (ws : List Value), ps = dn ++ rs ∧ rs.length = r ∧ okSlot x6 = true ∧ okSlot x7 = true ∧ okSlot x8 = true ∧ k = 1 ∧ n = 6 ∧ Ls = Ls' ∧ Keep h1 h' [b] ∧ Old Z n0 h' ∧ ws.length = 3 * (uns ps).length ∧ Av Z h' b .byte ws ∧ L = [.val (.ref v), .val (.int 1), .val (.int (Int32.ofNat (w8s dn))), .val (.int (Int32.ofNat (uns dn).length)), .val (.int (Int32.ofNat (uns ps).length)), .val (.ref b), x6, x7, x8] ∧ st = []) ?_ r _ _ _ _ _ _ hI
    rintro r h' k n Ls' L st ⟨dn, rs, x6, x7, x8, ws, hps, hr, hx6, hx7, hx8, rfl, rfl, rfl, K, OO, hws, A2, rfl, rfl⟩ ih
    have sl := w8s_le dn
    have hdl : (uns dn).length ≤ (uns ps).length := by rw [hps, uns_app, List.length_append]; omega
    rcases rs with _ | ⟨p, rs⟩
    · have e0 : (uns ps).length = (uns dn).length := by rw [hps, List.append_nil]
      have ew : w8s ps = w8s dn := by rw [hps, List.append_nil]
      refine Run.iloadN F d23_58 rfl ?_
      refine Run.iload F d23_59 rfl ?_
      refine Run.icmp_ge F d23_61 (t := 355) rfl (i32_ti (by omega)) (i32_ti (by omega)) (fun _ => ?_) (fun q => by omega)
      refine Run.iloadN F d23_355 rfl ?_
      refine Run.aload F d23_356 rfl rfl ?_
      refine Run.arrlen F A2 d23_358 ?_
      refine Run.icmp_ne F d23_359 (t := 365) rfl (i32_ti (by omega)) (i32_ti (by omega)) (fun q => ?_) (fun q => ?_)
      · refine Run.aload F d23_365 rfl rfl ?_
        refine Run.iloadN F d23_367 rfl ?_
        refine Run.callStatic F (w117 hw) (w118 hw) (w119 hw) (w120 hw) (c_ctT l Z n0 a0 hw b (w8s dn) ws h' Ls OO A2 (by omega) (by omega)) rfl pd17 rfl rfl rfl rfl (by decide) (by decide) rfl d23_368 ?_
        rintro _ h3 _ ⟨_, rfl, b2, ws2, rfl, K3, hl3, A3, rfl⟩ _ _
        exact Run.areturn F rfl rfl (by decide) (by decide) d23_371 ⟨b2, ws2, rfl, (K1.trans K (allS (Or.inr (by omega)) all0)).trans K3 all0, by omega, A3, rfl⟩
      · refine Run.aload F d23_362 rfl rfl ?_
        exact Run.areturn F rfl rfl (by decide) (by decide) d23_364 ⟨b, ws, rfl, K1.trans K (allS (Or.inr (by omega)) all0), by omega, A2, rfl⟩
    · have hp : okP p := hok p (by rw [hps]; simp)
      have hsp := uns_split hps
      have hnp := nu_pos p
      have hw8 := w8_le p
      have hev := ev_rng hp
      have hc0 := uns_at hps
      have hg0 := u16_get hc0
      have e6 := i32_ti (i := evN p) (by omega)
      have A' : Av Z h' v .byte (u16 (uns ps)) := (A.keep K1 nin0).keep K (ninN hvb nin0)
      refine Run.iloadN F d23_58 rfl ?_
      refine Run.iload F d23_59 rfl ?_
      refine Run.icmp_ge F d23_61 (t := 355) rfl (i32_ti (by omega)) (i32_ti (by omega)) (fun q => by omega) (fun _ => ?_)
      refine Run.aloadN F d23_64 rfl rfl ?_
      refine Run.iloadN F d23_65 rfl ?_
      refine Run.iinc F d23_66 (z := 1) rfl rfl ?_
      dsimp only [List.set]
      simp only [Jvm.Free.XT.succ32]
      refine Run.callStatic F (w99 hw) (w60 hw) (w37 hw) (w61 hw) (c_getChar l Z n0 a0 hw v (uns dn).length (Int32.ofNat (evN p)) (u16 (uns ps)) UA UH UL h' Ls OO A' hg0.1 hg0.2 (by omega) (by omega)) rfl pd8 rfl rfl rfl rfl (by decide) (by decide) rfl d23_69 ?_
      rintro _ _ _ ⟨_, rfl, rfl, rfl, rfl⟩ _ _
      refine Run.istore F d23_72 (by simp [hx6]) ?_
      dsimp only [List.set]
      refine Run.iload F d23_74 rfl ?_
      refine Run.sipush F d23_76 (z := 128) rfl ?_
      refine Run.icmp_ge F d23_79 (t := 95) rfl e6 (yi := 128) rfl (fun q => ?_) (fun q => ?_)
      rotate_left
      · have hp1 : p < 128 := by
          by_cases z : p < 65536
          · rw [ev1 z] at q; omega
          · have hh := hi_rng hp (by omega)
            rw [ev2 (by omega)] at q; omega
        have hw1 : u8n p = 1 := if_pos hp1
        have hn1 : nu p = 1 := nu1 (by omega)
        refine Run.aload F d23_82 rfl rfl ?_
        refine Run.iloadN F d23_84 rfl ?_
        refine Run.iinc F d23_85 (z := 1) rfl rfl ?_
        dsimp only [List.set]
        refine Run.iload F d23_88 rfl ?_
        refine Run.i2b F d23_90 ?_
        simp only [Jvm.Free.XT.succ32]
        refine Run.bastore F A2 gb (i32_nn (by omega)) (i32_tn (by omega)) (by omega) (narB _) d23_91 ?_
        intro h3 W3 K3 s3 B3
        have O3 := OO.wr W3 gb
        obtain ⟨ws3, hws3, A3⟩ := Av.setAny B3 hws
        have KK3 := K.trans K3 (allS (Or.inl mem1) all0)
        refine Run.goto F d23_92 (t := 352) rfl ?_
        refine Run.goto F d23_352 (t := 58) rfl ?_
        have ed : w8s (dn ++ [p]) = w8s dn + 1 := by rw [w8s_snoc]; omega
        have es : (uns (dn ++ [p])).length = (uns dn).length + 1 := by rw [uns_snoc]; omega
        refine ih rs.length _ _ _ _ _ _ (by rw [← hr]; simp) ⟨dn ++ [p], rs, .val (.int (Int32.ofNat (evN p))), x7, x8, ws3, by rw [hps]; simp, rfl, rfl, hx7, hx8, rfl, rfl, rfl, KK3, O3, hws3, A3, by rw [ed, es], rfl⟩
      refine Run.iload F d23_95 rfl ?_
      refine Run.sipush F d23_97 (z := 2048) rfl ?_
      refine Run.icmp_ge F d23_100 (t := 140) rfl e6 (yi := 2048) rfl (fun q2 => ?_) (fun q2 => ?_)
      rotate_left
      · have hp2 : p < 2048 ∧ 128 ≤ p := by
          by_cases z : p < 65536
          · rw [ev1 z] at q q2; omega
          · have hh := hi_rng hp (by omega)
            rw [ev2 (by omega)] at q2; omega
        have hw1 : u8n p = 2 := by unfold u8n; rw [if_neg (by omega), if_pos (by omega)]
        have hn1 : nu p = 1 := nu1 (by omega)
        refine Run.aload F d23_103 rfl rfl ?_
        refine Run.iloadN F d23_105 rfl ?_
        refine Run.iinc F d23_106 (z := 1) rfl rfl ?_
        dsimp only [List.set]
        refine Run.sipush F d23_109 (z := 192) rfl ?_
        refine Run.iload F d23_112 rfl ?_
        refine Run.bipush F d23_114 (z := 6) rfl ?_
        refine Run.ishr F d23_116 ?_
        refine Run.ior F d23_117 ?_
        refine Run.i2b F d23_118 ?_
        simp only [Jvm.Free.XT.succ32]
        refine Run.bastore F A2 gb (i32_nn (by omega)) (i32_tn (by omega)) (by omega) (narB _) d23_119 ?_
        intro h3 W3 K3 s3 B3
        have O3 := OO.wr W3 gb
        obtain ⟨ws3, hws3, A3⟩ := Av.setAny B3 hws
        have KK3 := K.trans K3 (allS (Or.inl mem1) all0)
        refine Run.aload F d23_120 rfl rfl ?_
        refine Run.iloadN F d23_122 rfl ?_
        refine Run.iinc F d23_123 (z := 1) rfl rfl ?_
        dsimp only [List.set]
        refine Run.sipush F d23_126 (z := 128) rfl ?_
        refine Run.iload F d23_129 rfl ?_
        refine Run.bipush F d23_131 (z := 63) rfl ?_
        refine Run.iand F d23_133 ?_
        refine Run.ior F d23_134 ?_
        refine Run.i2b F d23_135 ?_
        simp only [Jvm.Free.XT.succ32]
        refine Run.bastore F A3 gb (i32_nn (by omega)) (i32_tn (by omega)) (by omega) (narB _) d23_136 ?_
        intro h4 W4 K4 s4 B4
        have O4 := O3.wr W4 gb
        obtain ⟨ws4, hws4, A4⟩ := Av.setAny B4 hws3
        have KK4 := KK3.trans K4 (allS (Or.inl mem1) all0)
        refine Run.goto F d23_137 (t := 352) rfl ?_
        refine Run.goto F d23_352 (t := 58) rfl ?_
        have ed : w8s (dn ++ [p]) = w8s dn + 1 + 1 := by rw [w8s_snoc]; omega
        have es : (uns (dn ++ [p])).length = (uns dn).length + 1 := by rw [uns_snoc]; omega
        refine ih rs.length _ _ _ _ _ _ (by rw [← hr]; simp) ⟨dn ++ [p], rs, .val (.int (Int32.ofNat (evN p))), x7, x8, ws4, by rw [hps]; simp, rfl, rfl, hx7, hx8, rfl, rfl, rfl, KK4, O4, hws4, A4, by rw [ed, es], rfl⟩
      refine Run.iload F d23_140 rfl ?_
      refine Run.callStatic F (w100 hw) (w101 hw) (w102 hw) (w103 hw) (c_isSur l Z n0 a0 hw (Int32.ofNat (evN p)) h' Ls OO) rfl pd32 rfl rfl rfl rfl (by decide) (by decide) rfl d23_142 ?_
      rintro _ _ _ ⟨_, rfl, rfl, rfl, rfl⟩ _ _
      refine Run.ifB_eq F d23_145 (t := 298) rfl (fun q3 => ?_) (fun q3 => ?_)
      · have z : p < 65536 ∧ 2048 ≤ p := by
          have n1 := of_decide_eq_false q3
          rw [e6] at n1
          by_cases z : p < 65536
          · rw [ev1 z] at q2; omega
          · exfalso
            have hh := hi_rng hp (by omega)
            rw [ev2 (by omega)] at n1; omega
        have hw1 : u8n p = 3 := by unfold u8n; rw [if_neg (by omega), if_neg (by omega), if_pos (by omega)]
        have hn1 : nu p = 1 := nu1 (by omega)
        refine Run.aload F d23_298 rfl rfl ?_
        refine Run.iloadN F d23_300 rfl ?_
        refine Run.iinc F d23_301 (z := 1) rfl rfl ?_
        dsimp only [List.set]
        refine Run.sipush F d23_304 (z := 224) rfl ?_
        refine Run.iload F d23_307 rfl ?_
        refine Run.bipush F d23_309 (z := 12) rfl ?_
        refine Run.ishr F d23_311 ?_
        refine Run.ior F d23_312 ?_
        refine Run.i2b F d23_313 ?_
        simp only [Jvm.Free.XT.succ32]
        refine Run.bastore F A2 gb (i32_nn (by omega)) (i32_tn (by omega)) (by omega) (narB _) d23_314 ?_
        intro h3 W3 K3 s3 B3
        have O3 := OO.wr W3 gb
        obtain ⟨ws3, hws3, A3⟩ := Av.setAny B3 hws
        have KK3 := K.trans K3 (allS (Or.inl mem1) all0)
        refine Run.aload F d23_315 rfl rfl ?_
        refine Run.iloadN F d23_317 rfl ?_
        refine Run.iinc F d23_318 (z := 1) rfl rfl ?_
        dsimp only [List.set]
        refine Run.sipush F d23_321 (z := 128) rfl ?_
        refine Run.iload F d23_324 rfl ?_
        refine Run.bipush F d23_326 (z := 6) rfl ?_
        refine Run.ishr F d23_328 ?_
        refine Run.bipush F d23_329 (z := 63) rfl ?_
        refine Run.iand F d23_331 ?_
        refine Run.ior F d23_332 ?_
        refine Run.i2b F d23_333 ?_
        simp only [Jvm.Free.XT.succ32]
        refine Run.bastore F A3 gb (i32_nn (by omega)) (i32_tn (by omega)) (by omega) (narB _) d23_334 ?_
        intro h4 W4 K4 s4 B4
        have O4 := O3.wr W4 gb
        obtain ⟨ws4, hws4, A4⟩ := Av.setAny B4 hws3
        have KK4 := KK3.trans K4 (allS (Or.inl mem1) all0)
        refine Run.aload F d23_335 rfl rfl ?_
        refine Run.iloadN F d23_337 rfl ?_
        refine Run.iinc F d23_338 (z := 1) rfl rfl ?_
        dsimp only [List.set]
        refine Run.sipush F d23_341 (z := 128) rfl ?_
        refine Run.iload F d23_344 rfl ?_
        refine Run.bipush F d23_346 (z := 63) rfl ?_
        refine Run.iand F d23_348 ?_
        refine Run.ior F d23_349 ?_
        refine Run.i2b F d23_350 ?_
        simp only [Jvm.Free.XT.succ32]
        refine Run.bastore F A4 gb (i32_nn (by omega)) (i32_tn (by omega)) (by omega) (narB _) d23_351 ?_
        intro h5 W5 K5 s5 B5
        have O5 := O4.wr W5 gb
        obtain ⟨ws5, hws5, A5⟩ := Av.setAny B5 hws4
        have KK5 := KK4.trans K5 (allS (Or.inl mem1) all0)
        refine Run.goto F d23_352 (t := 58) rfl ?_
        have ed : w8s (dn ++ [p]) = w8s dn + 1 + 1 + 1 := by rw [w8s_snoc]; omega
        have es : (uns (dn ++ [p])).length = (uns dn).length + 1 := by rw [uns_snoc]; omega
        refine ih rs.length _ _ _ _ _ _ (by rw [← hr]; simp) ⟨dn ++ [p], rs, .val (.int (Int32.ofNat (evN p))), x7, x8, ws5, by rw [hps]; simp, rfl, rfl, hx7, hx8, rfl, rfl, rfl, KK5, O5, hws5, A5, by rw [ed, es], rfl⟩
      · have z : 65536 ≤ p := by
          have n1 := of_decide_eq_true q3
          rw [e6] at n1
          by_cases z : p < 65536
          · exfalso
            have hh := hp.2
            rw [ev1 z] at n1; omega
          · omega
        have hw1 : u8n p = 4 := by unfold u8n; rw [if_neg (by omega), if_neg (by omega), if_neg (by omega)]
        have hn1 : nu p = 2 := nu2 z
        have hh := hi_rng hp z
        have hl := lo_rng p
        have hp9 := hp.1
        have ee := ev2 z
        have hc1 := uns_at2 hps z
        have hg1 := u16_get hc1
        have e8 := i32_ti (i := loP p) (by omega)
        refine Run.iconst F d23_148 (z := -1) (by decide) ?_
        refine Run.istore F d23_149 (by simp [hx7]) ?_
        dsimp only [List.set]
        refine Run.iload F d23_151 rfl ?_
        refine Run.callStatic F (w106 hw) (w107 hw) (w102 hw) (w108 hw) (c_isHigh l Z n0 a0 hw (Int32.ofNat (evN p)) h' Ls OO) rfl pd32 rfl rfl rfl rfl (by decide) (by decide) rfl d23_153 ?_
        rintro _ _ _ ⟨_, rfl, rfl, rfl, rfl⟩ _ _
        refine Run.ifB_eq F d23_156 (t := 188) rfl (fun q4 => absurd (of_decide_eq_false q4) (by omega)) (fun _ => ?_)
        refine Run.iloadN F d23_159 rfl ?_
        refine Run.iload F d23_160 rfl ?_
        refine Run.icmp_ge F d23_162 (t := 188) rfl (i32_ti (by omega)) (i32_ti (by omega)) (fun q => by omega) (fun _ => ?_)
        refine Run.aloadN F d23_165 rfl rfl ?_
        refine Run.iloadN F d23_166 rfl ?_
        refine Run.callStatic F (w99 hw) (w60 hw) (w37 hw) (w61 hw) (c_getChar l Z n0 a0 hw v ((uns dn).length + 1) (Int32.ofNat (loP p)) (u16 (uns ps)) UA UH UL h' Ls OO A' hg1.1 hg1.2 (by omega) (by omega)) rfl pd8 rfl rfl rfl rfl (by decide) (by decide) rfl d23_167 ?_
        rintro _ _ _ ⟨_, rfl, rfl, rfl, rfl⟩ _ _
        refine Run.dup F d23_170 rfl ?_
        refine Run.istore F d23_171 (by simp [hx8]) ?_
        dsimp only [List.set]
        refine Run.callStatic F (w110 hw) (w111 hw) (w102 hw) (w112 hw) (c_isLow l Z n0 a0 hw (Int32.ofNat (loP p)) h' Ls OO) rfl pd32 rfl rfl rfl rfl (by decide) (by decide) rfl d23_173 ?_
        rintro _ _ _ ⟨_, rfl, rfl, rfl, rfl⟩ _ _
        refine Run.ifB_eq F d23_176 (t := 188) rfl (fun q4 => absurd (of_decide_eq_false q4) (by omega)) (fun _ => ?_)
        refine Run.iload F d23_179 rfl ?_
        refine Run.iload F d23_181 rfl ?_
        rw [ee]
        refine Run.callStatic F (w113 hw) (w114 hw) (w102 hw) (w115 hw) (c_toCP l Z n0 a0 hw p h' Ls OO hp z) rfl pd33 rfl rfl rfl rfl (by decide) (by decide) rfl d23_183 ?_
        rintro _ _ _ ⟨_, rfl, rfl, rfl, rfl⟩ _ _
        rw [← ee]
        refine Run.istore F d23_186 rfl ?_
        dsimp only [List.set]
        refine Run.iload F d23_188 rfl ?_
        refine Run.if_ge F d23_190 (t := 218) rfl (i32_ti (by omega)) (fun _ => ?_) (fun q => by omega)
        refine Run.aload F d23_218 rfl rfl ?_
        refine Run.iloadN F d23_220 rfl ?_
        refine Run.iinc F d23_221 (z := 1) rfl rfl ?_
        dsimp only [List.set]
        refine Run.sipush F d23_224 (z := 240) rfl ?_
        refine Run.iload F d23_227 rfl ?_
        refine Run.bipush F d23_229 (z := 18) rfl ?_
        refine Run.ishr F d23_231 ?_
        refine Run.ior F d23_232 ?_
        refine Run.i2b F d23_233 ?_
        simp only [Jvm.Free.XT.succ32]
        refine Run.bastore F A2 gb (i32_nn (by omega)) (i32_tn (by omega)) (by omega) (narB _) d23_234 ?_
        intro h3 W3 K3 s3 B3
        have O3 := OO.wr W3 gb
        obtain ⟨ws3, hws3, A3⟩ := Av.setAny B3 hws
        have KK3 := K.trans K3 (allS (Or.inl mem1) all0)
        refine Run.aload F d23_235 rfl rfl ?_
        refine Run.iloadN F d23_237 rfl ?_
        refine Run.iinc F d23_238 (z := 1) rfl rfl ?_
        dsimp only [List.set]
        refine Run.sipush F d23_241 (z := 128) rfl ?_
        refine Run.iload F d23_244 rfl ?_
        refine Run.bipush F d23_246 (z := 12) rfl ?_
        refine Run.ishr F d23_248 ?_
        refine Run.bipush F d23_249 (z := 63) rfl ?_
        refine Run.iand F d23_251 ?_
        refine Run.ior F d23_252 ?_
        refine Run.i2b F d23_253 ?_
        simp only [Jvm.Free.XT.succ32]
        refine Run.bastore F A3 gb (i32_nn (by omega)) (i32_tn (by omega)) (by omega) (narB _) d23_254 ?_
        intro h4 W4 K4 s4 B4
        have O4 := O3.wr W4 gb
        obtain ⟨ws4, hws4, A4⟩ := Av.setAny B4 hws3
        have KK4 := KK3.trans K4 (allS (Or.inl mem1) all0)
        refine Run.aload F d23_255 rfl rfl ?_
        refine Run.iloadN F d23_257 rfl ?_
        refine Run.iinc F d23_258 (z := 1) rfl rfl ?_
        dsimp only [List.set]
        refine Run.sipush F d23_261 (z := 128) rfl ?_
        refine Run.iload F d23_264 rfl ?_
        refine Run.bipush F d23_266 (z := 6) rfl ?_
        refine Run.ishr F d23_268 ?_
        refine Run.bipush F d23_269 (z := 63) rfl ?_
        refine Run.iand F d23_271 ?_
        refine Run.ior F d23_272 ?_
        refine Run.i2b F d23_273 ?_
        simp only [Jvm.Free.XT.succ32]
        refine Run.bastore F A4 gb (i32_nn (by omega)) (i32_tn (by omega)) (by omega) (narB _) d23_274 ?_
        intro h5 W5 K5 s5 B5
        have O5 := O4.wr W5 gb
        obtain ⟨ws5, hws5, A5⟩ := Av.setAny B5 hws4
        have KK5 := KK4.trans K5 (allS (Or.inl mem1) all0)
        refine Run.aload F d23_275 rfl rfl ?_
        refine Run.iloadN F d23_277 rfl ?_
        refine Run.iinc F d23_278 (z := 1) rfl rfl ?_
        dsimp only [List.set]
        refine Run.sipush F d23_281 (z := 128) rfl ?_
        refine Run.iload F d23_284 rfl ?_
        refine Run.bipush F d23_286 (z := 63) rfl ?_
        refine Run.iand F d23_288 ?_
        refine Run.ior F d23_289 ?_
        refine Run.i2b F d23_290 ?_
        simp only [Jvm.Free.XT.succ32]
        refine Run.bastore F A5 gb (i32_nn (by omega)) (i32_tn (by omega)) (by omega) (narB _) d23_291 ?_
        intro h6 W6 K6 s6 B6
        have O6 := O5.wr W6 gb
        obtain ⟨ws6, hws6, A6⟩ := Av.setAny B6 hws5
        have KK6 := KK5.trans K6 (allS (Or.inl mem1) all0)
        refine Run.iinc F d23_292 (z := 1) rfl rfl ?_
        dsimp only [List.set]
        refine Run.goto F d23_295 (t := 352) rfl ?_
        refine Run.goto F d23_352 (t := 58) rfl ?_
        simp only [Jvm.Free.XT.succ32]
        have ed : w8s (dn ++ [p]) = w8s dn + 1 + 1 + 1 + 1 := by rw [w8s_snoc]; omega
        have es : (uns (dn ++ [p])).length = (uns dn).length + 1 + 1 := by rw [uns_snoc]; omega
        refine ih rs.length _ _ _ _ _ _ (by rw [← hr]; simp) ⟨dn ++ [p], rs, .val (.int (Int32.ofNat (evN p))), .val (.int (Int32.ofNat p)), .val (.int (Int32.ofNat (loP p))), ws6, by rw [hps]; simp, rfl, rfl, rfl, rfl, rfl, rfl, rfl, KK6, O6, hws6, A6, by rw [ed, es], rfl⟩
  · intro JJ
    refine Run.rec (fun r h' k n Ls' L st => ∃ (dn rs : List Nat) (x6 x7 x8 : Slot) (ws : List Value), ps = dn ++ rs ∧ rs.length = r ∧ okSlot x6 = true ∧ okSlot x7 = true ∧ okSlot x8 = true ∧ k = 1 ∧ n = 6 ∧ Ls = Ls' ∧ Keep h1 h' [b] ∧ Old Z n0 h' ∧ ws.length = 3 * (uns ps).length ∧ Av Z h' b .byte ws ∧ L = [.val (.ref v), .val (.int 1), .val (.int (Int32.ofNat (w8s dn))), .val (.int (Int32.ofNat (uns dn).length)), .val (.int (Int32.ofNat (uns ps).length)), .val (.ref b), x6, x7, x8] ∧ st = []) ?_ ps.length _ _ _ _ _ _ ⟨[], ps, .unset, .unset, .unset, List.replicate ((uns ps).length * 3) (.int 0), rfl, rfl, rfl, rfl, rfl, rfl, rfl, rfl, Keep.refl _ _, hO1, by rw [List.length_replicate]; omega, A1, rfl, rfl⟩
    rintro r h' k n Ls' L st ⟨dn, rs, x6, x7, x8, ws, hps, hr, hx6, hx7, hx8, rfl, rfl, rfl, K, OO, hws, A2, rfl, rfl⟩ ih
    have sl := w8s_le dn
    have hdl : (uns dn).length ≤ (uns ps).length := by rw [hps, uns_app, List.length_append]; omega
    rcases rs with _ | ⟨p, rs⟩
    · have e0 : (uns ps).length = (uns dn).length := by rw [hps, List.append_nil]
      refine Run.iloadN F d23_18 rfl ?_
      refine Run.iload F d23_19 rfl ?_
      refine Run.icmp_ge F d23_21 (t := 58) rfl (i32_ti (by omega)) (i32_ti (by omega)) (fun _ => ?_) (fun q => by omega)
      exact JJ _ _ _ _ _ _ ⟨r, dn, [], x6, x7, x8, ws, hps, hr, hx6, hx7, hx8, rfl, rfl, rfl, K, OO, hws, A2, rfl, rfl⟩
    · have hp : okP p := hok p (by rw [hps]; simp)
      have hsp := uns_split hps
      have hnp := nu_pos p
      have hw8 := w8_le p
      have hev := ev_rng hp
      have hc0 := uns_at hps
      have hg0 := u16_get hc0
      have e6 := i32_ti (i := evN p) (by omega)
      have A' : Av Z h' v .byte (u16 (uns ps)) := (A.keep K1 nin0).keep K (ninN hvb nin0)
      refine Run.iloadN F d23_18 rfl ?_
      refine Run.iload F d23_19 rfl ?_
      refine Run.icmp_ge F d23_21 (t := 58) rfl (i32_ti (by omega)) (i32_ti (by omega)) (fun q => by omega) (fun _ => ?_)
      refine Run.aloadN F d23_24 rfl rfl ?_
      refine Run.iloadN F d23_25 rfl ?_
      refine Run.callStatic F (w99 hw) (w60 hw) (w37 hw) (w61 hw) (c_getChar l Z n0 a0 hw v (uns dn).length (Int32.ofNat (evN p)) (u16 (uns ps)) UA UH UL h' Ls OO A' hg0.1 hg0.2 (by omega) (by omega)) rfl pd8 rfl rfl rfl rfl (by decide) (by decide) rfl d23_26 ?_
      rintro _ _ _ ⟨_, rfl, rfl, rfl, rfl⟩ _ _
      refine Run.istore F d23_29 (by simp [hx6]) ?_
      dsimp only [List.set]
      refine Run.iload F d23_31 rfl ?_
      refine Run.sipush F d23_33 (z := 128) rfl ?_
      refine Run.icmp_lt F d23_36 (t := 42) rfl e6 (yi := 128) rfl (fun q => ?_) (fun q => ?_)
      · have hp1 : p < 128 := by
          by_cases z : p < 65536
          · rw [ev1 z] at q; omega
          · have hh := hi_rng hp (by omega)
            rw [ev2 (by omega)] at q; omega
        have hw1 : u8n p = 1 := if_pos hp1
        have hn1 : nu p = 1 := nu1 (by omega)
        refine Run.aload F d23_42 rfl rfl ?_
        refine Run.iloadN F d23_44 rfl ?_
        refine Run.iinc F d23_45 (z := 1) rfl rfl ?_
        dsimp only [List.set]
        refine Run.iload F d23_48 rfl ?_
        refine Run.i2b F d23_50 ?_
        simp only [Jvm.Free.XT.succ32]
        refine Run.bastore F A2 gb (i32_nn (by omega)) (i32_tn (by omega)) (by omega) (narB _) d23_51 ?_
        intro h3 W3 K3 s3 B3
        have O3 := OO.wr W3 gb
        obtain ⟨ws3, hws3, A3⟩ := Av.setAny B3 hws
        have KK3 := K.trans K3 (allS (Or.inl mem1) all0)
        refine Run.iinc F d23_52 (z := 1) rfl rfl ?_
        dsimp only [List.set]
        refine Run.goto F d23_55 (t := 18) rfl ?_
        simp only [Jvm.Free.XT.succ32]
        have ed : w8s (dn ++ [p]) = w8s dn + 1 := by rw [w8s_snoc]; omega
        have es : (uns (dn ++ [p])).length = (uns dn).length + 1 := by rw [uns_snoc]; omega
        refine ih rs.length _ _ _ _ _ _ (by rw [← hr]; simp) ⟨dn ++ [p], rs, .val (.int (Int32.ofNat (evN p))), x7, x8, ws3, by rw [hps]; simp, rfl, rfl, hx7, hx8, rfl, rfl, rfl, KK3, O3, hws3, A3, by rw [ed, es], rfl⟩
      · refine Run.goto F d23_39 (t := 58) rfl ?_
        exact JJ _ _ _ _ _ _ ⟨r, dn, p :: rs, .val (.int (Int32.ofNat (evN p))), x7, x8, ws, hps, hr, rfl, hx7, hx8, rfl, rfl, rfl, K, OO, hws, A2, rfl, rfl⟩
theorem c_eu8T (hw : HW Z a0) (v : Nat) (co : Int32) (ps : List Nat) (UA : uA Z) (UH : uH Z) (UL : uL Z) (h : Heap) (Ls : Lits) (hO : Old Z n0 h) (hco : co = coOf (uns ps)) (A : Av Z h v .byte (byOf (uns ps))) (E : Exa Z h v "[B") (hok : ∀ p ∈ ps, okP p) (hN : (uns ps).length ≤ 2) :
    Con l Z n0 (⟨"java/lang/String", "encodeUTF8", "(B[BZ)[B"⟩ : MethodName) jdk_42_method_46_code 9 (some (.array .byte)) ⟨3, 2, 12, 52⟩ [.int co, .ref v, .int 1] h Ls [] (RV fun w h' Ls' => ∃ (b : Nat) (ws : List Value), w = .ref b ∧ Keep h h' [] ∧ ws.length = w8s ps ∧ Av Z h' b .byte ws ∧ Ls = Ls') := by
  refine Con.of_run (plainFor_of_name pn0) hO ?_
  intro pX eX sX mX bX tX cX F hX
  refine ⟨[.val (.int co), .val (.ref v), .val (.int 1), .unset, .unset, .unset, .unset, .unset, .unset], rfl, ?_⟩
  have hcs := uns_rng hok
  cases hl : lat (uns ps)
  · have e1 : co = 1 := by rw [hco, coOf, hl]; rfl
    have e2 : byOf (uns ps) = u16 (uns ps) := by rw [byOf, hl]; rfl
    rw [e2] at A
    subst e1
    refine Run.iloadN F d22_0 rfl ?_
    refine Run.iconst F d22_1 (z := 1) rfl ?_
    refine Run.icmpNo F d22_2 rfl ?_
    refine Run.aloadN F d22_5 rfl rfl ?_
    refine Run.iloadN F d22_6 rfl ?_
    refine Run.callStatic F (w96 hw) (w97 hw) (w23 hw) (w98 hw) (c_e16T l Z n0 a0 hw v ps UA UH UL h Ls hO A hok hN) rfl pd34 rfl rfl rfl rfl (by decide) (by decide) rfl d22_7 ?_
    rintro _ h1 _ ⟨_, rfl, b, ws, rfl, K1, hl1, A1, rfl⟩ _ _
    exact Run.areturn F rfl rfl (by decide) (by decide) d22_10 ⟨b, ws, rfl, K1, hl1, A1, rfl⟩
  · have e1 : co = 0 := by rw [hco, coOf, hl]; rfl
    have e2 : byOf (uns ps) = (uns ps).map lb := by rw [byOf, hl]; rfl
    rw [e2] at A
    subst e1
    have h8 : ∀ c ∈ uns ps, 0 ≤ c.toInt ∧ c.toInt < 256 := lat_lt (by rw [hl]; rfl) hcs
    have ew := w8s_lat hok hl
    refine Run.iloadN F d22_0 rfl ?_
    refine Run.iconst F d22_1 (z := 1) rfl ?_
    refine Run.icmpYes F d22_2 (t := 11) rfl rfl ?_
    refine Run.aloadN F d22_11 rfl rfl ?_
    refine Run.iconst F d22_12 (z := 0) rfl ?_
    refine Run.aloadN F d22_13 rfl rfl ?_
    refine Run.arrlen F A d22_14 ?_
    rw [List.length_map]
    refine Run.callStatic F (w129 hw) (w130 hw) (w131 hw) (w132 hw) (c_hasNeg l Z n0 a0 hw v (uns ps) h Ls hO A h8) rfl pd35 rfl rfl rfl rfl (by decide) (by decide) rfl d22_15 ?_
    rintro _ _ _ ⟨_, rfl, bb, rfl, hbb, rfl, rfl⟩ _ _
    refine Run.ifB_ne F d22_18 (t := 29) rfl (fun _ => ?_) (fun q => ?_)
    rotate_left
    · have ha := hbb q
      refine Run.aloadN F d22_21 rfl rfl ?_
      refine Run.clone F (w136 hw) (w137 hw) (w141 hw) (w139 hw) (w140 hw) (w142 hw) A E rfl rfl rfl 2 (by rw [List.length_map]; omega) (by decide) (by decide) d22_22 ?_
      intro h1 b hb K1 A1 E1
      refine Run.checkcast F (w143 hw) (Ins.of_exa E1 (w144 hw)) d22_25 ?_
      exact Run.areturn F rfl rfl (by decide) (by decide) d22_28 ⟨b, (uns ps).map lb, rfl, K1, by rw [List.length_map, ew, w8l_asc ha], A1, rfl⟩
    refine Run.iconst F d22_29 (z := 0) rfl ?_
    refine Run.istoreN F d22_30 rfl ?_
    dsimp only [List.set]
    refine Run.aloadN F d22_31 rfl rfl ?_
    refine Run.arrlen F A d22_32 ?_
    rw [List.length_map]
    refine Run.callStatic F (w423 hw) (w47 hw) (w37 hw) (w48 hw) (c_nbForT l Z n0 a0 hw (uns ps).length h Ls hO hN) rfl pd4 rfl rfl rfl rfl (by decide) (by decide) rfl d22_33 ?_
    rintro _ h1 _ ⟨_, rfl, b, rfl, K1, hb, E1, A1, rfl⟩ hO1 _
    have gb : n0 ≤ b := by rw [hb, ← hO.1]; exact hO.2.1
    have hvb : v ≠ b := by have := A.lt; omega
    refine Run.astore F d22_36 rfl rfl ?_
    dsimp only [List.set]
    refine Run.aloadN F d22_38 rfl rfl ?_
    refine Run.astore F d22_39 rfl rfl ?_
    dsimp only [List.set]
    refine Run.aload F d22_41 rfl rfl ?_
    refine Run.arrlen F (A.keep K1 nin0) d22_43 ?_
    rw [List.length_map]
    refine Run.istore F d22_44 rfl ?_
    dsimp only [List.set]
    refine Run.iconst F d22_46 (z := 0) rfl ?_
    refine Run.istore F d22_47 rfl ?_
    dsimp only [List.set]
    refine Run.rec (fun r h' k n Ls' L st => ∃ (i : Nat) (x8 : Slot) (ws : List Value), i + r = (uns ps).length ∧ okSlot x8 = true ∧ k = 1 ∧ n = 4 ∧ Ls = Ls' ∧ Keep h1 h' [b] ∧ Old Z n0 h' ∧ ws.length = 2 * (uns ps).length ∧ Av Z h' b .byte ws ∧ L = [.val (.int 0), .val (.ref v), .val (.int 1), .val (.int (Int32.ofNat (w8l ((uns ps).take i)))), .val (.ref b), .val (.ref v), .val (.int (Int32.ofNat (uns ps).length)), .val (.int (Int32.ofNat i)), x8] ∧ st = []) ?_ (uns ps).length _ _ _ _ _ _ ⟨0, .unset, List.replicate (2 * (uns ps).length) (.int 0), by omega, rfl, rfl, rfl, rfl, Keep.refl _ _, hO1, by rw [List.length_replicate], A1, rfl, rfl⟩
    rintro r h' k n Ls' L st ⟨i, x8, ws, hi, hx8, rfl, rfl, rfl, K, OO, hws, A2, rfl, rfl⟩ ih
    have hwl := w8l_le ((uns ps).take i)
    rw [List.length_take] at hwl
    refine Run.iload F d22_49 rfl ?_
    refine Run.iload F d22_51 rfl ?_
    refine Run.icmp_ge F d22_53 (t := 124) rfl (i32_ti (by omega)) (i32_ti (by omega)) (fun q => ?_) (fun q => ?_)
    · have hi' : i = (uns ps).length := by omega
      have et : w8l ((uns ps).take i) = w8s ps := by rw [hi', List.take_length, ew]
      refine Run.iloadN F d22_124 rfl ?_
      refine Run.aload F d22_125 rfl rfl ?_
      refine Run.arrlen F A2 d22_127 ?_
      refine Run.icmp_ne F d22_128 (t := 134) rfl (i32_ti (by omega)) (i32_ti (by omega)) (fun q => ?_) (fun q => ?_)
      · refine Run.aload F d22_134 rfl rfl ?_
        refine Run.iloadN F d22_136 rfl ?_
        refine Run.callStatic F (w117 hw) (w118 hw) (w119 hw) (w120 hw) (c_ctT l Z n0 a0 hw b (w8l ((uns ps).take i)) ws h' Ls OO A2 (by omega) (by omega)) rfl pd17 rfl rfl rfl rfl (by decide) (by decide) rfl d22_137 ?_
        rintro _ h3 _ ⟨_, rfl, b2, ws2, rfl, K3, hl3, A3, rfl⟩ _ _
        exact Run.areturn F rfl rfl (by decide) (by decide) d22_140 ⟨b2, ws2, rfl, (K1.trans K (allS (Or.inr (by omega)) all0)).trans K3 all0, by omega, A3, rfl⟩
      · refine Run.aload F d22_131 rfl rfl ?_
        exact Run.areturn F rfl rfl (by decide) (by decide) d22_133 ⟨b, ws, rfl, K1.trans K (allS (Or.inr (by omega)) all0), by omega, A2, rfl⟩
    · obtain ⟨c1, hc1⟩ : ∃ c1, (uns ps)[i]? = some c1 := ⟨_, List.getElem?_eq_getElem (by omega)⟩
      have hc2 := h8 c1 (List.mem_of_getElem? hc1)
      have hc3 := c_i2b c1
      have ht := u8_take hc1
      refine Run.aload F d22_56 rfl rfl ?_
      refine Run.iload F d22_58 rfl ?_
      refine Run.baload F ((A.keep K1 nin0).keep K (ninN hvb nin0)) (i32_nn (by omega)) (i32_tn (by omega)) (lb_get hc1) d22_60 ?_
      refine Run.istore F d22_61 (by simp [hx8]) ?_
      dsimp only [List.set]
      refine Run.iload F d22_63 rfl ?_
      refine Run.if_ge F d22_65 (t := 109) rfl rfl (fun q2 => ?_) (fun q2 => ?_)
      · rw [if_pos (by omega)] at ht
        refine Run.aload F d22_109 rfl rfl ?_
        refine Run.iloadN F d22_111 rfl ?_
        refine Run.iinc F d22_112 (z := 1) rfl rfl ?_
        dsimp only [List.set]
        refine Run.iload F d22_115 rfl ?_
        simp only [Jvm.Free.XT.succ32]
        refine Run.bastore F A2 gb (i32_nn (by omega)) (i32_tn (by omega)) (by omega) (narB c1) d22_117 ?_
        intro h3 W3 K3 s3 B3
        have O3 := OO.wr W3 gb
        obtain ⟨ws3, hws3, A3⟩ := Av.setAny B3 hws
        refine Run.iinc F d22_118 (z := 1) rfl rfl ?_
        dsimp only [List.set]
        refine Run.goto F d22_121 (t := 49) rfl ?_
        simp only [Jvm.Free.XT.succ32]
        exact ih (r - 1) _ _ _ _ _ _ (by omega) ⟨i + 1, .val (.int c1.toInt8.toInt32), ws3, by omega, rfl, rfl, rfl, rfl, K.trans K3 (allS (Or.inl mem1) all0), O3, hws3, A3, by rw [ht], rfl⟩
      · rw [if_neg (by omega)] at ht
        have ht2 : w8l ((uns ps).take (i + 1)) = w8l ((uns ps).take i) + 1 + 1 := by omega
        refine Run.aload F d22_68 rfl rfl ?_
        refine Run.iloadN F d22_70 rfl ?_
        refine Run.iinc F d22_71 (z := 1) rfl rfl ?_
        dsimp only [List.set]
        refine Run.sipush F d22_74 (z := 192) rfl ?_
        refine Run.iload F d22_77 rfl ?_
        refine Run.sipush F d22_79 (z := 255) rfl ?_
        refine Run.iand F d22_82 ?_
        refine Run.bipush F d22_83 (z := 6) rfl ?_
        refine Run.ishr F d22_85 ?_
        refine Run.ior F d22_86 ?_
        refine Run.i2b F d22_87 ?_
        simp only [Jvm.Free.XT.succ32]
        refine Run.bastore F A2 gb (i32_nn (by omega)) (i32_tn (by omega)) (by omega) (narB _) d22_88 ?_
        intro h3 W3 K3 s3 B3
        have O3 := OO.wr W3 gb
        obtain ⟨ws3, hws3, A3⟩ := Av.setAny B3 hws
        refine Run.aload F d22_89 rfl rfl ?_
        refine Run.iloadN F d22_91 rfl ?_
        refine Run.iinc F d22_92 (z := 1) rfl rfl ?_
        dsimp only [List.set]
        refine Run.sipush F d22_95 (z := 128) rfl ?_
        refine Run.iload F d22_98 rfl ?_
        refine Run.bipush F d22_100 (z := 63) rfl ?_
        refine Run.iand F d22_102 ?_
        refine Run.ior F d22_103 ?_
        refine Run.i2b F d22_104 ?_
        simp only [Jvm.Free.XT.succ32]
        refine Run.bastore F A3 gb (i32_nn (by omega)) (i32_tn (by omega)) (by omega) (narB _) d22_105 ?_
        intro h4 W4 K4 s4 B4
        have O4 := O3.wr W4 gb
        obtain ⟨ws4, hws4, A4⟩ := Av.setAny B4 hws3
        refine Run.goto F d22_106 (t := 118) rfl ?_
        refine Run.iinc F d22_118 (z := 1) rfl rfl ?_
        dsimp only [List.set]
        refine Run.goto F d22_121 (t := 49) rfl ?_
        simp only [Jvm.Free.XT.succ32]
        exact ih (r - 1) _ _ _ _ _ _ (by omega) ⟨i + 1, .val (.int c1.toInt8.toInt32), ws4, by omega, rfl, rfl, rfl, rfl, (K.trans K3 (allS (Or.inl mem1) all0)).trans K4 (allS (Or.inl mem1) all0), O4, hws4, A4, by rw [ht2], rfl⟩
theorem c_encT (hw : HW Z a0) (v : Nat) (co : Int32) (ps : List Nat) {u8 : Nat} (S8a : Sta Z Z.heap "java/nio/charset/StandardCharsets" "UTF_8" "Ljava/nio/charset/Charset;" (.ref u8)) (S8b : Sta Z Z.heap "sun/nio/cs/UTF_8" "INSTANCE" "Lsun/nio/cs/UTF_8;" (.ref u8)) (UA : uA Z) (UH : uH Z) (UL : uL Z) (h : Heap) (Ls : Lits) (hO : Old Z n0 h) (hco : co = coOf (uns ps)) (A : Av Z h v .byte (byOf (uns ps))) (E : Exa Z h v "[B") (hok : ∀ p ∈ ps, okP p) (hN : (uns ps).length ≤ 2) :
    Con l Z n0 (⟨"java/lang/String", "encode", "(Ljava/nio/charset/Charset;B[B)[B"⟩ : MethodName) jdk_42_method_18_code 3 (some (.array .byte)) ⟨4, 2, 12, 72⟩ [.ref u8, .int co, .ref v] h Ls [] (RV fun w h' Ls' => ∃ (b : Nat) (ws : List Value), w = .ref b ∧ Keep h h' [] ∧ ws.length = w8s ps ∧ Av Z h' b .byte ws ∧ Ls = Ls') := by
  refine Con.of_run (plainFor_of_name pn0) hO ?_
  intro pX eX sX mX bX tX cX F hX
  refine ⟨[.val (.ref u8), .val (.int co), .val (.ref v)], rfl, ?_⟩
  refine Run.aloadN F d21_0 rfl rfl ?_
  refine Run.getstatic F (w91 hw) Via.refl S8b d21_1 ?_
  refine Run.acmpNo F d21_4 (t := 14) rfl rfl rfl (b := true) (decide_eq_true rfl) rfl ?_
  refine Run.iloadN F d21_7 rfl ?_
  refine Run.aloadN F d21_8 rfl rfl ?_
  refine Run.iconst F d21_9 (z := 1) rfl ?_
  refine Run.callStatic F (w93 hw) (w94 hw) (w23 hw) (w95 hw) (c_eu8T l Z n0 a0 hw v co ps UA UH UL h Ls hO hco A E hok hN) rfl pd36 rfl rfl rfl rfl (by decide) (by decide) rfl d21_10 ?_
  rintro _ h1 _ ⟨_, rfl, b, ws, rfl, hq⟩ _ _
  exact Run.areturn F rfl rfl (by decide) (by decide) d21_13 ⟨b, ws, rfl, hq⟩
theorem c_gbT (hw : HW Z a0) (x b : Nat) (ps : List Nat) {cz : Int32} (SC : sC Z cz) (hcz : cz.toInt ≠ 0) {u8 : Nat} (S8a : Sta Z Z.heap "java/nio/charset/StandardCharsets" "UTF_8" "Ljava/nio/charset/Charset;" (.ref u8)) (S8b : Sta Z Z.heap "sun/nio/cs/UTF_8" "INSTANCE" "Lsun/nio/cs/UTF_8;" (.ref u8)) (UA : uA Z) (UH : uH Z) (UL : uL Z) (h : Heap) (Ls : Lits) (hO : Old Z n0 h) (S : Str Z h x b (coOf (uns ps)) (byOf (uns ps))) (E : Exa Z h b "[B") (hok : ∀ p ∈ ps, okP p) (hN : (uns ps).length ≤ 2) :
    Con l Z n0 (⟨"java/lang/String", "getBytes", "(Ljava/nio/charset/Charset;)[B"⟩ : MethodName) jdk_42_method_64_code 2 (some (.array .byte)) ⟨5, 2, 12, 86⟩ [.ref x, .ref u8] h Ls [] (RV fun w h' Ls' => ∃ (b : Nat) (ws : List Value), w = .ref b ∧ Keep h h' [] ∧ ws.length = w8s ps ∧ Av Z h' b .byte ws ∧ Ls = Ls') := by
  refine Con.of_run (plainFor_of_name pn0) hO ?_
  intro pX eX sX mX bX tX cX F hX
  refine ⟨[.val (.ref x), .val (.ref u8)], rfl, ?_⟩
  refine Run.aloadN F d19_0 rfl rfl ?_
  refine Run.ifnonnullYes F d19_1 (t := 12) rfl ?_
  refine Run.aloadN F d19_12 rfl rfl ?_
  refine Run.aloadN F d19_13 rfl rfl ?_
  refine Run.callVirtual F (w83 hw) (w84 hw) (nfs (w86 hw)) (w86 hw) (w85 hw) (w23 hw) (w87 hw) S.1 (c_coder l Z n0 a0 hw x (coOf (uns ps)) SC hcz h Ls hO S.2.1 (co8 _)) rfl pd0 rfl rfl rfl rfl (by decide) (by decide) rfl d19_14 ?_
  rintro _ _ _ ⟨_, rfl, rfl, rfl, rfl⟩ _ _
  refine Run.aloadN F d19_17 rfl rfl ?_
  refine Run.getfield F (host := "") (Or.inl (w67 hw)) Via.refl S.2.2.1 d19_18 ?_
  refine Run.callStatic F (w88 hw) (w89 hw) (w23 hw) (w90 hw) (c_encT l Z n0 a0 hw b (coOf (uns ps)) ps S8a S8b UA UH UL h Ls hO rfl S.2.2.2 E hok hN) rfl pd37 rfl rfl rfl rfl (by decide) (by decide) rfl d19_21 ?_
  rintro _ h1 _ ⟨_, rfl, b1, ws, rfl, hq⟩ _ _
  exact Run.areturn F rfl rfl (by decide) (by decide) d19_24 ⟨b1, ws, rfl, hq⟩
theorem c_u8lT (hw : HW Z a0) (x b : Nat) (ps : List Nat) {cz : Int32} (SC : sC Z cz) (hcz : cz.toInt ≠ 0) {u8 : Nat} (S8a : Sta Z Z.heap "java/nio/charset/StandardCharsets" "UTF_8" "Ljava/nio/charset/Charset;" (.ref u8)) (S8b : Sta Z Z.heap "sun/nio/cs/UTF_8" "INSTANCE" "Lsun/nio/cs/UTF_8;" (.ref u8)) (UA : uA Z) (UH : uH Z) (UL : uL Z) (h : Heap) (Ls : Lits) (hO : Old Z n0 h) (S : Str Z h x b (coOf (uns ps)) (byOf (uns ps))) (E : Exa Z h b "[B") (hok : ∀ p ∈ ps, okP p) (hN : (uns ps).length ≤ 2) :
    Con l Z n0 (⟨"com/example/earnest_orm/earnestorm/mapping/Identifiers", "utf8Length", "(Ljava/lang/String;)I"⟩ : MethodName) prog_5_method_7_code 1 (some .int) ⟨6, 2, 12, 99⟩ [.ref x] h Ls [] (RV fun w h' Ls' => w = .int (Int32.ofNat (w8s ps)) ∧ Keep h h' [] ∧ Ls = Ls') := by
  refine Con.of_run (plainFor_of_name pn10) hO ?_
  intro pX eX sX mX bX tX cX F hX
  refine ⟨[.val (.ref x)], rfl, ?_⟩
  refine Run.aloadN F d18_0 rfl rfl ?_
  refine Run.getstatic F (w76 hw) Via.refl S8a d18_1 ?_
  refine Run.callVirtual F (w78 hw) (w79 hw) (nfs (w81 hw)) (w81 hw) (w80 hw) (w23 hw) (w82 hw) S.1 (c_gbT l Z n0 a0 hw x b ps SC hcz S8a S8b UA UH UL h Ls hO S E hok hN) rfl pd38 rfl rfl rfl rfl (by decide) (by decide) rfl d18_4 ?_
  rintro _ h1 _ ⟨_, rfl, b1, ws, rfl, K1, hl1, A1, rfl⟩ _ _
  refine Run.arrlen F A1 d18_7 ?_
  rw [hl1]
  exact Run.ireturn F (by simp) rfl (by decide) (by decide) d18_8 ⟨rfl, K1, rfl⟩
theorem c_cp4 (hw : HW Z a0) (v : Nat) (ps dn rs : List Nat) (p : Nat) (UA : uA Z) (UH : uH Z) (UL : uL Z) (h : Heap) (Ls : Lits) (hO : Old Z n0 h) (A : Av Z h v .byte (u16 (uns ps))) (hps : ps = dn ++ p :: rs) (hp : okP p) (hN : (uns ps).length < 2 ^ 30) :
    Con l Z n0 (⟨"java/lang/StringUTF16", "codePointAt", "([BIIZ)I"⟩ : MethodName) jdk_52_method_7_code 6 (some .int) ⟨1, 0, 0, 13⟩ [.ref v, .int (Int32.ofNat (uns dn).length), .int (Int32.ofNat (uns ps).length), .int 0] h Ls [] (RV fun w h' Ls' => w = .int (Int32.ofNat p) ∧ h = h' ∧ Ls = Ls') := by
  refine Con.of_run (plainFor_of_name pn3) hO ?_
  intro pX eX sX mX bX tX cX F hX
  refine ⟨[.val (.ref v), .val (.int (Int32.ofNat (uns dn).length)), .val (.int (Int32.ofNat (uns ps).length)), .val (.int 0), .unset, .unset], rfl, ?_⟩
  have hp1 := hp.1
  have hsp := uns_split hps
  have hnp := nu_pos p
  have hev := ev_rng hp
  have hc0 := uns_at hps
  have hg0 := u16_get hc0
  have e6 := i32_ti (i := evN p) (by omega)
  refine Run.getstatic F (w56 hw) Via.refl UA d41_0 ?_
  refine Run.ifYes F d41_3 (t := 19) rfl rfl ?_
  refine Run.iloadN F d41_19 rfl ?_
  refine Run.ifYes F d41_20 (t := 28) rfl rfl ?_
  refine Run.aloadN F d41_28 rfl rfl ?_
  refine Run.iloadN F d41_29 rfl ?_
  refine Run.callStatic F (w59 hw) (w60 hw) (w37 hw) (w61 hw) (c_getChar l Z n0 a0 hw v (uns dn).length (Int32.ofNat (evN p)) (u16 (uns ps)) UA UH UL h Ls hO A hg0.1 hg0.2 (by omega) (by omega)) rfl pd8 rfl rfl rfl rfl (by decide) (by decide) rfl d41_30 ?_
  rintro _ _ _ ⟨_, rfl, rfl, rfl, rfl⟩ _ _
  refine Run.istore F d41_33 rfl ?_
  dsimp only [List.set]
  refine Run.iload F d41_35 rfl ?_
  refine Run.callStatic F (w195 hw) (w107 hw) (w102 hw) (w108 hw) (c_isHigh l Z n0 a0 hw (Int32.ofNat (evN p)) h Ls hO) rfl pd32 rfl rfl rfl rfl (by decide) (by decide) rfl d41_37 ?_
  rintro _ _ _ ⟨_, rfl, rfl, rfl, rfl⟩ _ _
  refine Run.ifB_eq F d41_40 (t := 83) rfl (fun q => ?_) (fun q => ?_)
  · have z : p < 65536 := by
      have n1 := of_decide_eq_false q
      rw [e6] at n1
      by_cases z : p < 65536
      · exact z
      · exfalso
        have hh := hi_rng hp (by omega)
        rw [ev2 (by omega)] at n1; omega
    refine Run.iload F d41_83 rfl ?_
    exact Run.ireturn F (by simp) rfl (by decide) (by decide) d41_85 ⟨by rw [ev1 z], rfl, rfl⟩
  · have z : 65536 ≤ p := by
      have n1 := of_decide_eq_true q
      rw [e6] at n1
      by_cases z : p < 65536
      · exfalso
        have hh := hp.2
        rw [ev1 z] at n1; omega
      · omega
    have hn2 := nu2 z
    have ee := ev2 z
    have hh := hi_rng hp z
    have hl := lo_rng p
    have hc1 := uns_at2 hps z
    have hg1 := u16_get hc1
    have e8 := i32_ti (i := loP p) (by omega)
    refine Run.iinc F d41_43 (z := 1) rfl rfl ?_
    dsimp only [List.set]
    refine Run.iloadN F d41_46 rfl ?_
    refine Run.iloadN F d41_47 rfl ?_
    simp only [Jvm.Free.XT.succ32]
    refine Run.icmp_ge F d41_48 (t := 83) rfl (i32_ti (by omega)) (i32_ti (by omega)) (fun q => by omega) (fun _ => ?_)
    refine Run.iloadN F d41_51 rfl ?_
    refine Run.ifYes F d41_52 (t := 60) rfl rfl ?_
    refine Run.aloadN F d41_60 rfl rfl ?_
    refine Run.iloadN F d41_61 rfl ?_
    refine Run.callStatic F (w59 hw) (w60 hw) (w37 hw) (w61 hw) (c_getChar l Z n0 a0 hw v ((uns dn).length + 1) (Int32.ofNat (loP p)) (u16 (uns ps)) UA UH UL h Ls hO A hg1.1 hg1.2 (by omega) (by omega)) rfl pd8 rfl rfl rfl rfl (by decide) (by decide) rfl d41_62 ?_
    rintro _ _ _ ⟨_, rfl, rfl, rfl, rfl⟩ _ _
    refine Run.istore F d41_65 rfl ?_
    dsimp only [List.set]
    refine Run.iload F d41_67 rfl ?_
    refine Run.callStatic F (w196 hw) (w111 hw) (w102 hw) (w112 hw) (c_isLow l Z n0 a0 hw (Int32.ofNat (loP p)) h Ls hO) rfl pd32 rfl rfl rfl rfl (by decide) (by decide) rfl d41_69 ?_
    rintro _ _ _ ⟨_, rfl, rfl, rfl, rfl⟩ _ _
    refine Run.ifB_eq F d41_72 (t := 83) rfl (fun q4 => absurd (of_decide_eq_false q4) (by omega)) (fun _ => ?_)
    refine Run.iload F d41_75 rfl ?_
    refine Run.iload F d41_77 rfl ?_
    rw [ee]
    refine Run.callStatic F (w197 hw) (w114 hw) (w102 hw) (w115 hw) (c_toCP l Z n0 a0 hw p h Ls hO hp z) rfl pd33 rfl rfl rfl rfl (by decide) (by decide) rfl d41_79 ?_
    rintro _ _ _ ⟨_, rfl, rfl, rfl, rfl⟩ _ _
    exact Run.ireturn F (by simp) rfl (by decide) (by decide) d41_82 ⟨rfl, rfl, rfl⟩
theorem c_cp3 (hw : HW Z a0) (v : Nat) (ps dn rs : List Nat) (p : Nat) (UA : uA Z) (UH : uH Z) (UL : uL Z) (h : Heap) (Ls : Lits) (hO : Old Z n0 h) (A : Av Z h v .byte (u16 (uns ps))) (hps : ps = dn ++ p :: rs) (hp : okP p) (hN : (uns ps).length < 2 ^ 30) :
    Con l Z n0 (⟨"java/lang/StringUTF16", "codePointAt", "([BII)I"⟩ : MethodName) jdk_52_method_8_code 3 (some .int) ⟨2, 0, 0, 30⟩ [.ref v, .int (Int32.ofNat (uns dn).length), .int (Int32.ofNat (uns ps).length)] h Ls [] (RV fun w h' Ls' => w = .int (Int32.ofNat p) ∧ h = h' ∧ Ls = Ls') := by
  refine Con.of_run (plainFor_of_name pn3) hO ?_
  intro pX eX sX mX bX tX cX F hX
  refine ⟨[.val (.ref v), .val (.int (Int32.ofNat (uns dn).length)), .val (.int (Int32.ofNat (uns ps).length))], rfl, ?_⟩
  refine Run.aloadN F d40_0 rfl rfl ?_
  refine Run.iloadN F d40_1 rfl ?_
  refine Run.iloadN F d40_2 rfl ?_
  refine Run.iconst F d40_3 (z := 0) rfl ?_
  refine Run.callStatic F (w192 hw) (w193 hw) (w37 hw) (w194 hw) (c_cp4 l Z n0 a0 hw v ps dn rs p UA UH UL h Ls hO A hps hp hN) rfl pd39 rfl rfl rfl rfl (by decide) (by decide) rfl d40_4 ?_
  rintro _ _ _ ⟨_, rfl, rfl, rfl, rfl⟩ _ _
  exact Run.ireturn F (by simp) rfl (by decide) (by decide) d40_7 ⟨rfl, rfl, rfl⟩
theorem c_cpAt (hw : HW Z a0) (x b : Nat) (ps dn rs : List Nat) (p : Nat) {cz : Int32} (SC : sC Z cz) (hcz : cz.toInt ≠ 0) {sf : Value} (SF : sF Z sf) (hsf : sf.isRef = true) (UA : uA Z) (UH : uH Z) (UL : uL Z) (h : Heap) (Ls : Lits) (hO : Old Z n0 h) (S : Str Z h x b (coOf (uns ps)) (byOf (uns ps))) (hps : ps = dn ++ p :: rs) (hp : okP p) (hN : (uns ps).length < 2 ^ 30) :
    Con l Z n0 (⟨"java/lang/String", "codePointAt", "(I)I"⟩ : MethodName) jdk_42_method_57_code 3 (some .int) ⟨3, 0, 0, 44⟩ [.ref x, .int (Int32.ofNat (uns dn).length)] h Ls [] (RV fun w h' Ls' => w = .int (Int32.ofNat p) ∧ h = h' ∧ Ls = Ls') := by
  refine Con.of_run (plainFor_of_name pn0) hO ?_
  intro pX eX sX mX bX tX cX F hX
  refine ⟨[.val (.ref x), .val (.int (Int32.ofNat (uns dn).length)), .unset], rfl, ?_⟩
  have hp1 := hp.1
  have hsp := uns_split hps
  have hnp := nu_pos p
  have hev := ev_rng hp
  have hc0 := uns_at hps
  have e6 := i32_ti (i := evN p) (by omega)
  have ei := i32_ti (i := (uns dn).length) (by omega)
  have el := i32_ti (i := (uns ps).length) (by omega)
  refine Run.aloadN F d36_0 rfl rfl ?_
  refine Run.callVirtual F (w176 hw) (w177 hw) (nfs (w179 hw)) (w179 hw) (w178 hw) (w23 hw) (w180 hw) S.1 (c_isLatin1 l Z n0 a0 hw x (coOf (uns ps)) SC hcz h Ls hO S.2.1) rfl pd13 rfl rfl rfl rfl (by decide) (by decide) rfl d36_1 ?_
  rintro _ _ _ ⟨_, rfl, rfl, rfl, rfl⟩ _ _
  cases hl : lat (uns ps)
  · have e1 : coOf (uns ps) = 1 := by rw [coOf, hl]; rfl
    have e2 : byOf (uns ps) = u16 (uns ps) := by rw [byOf, hl]; rfl
    rw [e1, e2] at S
    rw [e1]
    refine Run.ifB_eq F d36_4 (t := 27) rfl (fun _ => ?_) (fun q => absurd q (by decide))
    refine Run.aloadN F d36_27 rfl rfl ?_
    refine Run.getfield F (host := "") (Or.inl (w67 hw)) Via.refl S.2.2.1 d36_28 ?_
    refine Run.arrlen F S.2.2.2 d36_31 ?_
    rw [u16_len]
    refine Run.iconst F d36_32 (z := 1) rfl ?_
    refine Run.ishr F d36_33 ?_
    rw [shr1 (by omega)]
    refine Run.istoreN F d36_34 rfl ?_
    dsimp only [List.set]
    refine Run.iloadN F d36_35 rfl ?_
    refine Run.iloadN F d36_36 rfl ?_
    refine Run.callStatic F (w181 hw) (w182 hw) (w23 hw) (w183 hw) (c_checkIndex l Z n0 a0 hw (Int32.ofNat (uns dn).length) (Int32.ofNat (uns ps).length) SF hsf h Ls hO (by omega) (by omega)) rfl pd2 rfl rfl rfl rfl (by decide) (by decide) rfl d36_37 ?_
    rintro _ _ _ ⟨rfl, rfl, rfl⟩ _ _
    show Run _ _ _ _ _ _ _ _ _ _ _ _ _ _ _ _ _ _ _ _ []
    refine Run.aloadN F d36_40 rfl rfl ?_
    refine Run.getfield F (host := "") (Or.inl (w67 hw)) Via.refl S.2.2.1 d36_41 ?_
    refine Run.iloadN F d36_44 rfl ?_
    refine Run.iloadN F d36_45 rfl ?_
    refine Run.callStatic F (w189 hw) (w190 hw) (w37 hw) (w191 hw) (c_cp3 l Z n0 a0 hw b ps dn rs p UA UH UL h Ls hO S.2.2.2 hps hp hN) rfl pd31 rfl rfl rfl rfl (by decide) (by decide) rfl d36_46 ?_
    rintro _ _ _ ⟨_, rfl, rfl, rfl, rfl⟩ _ _
    exact Run.ireturn F (by simp) rfl (by decide) (by decide) d36_49 ⟨rfl, rfl, rfl⟩
  · have e1 : coOf (uns ps) = 0 := by rw [coOf, hl]; rfl
    have e2 : byOf (uns ps) = (uns ps).map lb := by rw [byOf, hl]; rfl
    have h8 : (Int32.ofNat (evN p)).toInt < 256 := by have := List.all_eq_true.mp hl _ (List.mem_of_getElem? hc0); simpa using this
    have z : evN p = p := by
      by_cases z : p < 65536
      · exact ev1 z
      · exfalso
        have hh := hi_rng hp (by omega)
        rw [e6, ev2 (by omega)] at h8; omega
    rw [e1, e2] at S
    rw [e1]
    refine Run.ifB_eq F d36_4 (t := 27) rfl (fun q => absurd q (by decide)) (fun _ => ?_)
    refine Run.iloadN F d36_7 rfl ?_
    refine Run.aloadN F d36_8 rfl rfl ?_
    refine Run.getfield F (host := "") (Or.inl (w67 hw)) Via.refl S.2.2.1 d36_9 ?_
    refine Run.arrlen F S.2.2.2 d36_12 ?_
    rw [List.length_map]
    refine Run.callStatic F (w181 hw) (w182 hw) (w23 hw) (w183 hw) (c_checkIndex l Z n0 a0 hw (Int32.ofNat (uns dn).length) (Int32.ofNat (uns ps).length) SF hsf h Ls hO (by omega) (by omega)) rfl pd2 rfl rfl rfl rfl (by decide) (by decide) rfl d36_13 ?_
    rintro _ _ _ ⟨rfl, rfl, rfl⟩ _ _
    show Run _ _ _ _ _ _ _ _ _ _ _ _ _ _ _ _ _ _ _ _ []
    refine Run.aloadN F d36_16 rfl rfl ?_
    refine Run.getfield F (host := "") (Or.inl (w67 hw)) Via.refl S.2.2.1 d36_17 ?_
    refine Run.iloadN F d36_20 rfl ?_
    refine Run.baload F S.2.2.2 (i32_nn (by omega)) (i32_tn (by omega)) (lb_get hc0) d36_21 ?_
    refine Run.sipush F d36_22 (z := 255) rfl ?_
    refine Run.iand F d36_25 ?_
    rw [low8' (c := Int32.ofNat (evN p)) (by omega) h8]
    exact Run.ireturn F (by simp) rfl (by decide) (by decide) d36_26 ⟨by rw [z], rfl, rfl⟩
theorem c_initBB (hw : HW Z a0) (x b : Nat) (co : Int32) (vs : List Value) (h : Heap) (Ls : Lits) (hO : Old Z n0 h) (E : Exa Z h x "java/lang/String") (Fv : Fld Z h x "java/lang/String" "value" "[B" .null) (Fc : Fld Z h x "java/lang/String" "coder" "B" (.int 0)) (g : n0 ≤ x) (A : Av Z h b .byte vs) (hbx : b ≠ x) (hn8 : narrow .byte (.int co) = .int co) (hf8 : fits .byte (.int co) = true) :
    Con l Z n0 (⟨"java/lang/String", "<init>", "([BB)V"⟩ : MethodName) jdk_42_method_151_code 3 none ⟨1, 0, 0, 12⟩ [.ref x, .ref b, .int co] h Ls [] (RN fun h' Ls' => Keep h h' [x] ∧ Str Z h' x b co vs ∧ Ls = Ls') := by
  refine Con.of_run (plainFor_of_name pn0) hO ?_
  intro pX eX sX mX bX tX cX F hX
  refine ⟨[.val (.ref x), .val (.ref b), .val (.int co)], rfl, ?_⟩
  have hne : Jvm.RoadKit.slotOf Z "java/lang/String" "coder" "B" ≠ Jvm.RoadKit.slotOf Z "java/lang/String" "value" "[B" := slot_ne (a0 := a0) (C := "java/lang/String") (Or.inr (w66 hw)) (Or.inr (w68 hw)) (by decide) (t := .byte) (t' := .array .byte) (by decide) (by decide)
  refine Run.aloadN F d50_0 rfl rfl ?_
  refine Run.objInit F (w31 hw) (w32 hw) (w33 hw) rfl rfl rfl d50_1 ?_
  refine Run.aloadN F d50_4 rfl rfl ?_
  refine Run.aloadN F d50_5 rfl rfl ?_
  refine Run.putfield F (w67 hw) Via.refl Fv E g (Or.inr ⟨(w68 hw), rfl, rfl⟩) (w22 hw) (ty := (.array .byte)) (by decide) (v' := .ref b) rfl rfl d50_6 ?_
  intro h1 W1 K1 s1 F1
  refine Run.aloadN F d50_9 rfl rfl ?_
  refine Run.iloadN F d50_10 rfl ?_
  have E1 : Exa Z h1 x "java/lang/String" := E.keep K1
  have Fc1 : Fld Z h1 x "java/lang/String" "coder" "B" (.int 0) := Fc.other W1 (Or.inr hne)
  refine Run.putfield F (w65 hw) Via.refl Fc1 E1 g (Or.inr ⟨(w66 hw), rfl, rfl⟩) (w22 hw) (ty := .byte) (by decide) (v' := .int co) hn8 hf8 d50_11 ?_
  intro h2 W2 K2 s2 F2
  exact Run.return_ F (by decide) (by decide) d50_14 ⟨K1.trans K2 (allS (Or.inl mem1) all0), ⟨E1.keep K2, F2, F1.other W2 (Or.inr (Ne.symm hne)), (A.keep K1 (ninN hbx nin0)).keep K2 (ninN hbx nin0)⟩, rfl⟩
theorem c_l1tb (hw : HW Z a0) (ch : Int32) (h : Heap) (Ls : Lits) (hO : Old Z n0 h)  :
    Con l Z n0 (⟨"java/lang/StringLatin1", "toBytes", "(C)[B"⟩ : MethodName) jdk_43_method_46_code 1 (some (.array .byte)) ⟨0, 1, 1, 0⟩ [.int ch] h Ls [] (RV fun w h' Ls' => ∃ b : Nat, w = .ref b ∧ Keep h h' [] ∧ h.size ≤ b ∧ Exa Z h' b "[B" ∧ Av Z h' b .byte [lb ch] ∧ Ls = Ls') := by
  refine Con.of_run (plainFor_of_name pn2) hO ?_
  intro pX eX sX mX bX tX cX F hX
  refine ⟨[.val (.int ch)], rfl, ?_⟩
  refine Run.iconst F d75_0 (z := 1) rfl ?_
  refine Run.newarrayE (aty := .byte) F (w39 hw) (ad := "[B") (by decide) (by decide) (len := 1) rfl 1 (by decide) rfl (by decide) (by decide) d75_1 ?_
  intro h1 b hb K1 lt1 A1 E1
  have gb : n0 ≤ b := by rw [hb, ← hO.1]; exact hO.2.1
  refine Run.dup F d75_3 rfl ?_
  refine Run.iconst F d75_4 (z := 0) rfl ?_
  refine Run.iloadN F d75_5 rfl ?_
  refine Run.i2b F d75_6 ?_
  refine Run.bastore F A1 gb (by decide) (i := 0) rfl (by simp) (narB ch) d75_7 ?_
  intro h2 W2 K2 s2 A2
  have A3 : Av Z h2 b .byte [lb ch] := A2
  exact Run.areturn F rfl rfl (by decide) (by decide) d75_8 ⟨b, rfl, K1.trans K2 (allS (Or.inr (by omega)) all0), by omega, E1.keep K2, A3, rfl⟩
theorem c_u16tb (hw : HW Z a0) (ch : Int32) (UA : uA Z) (UH : uH Z) (UL : uL Z) (h : Heap) (Ls : Lits) (hO : Old Z n0 h)  :
    Con l Z n0 (⟨"java/lang/StringUTF16", "toBytes", "(C)[B"⟩ : MethodName) jdk_52_method_24_code 2 (some (.array .byte)) ⟨1, 1, 2, 14⟩ [.int ch] h Ls [] (RV fun w h' Ls' => ∃ b : Nat, w = .ref b ∧ Keep h h' [] ∧ h.size ≤ b ∧ Exa Z h' b "[B" ∧ Av Z h' b .byte (u16 [ch]) ∧ Ls = Ls') := by
  refine Con.of_run (plainFor_of_name pn3) hO ?_
  intro pX eX sX mX bX tX cX F hX
  refine ⟨[.val (.int ch), .unset], rfl, ?_⟩
  refine Run.iconst F d94_0 (z := 2) rfl ?_
  refine Run.newarrayE (aty := .byte) F (w39 hw) (ad := "[B") (by decide) (by decide) (len := 2) rfl 2 (by decide) rfl (by decide) (by decide) d94_1 ?_
  intro h1 b hb K1 lt1 A1 E1
  have hO1 : Old Z n0 h1 := hO.keep K1 all0
  have gb : n0 ≤ b := by rw [hb, ← hO.1]; exact hO.2.1
  have A0 : Av Z h1 b .byte [.int 0, .int 0] := A1
  refine Run.astoreN F d94_3 rfl rfl ?_
  dsimp only [List.set]
  refine Run.aloadN F d94_4 rfl rfl ?_
  refine Run.iconst F d94_5 (z := 0) rfl ?_
  refine Run.iloadN F d94_6 rfl ?_
  refine Run.callStatic F (w53 hw) (w54 hw) (w37 hw) (w55 hw) (c_putChar l Z n0 a0 hw b 0 ch [.int 0, .int 0] UA UH UL h1 Ls hO1 A0 gb (by simp)) rfl pd5 rfl rfl rfl rfl (by decide) (by decide) rfl d94_7 ?_
  rintro _ h2 _ ⟨rfl, K2, s2, A2, rfl⟩ _ _
  show Run _ _ _ _ _ _ _ _ _ _ _ _ _ _ _ _ _ _ _ _ []
  have A3 : Av Z h2 b .byte (u16 [ch]) := A2
  refine Run.aloadN F d94_10 rfl rfl ?_
  exact Run.areturn F rfl rfl (by decide) (by decide) d94_11 ⟨b, rfl, K1.trans K2 (allS (Or.inr (by omega)) all0), by omega, E1.keep K2, A3, rfl⟩
theorem c_u16tbs (hw : HW Z a0) (p : Nat) (UA : uA Z) (UH : uH Z) (UL : uL Z) (h : Heap) (Ls : Lits) (hO : Old Z n0 h) (hp : okP p) (h2 : 65536 ≤ p) :
    Con l Z n0 (⟨"java/lang/StringUTF16", "toBytesSupplementary", "(I)[B"⟩ : MethodName) jdk_52_method_25_code 2 (some (.array .byte)) ⟨1, 1, 4, 14⟩ [.int (Int32.ofNat p)] h Ls [] (RV fun w h' Ls' => ∃ b : Nat, w = .ref b ∧ Keep h h' [] ∧ h.size ≤ b ∧ Exa Z h' b "[B" ∧ Av Z h' b .byte (u16 [Int32.ofNat (hiP p), Int32.ofNat (loP p)]) ∧ Ls = Ls') := by
  refine Con.of_run (plainFor_of_name pn3) hO ?_
  intro pX eX sX mX bX tX cX F hX
  refine ⟨[.val (.int (Int32.ofNat p)), .unset], rfl, ?_⟩
  refine Run.iconst F d47_0 (z := 4) rfl ?_
  refine Run.newarrayE (aty := .byte) F (w39 hw) (ad := "[B") (by decide) (by decide) (len := 4) rfl 4 (by decide) rfl (by decide) (by decide) d47_1 ?_
  intro h1 b hb K1 lt1 A1 E1
  have hO1 : Old Z n0 h1 := hO.keep K1 all0
  have gb : n0 ≤ b := by rw [hb, ← hO.1]; exact hO.2.1
  have A0 : Av Z h1 b .byte [.int 0, .int 0, .int 0, .int 0] := A1
  refine Run.astoreN F d47_3 rfl rfl ?_
  dsimp only [List.set]
  refine Run.aloadN F d47_4 rfl rfl ?_
  refine Run.iconst F d47_5 (z := 0) rfl ?_
  refine Run.iloadN F d47_6 rfl ?_
  refine Run.callStatic F (w220 hw) (w221 hw) (w102 hw) (w222 hw) (c_hiSur l Z n0 a0 hw p h1 Ls hO1 hp h2) rfl pd40 rfl rfl rfl rfl (by decide) (by decide) rfl d47_7 ?_
  rintro _ _ _ ⟨_, rfl, rfl, rfl, rfl⟩ _ _
  refine Run.callStatic F (w53 hw) (w54 hw) (w37 hw) (w55 hw) (c_putChar l Z n0 a0 hw b 0 (Int32.ofNat (hiP p)) [.int 0, .int 0, .int 0, .int 0] UA UH UL h1 Ls hO1 A0 gb (by simp)) rfl pd5 rfl rfl rfl rfl (by decide) (by decide) rfl d47_10 ?_
  rintro _ h3 _ ⟨rfl, K3, s3, A3, rfl⟩ hO3 _
  show Run _ _ _ _ _ _ _ _ _ _ _ _ _ _ _ _ _ _ _ _ []
  have A4 : Av Z h3 b .byte [hb0 (Int32.ofNat (hiP p)), hb1 (Int32.ofNat (hiP p)), .int 0, .int 0] := A3
  refine Run.aloadN F d47_13 rfl rfl ?_
  refine Run.iconst F d47_14 (z := 1) rfl ?_
  refine Run.iloadN F d47_15 rfl ?_
  refine Run.callStatic F (w224 hw) (w225 hw) (w102 hw) (w226 hw) (c_loSur l Z n0 a0 hw p h3 Ls hO3 hp h2) rfl pd40 rfl rfl rfl rfl (by decide) (by decide) rfl d47_16 ?_
  rintro _ _ _ ⟨_, rfl, rfl, rfl, rfl⟩ _ _
  refine Run.callStatic F (w53 hw) (w54 hw) (w37 hw) (w55 hw) (c_putChar l Z n0 a0 hw b 1 (Int32.ofNat (loP p)) [hb0 (Int32.ofNat (hiP p)), hb1 (Int32.ofNat (hiP p)), .int 0, .int 0] UA UH UL h3 Ls hO3 A4 gb (by simp)) rfl pd5 rfl rfl rfl rfl (by decide) (by decide) rfl d47_19 ?_
  rintro _ h5 _ ⟨rfl, K5, s5, A5, rfl⟩ _ _
  show Run _ _ _ _ _ _ _ _ _ _ _ _ _ _ _ _ _ _ _ _ []
  have A6 : Av Z h5 b .byte (u16 [Int32.ofNat (hiP p), Int32.ofNat (loP p)]) := A5
  refine Run.aloadN F d47_22 rfl rfl ?_
  exact Run.areturn F rfl rfl (by decide) (by decide) d47_23 ⟨b, rfl, (K1.trans K3 (allS (Or.inr (by omega)) all0)).trans K5 (allS (Or.inr (by omega)) all0), by omega, (E1.keep K3).keep K5, A6, rfl⟩
theorem c_valCP (hw : HW Z a0) (p : Nat) {cz : Int32} (SC : sC Z cz) (hcz : cz.toInt ≠ 0) (UA : uA Z) (UH : uH Z) (UL : uL Z) (h : Heap) (Ls : Lits) (hO : Old Z n0 h) (hp : okP p) :
    Con l Z n0 (⟨"java/lang/String", "valueOfCodePoint", "(I)Ljava/lang/String;"⟩ : MethodName) jdk_42_method_159_code 1 (some (.object "java/lang/String")) ⟨2, 2, 8, 29⟩ [.int (Int32.ofNat p)] h Ls [] (RV fun w h' Ls' => ∃ x b : Nat, w = .ref x ∧ Keep h h' [] ∧ h.size ≤ x ∧ h.size ≤ b ∧ Exa Z h' b "[B" ∧ Str Z h' x b (coOf (un p)) (byOf (un p)) ∧ Ls = Ls') := by
  refine Con.of_run (plainFor_of_name pn0) hO ?_
  intro pX eX sX mX bX tX cX F hX
  refine ⟨[.val (.int (Int32.ofNat p))], rfl, ?_⟩
  have hp1 := hp.1
  have e := i32_ti (i := p) (by omega)
  refine Run.getstatic F (w34 hw) Via.refl SC d43_0 ?_
  refine Run.if_eq F d43_3 (t := 27) rfl rfl (fun q => absurd q hcz) (fun _ => ?_)
  refine Run.iloadN F d43_6 rfl ?_
  refine Run.callStatic F (w204 hw) (w205 hw) (w206 hw) (w207 hw) (c_canEncI l Z n0 a0 hw p h Ls hO hp1) rfl pd41 rfl rfl rfl rfl (by decide) (by decide) rfl d43_7 ?_
  rintro _ _ _ ⟨_, rfl, rfl, rfl, rfl⟩ _ _
  refine Run.ifB_eq F d43_10 (t := 27) rfl (fun q => ?_) (fun q => ?_)
  rotate_left
  · have z : p < 256 := of_decide_eq_true q
    have hla : lat (un p) = true := by rw [un1 (by omega), lat, List.all_cons, List.all_nil, Bool.and_true]; exact decide_eq_true (by omega)
    have eC : coOf (un p) = 0 := by rw [coOf, hla]; rfl
    have eB : byOf (un p) = [lb (Int32.ofNat p)] := by rw [byOf, hla, un1 (by omega)]; rfl
    refine Run.new F (w216 hw) (w22 hw) (w23 hw) (by decide) (by decide) d43_13 ?_
    intro hN x hx KN ltN EN DN UN
    have ON : Old Z n0 hN := hO.keep KN all0
    have gx : n0 ≤ x := by rw [hx, ← hO.1]; exact hO.2.1
    have Fv := DN (O := "java/lang/String") (f := "value") (ds := "[B") (ty := .array .byte) (Or.inr (w68 hw)) (by decide)
    have Fc := DN (O := "java/lang/String") (f := "coder") (ds := "B") (ty := .byte) (Or.inr (w66 hw)) (by decide)
    have zN := KN.1
    refine Run.dup F d43_16 rfl ?_
    refine Run.iloadN F d43_17 rfl ?_
    refine Run.i2c F d43_18 ?_
    rw [chr_id (x := Int32.ofNat p) (by omega) (by omega)]
    refine Run.callStatic F (w335 hw) (w336 hw) (w206 hw) (w337 hw) (c_l1tb l Z n0 a0 hw (Int32.ofNat p) hN Ls ON) rfl pd42 rfl rfl rfl rfl (by decide) (by decide) rfl d43_19 ?_
    rintro _ h1 _ ⟨_, rfl, b, rfl, K1, hb, EB, A1, rfl⟩ O1 _
    have lx := ltN
    refine Run.iconst F d43_22 (z := 0) rfl ?_
    refine Run.callInit F (w227 hw) (w228 hw) (w23 hw) (w229 hw) (c_initBB l Z n0 a0 hw x b 0 [lb (Int32.ofNat p)] h1 Ls O1 (EN.keep K1) (Fv.keep K1 nin0) (Fc.keep K1 nin0) gx A1 (by omega) rfl rfl) rfl rfl pd43 rfl rfl rfl rfl (by decide) (by decide) rfl d43_23 ?_
    rintro _ h2 _ ⟨rfl, K2, S2, rfl⟩ _ _
    show Run _ _ _ _ _ _ _ _ _ _ _ _ _ _ _ _ _ _ _ _ [Value.ref x]
    have KK : Keep h h2 [] := (KN.trans K1 all0).trans K2 (allS (Or.inr (by omega)) all0)
    exact Run.areturn F rfl rfl (by decide) (by decide) d43_26 ⟨x, b, rfl, KK, by omega, by omega, EB.keep K2, by rw [eC, eB]; exact S2, rfl⟩
  have z0 : ¬ p < 256 := of_decide_eq_false q
  refine Run.iloadN F d43_27 rfl ?_
  refine Run.callStatic F (w208 hw) (w209 hw) (w102 hw) (w210 hw) (c_isBmp l Z n0 a0 hw p h Ls hO hp1) rfl pd41 rfl rfl rfl rfl (by decide) (by decide) rfl d43_28 ?_
  rintro _ _ _ ⟨_, rfl, rfl, rfl, rfl⟩ _ _
  refine Run.ifB_eq F d43_31 (t := 48) rfl (fun q2 => ?_) (fun q2 => ?_)
  rotate_left
  · have z : p < 65536 := of_decide_eq_true q2
    have hla : lat (un p) = false := by
      cases hl : lat (un p)
      · rfl
      · exact absurd (lat_un hp hl) z0
    have eC : coOf (un p) = 1 := by rw [coOf, hla]; rfl
    have eB : byOf (un p) = u16 [Int32.ofNat p] := by rw [byOf, hla, un1 z]; rfl
    refine Run.new F (w216 hw) (w22 hw) (w23 hw) (by decide) (by decide) d43_34 ?_
    intro hN x hx KN ltN EN DN UN
    have ON : Old Z n0 hN := hO.keep KN all0
    have gx : n0 ≤ x := by rw [hx, ← hO.1]; exact hO.2.1
    have Fv := DN (O := "java/lang/String") (f := "value") (ds := "[B") (ty := .array .byte) (Or.inr (w68 hw)) (by decide)
    have Fc := DN (O := "java/lang/String") (f := "coder") (ds := "B") (ty := .byte) (Or.inr (w66 hw)) (by decide)
    have zN := KN.1
    refine Run.dup F d43_37 rfl ?_
    refine Run.iloadN F d43_38 rfl ?_
    refine Run.i2c F d43_39 ?_
    rw [chr_id (x := Int32.ofNat p) (by omega) (by omega)]
    refine Run.callStatic F (w420 hw) (w421 hw) (w37 hw) (w422 hw) (c_u16tb l Z n0 a0 hw (Int32.ofNat p) UA UH UL hN Ls ON) rfl pd42 rfl rfl rfl rfl (by decide) (by decide) rfl d43_40 ?_
    rintro _ h1 _ ⟨_, rfl, b, rfl, K1, hb, EB, A1, rfl⟩ O1 _
    have lx := ltN
    refine Run.iconst F d43_43 (z := 1) rfl ?_
    refine Run.callInit F (w227 hw) (w228 hw) (w23 hw) (w229 hw) (c_initBB l Z n0 a0 hw x b 1 (u16 [Int32.ofNat p]) h1 Ls O1 (EN.keep K1) (Fv.keep K1 nin0) (Fc.keep K1 nin0) gx A1 (by omega) rfl rfl) rfl rfl pd43 rfl rfl rfl rfl (by decide) (by decide) rfl d43_44 ?_
    rintro _ h2 _ ⟨rfl, K2, S2, rfl⟩ _ _
    show Run _ _ _ _ _ _ _ _ _ _ _ _ _ _ _ _ _ _ _ _ [Value.ref x]
    have KK : Keep h h2 [] := (KN.trans K1 all0).trans K2 (allS (Or.inr (by omega)) all0)
    exact Run.areturn F rfl rfl (by decide) (by decide) d43_47 ⟨x, b, rfl, KK, by omega, by omega, EB.keep K2, by rw [eC, eB]; exact S2, rfl⟩
  have z1 : 65536 ≤ p := by have := of_decide_eq_false q2; omega
  have hla : lat (un p) = false := by
    cases hl : lat (un p)
    · rfl
    · exact absurd (lat_un hp hl) z0
  have eC : coOf (un p) = 1 := by rw [coOf, hla]; rfl
  have eB : byOf (un p) = u16 [Int32.ofNat (hiP p), Int32.ofNat (loP p)] := by rw [byOf, hla, un2 z1]; rfl
  refine Run.iloadN F d43_48 rfl ?_
  refine Run.callStatic F (w211 hw) (w212 hw) (w102 hw) (w213 hw) (c_isSupp l Z n0 a0 hw (Int32.ofNat p) h Ls hO) rfl pd41 rfl rfl rfl rfl (by decide) (by decide) rfl d43_49 ?_
  rintro _ _ _ ⟨_, rfl, rfl, rfl, rfl⟩ _ _
  refine Run.ifB_eq F d43_52 (t := 68) rfl (fun q4 => absurd (of_decide_eq_false q4) (by omega)) (fun _ => ?_)
  refine Run.new F (w216 hw) (w22 hw) (w23 hw) (by decide) (by decide) d43_55 ?_
  intro hN x hx KN ltN EN DN UN
  have ON : Old Z n0 hN := hO.keep KN all0
  have gx : n0 ≤ x := by rw [hx, ← hO.1]; exact hO.2.1
  have Fv := DN (O := "java/lang/String") (f := "value") (ds := "[B") (ty := .array .byte) (Or.inr (w68 hw)) (by decide)
  have Fc := DN (O := "java/lang/String") (f := "coder") (ds := "B") (ty := .byte) (Or.inr (w66 hw)) (by decide)
  have zN := KN.1
  refine Run.dup F d43_58 rfl ?_
  refine Run.iloadN F d43_59 rfl ?_
  skip
  refine Run.callStatic F (w217 hw) (w218 hw) (w37 hw) (w219 hw) (c_u16tbs l Z n0 a0 hw p UA UH UL hN Ls ON hp z1) rfl pd4 rfl rfl rfl rfl (by decide) (by decide) rfl d43_60 ?_
  rintro _ h1 _ ⟨_, rfl, b, rfl, K1, hb, EB, A1, rfl⟩ O1 _
  have lx := ltN
  refine Run.iconst F d43_63 (z := 1) rfl ?_
  refine Run.callInit F (w227 hw) (w228 hw) (w23 hw) (w229 hw) (c_initBB l Z n0 a0 hw x b 1 (u16 [Int32.ofNat (hiP p), Int32.ofNat (loP p)]) h1 Ls O1 (EN.keep K1) (Fv.keep K1 nin0) (Fc.keep K1 nin0) gx A1 (by omega) rfl rfl) rfl rfl pd43 rfl rfl rfl rfl (by decide) (by decide) rfl d43_64 ?_
  rintro _ h2 _ ⟨rfl, K2, S2, rfl⟩ _ _
  show Run _ _ _ _ _ _ _ _ _ _ _ _ _ _ _ _ _ _ _ _ [Value.ref x]
  have KK : Keep h h2 [] := (KN.trans K1 all0).trans K2 (allS (Or.inr (by omega)) all0)
  exact Run.areturn F rfl rfl (by decide) (by decide) d43_67 ⟨x, b, rfl, KK, by omega, by omega, EB.keep K2, by rw [eC, eB]; exact S2, rfl⟩
theorem c_chToStr (hw : HW Z a0) (p : Nat) {cz : Int32} (SC : sC Z cz) (hcz : cz.toInt ≠ 0) (UA : uA Z) (UH : uH Z) (UL : uL Z) (h : Heap) (Ls : Lits) (hO : Old Z n0 h) (hp : okP p) :
    Con l Z n0 (⟨"java/lang/Character", "toString", "(I)Ljava/lang/String;"⟩ : MethodName) jdk_89_method_10_code 1 (some (.object "java/lang/String")) ⟨3, 2, 8, 41⟩ [.int (Int32.ofNat p)] h Ls [] (RV fun w h' Ls' => ∃ x b : Nat, w = .ref x ∧ Keep h h' [] ∧ h.size ≤ x ∧ h.size ≤ b ∧ Exa Z h' b "[B" ∧ Str Z h' x b (coOf (un p)) (byOf (un p)) ∧ Ls = Ls') := by
  refine Con.of_run (plainFor_of_name pn8) hO ?_
  intro pX eX sX mX bX tX cX F hX
  refine ⟨[.val (.int (Int32.ofNat p))], rfl, ?_⟩
  refine Run.iloadN F d42_0 rfl ?_
  refine Run.callStatic F (w201 hw) (w202 hw) (w23 hw) (w203 hw) (c_valCP l Z n0 a0 hw p SC hcz UA UH UL h Ls hO hp) rfl pd44 rfl rfl rfl rfl (by decide) (by decide) rfl d42_1 ?_
  rintro _ h1 _ ⟨_, rfl, x, b, rfl, hq⟩ _ _
  exact Run.areturn F rfl rfl (by decide) (by decide) d42_4 ⟨x, b, rfl, hq⟩
theorem c_corBS (hw : HW Z a0) (v : Nat) (k : Nat) (vs : List Value) (h : Heap) (Ls : Lits) (hO : Old Z n0 h) (A : Av Z h v .byte vs) (hk : k ≤ vs.length) (hK : vs.length ≤ 24) :
    Con l Z n0 (⟨"java/util/Arrays", "copyOfRangeByte", "([BII)[B"⟩ : MethodName) jdk_65_method_133_code 5 (some (.array .byte)) ⟨1, 1, 24, 18⟩ [.ref v, .int 0, .int (Int32.ofNat k)] h Ls [] (RV fun w h' Ls' => ∃ b : Nat, w = .ref b ∧ Keep h h' [] ∧ h.size ≤ b ∧ Av Z h' b .byte (vs.take k) ∧ Ls = Ls') := by
  refine Con.of_run (plainFor_of_name pn7) hO ?_
  intro pX eX sX mX bX tX cX F hX
  refine ⟨[.val (.ref v), .val (.int 0), .val (.int (Int32.ofNat k)), .unset, .unset], rfl, ?_⟩
  have e1 := i32_ti (i := k) (by omega)
  have e2 := i32_ti (i := vs.length) (by omega)
  refine Run.iloadN F d63_0 rfl ?_
  refine Run.iloadN F d63_1 rfl ?_
  refine Run.callStatic F (w273 hw) (w274 hw) (w119 hw) (w275 hw) (c_checkLen l Z n0 a0 hw k h Ls hO (by omega)) rfl pd2 rfl rfl rfl rfl (by decide) (by decide) rfl d63_2 ?_
  rintro _ _ _ ⟨rfl, rfl, rfl⟩ _ _
  show Run _ _ _ _ _ _ _ _ _ _ _ _ _ _ _ _ _ _ _ _ []
  refine Run.iloadN F d63_5 rfl ?_
  refine Run.iloadN F d63_6 rfl ?_
  refine Run.isub F d63_7 ?_
  rw [i32_s]
  refine Run.istoreN F d63_8 rfl ?_
  dsimp only [List.set]
  refine Run.iloadN F d63_9 rfl ?_
  refine Run.newarray (aty := .byte) F (w39 hw) (i32_nn (by omega)) (i32_tn (by omega)) 24 (by omega) rfl (by decide) (by decide) d63_10 ?_
  intro h1 b hb K1 lt1 A1
  have hO1 : Old Z n0 h1 := hO.keep K1 all0
  have gb : n0 ≤ b := by rw [hb, ← hO.1]; exact hO.2.1
  refine Run.astore F d63_12 rfl rfl ?_
  dsimp only [List.set]
  refine Run.aloadN F d63_14 rfl rfl ?_
  refine Run.iloadN F d63_15 rfl ?_
  refine Run.aload F d63_16 rfl rfl ?_
  refine Run.iconst F d63_18 (z := 0) rfl ?_
  refine Run.aloadN F d63_19 rfl rfl ?_
  refine Run.arrlen F (A.keep K1 nin0) d63_20 ?_
  refine Run.iloadN F d63_21 rfl ?_
  refine Run.isub F d63_22 ?_
  rw [i32_s]
  refine Run.iloadN F d63_23 rfl ?_
  refine Run.callStatic F (w121 hw) (w122 hw) (w123 hw) (w124 hw) (c_mathMin l Z n0 a0 hw (Int32.ofNat vs.length) (Int32.ofNat k) h1 Ls hO1) rfl pd15 rfl rfl rfl rfl (by decide) (by decide) rfl d63_24 ?_
  rintro _ _ _ ⟨_, rfl, z, rfl, hz, rfl, rfl⟩ _ _
  refine Run.arraycopy F (w125 hw) (w128 hw) (w126 hw) (w127 hw) (A.keep K1 nin0) A1 rfl gb (sp := 0) rfl (dp := 0) rfl (nn := k) (by omega) (by omega) (by simp) (us := vs.take k) (by simp) rfl rfl rfl d63_27 ?_
  intro h2 K2 A2
  have A3 : Av Z h2 b .byte (vs.take k) := by
    rw [List.take_zero, List.nil_append, Nat.zero_add, List.drop_replicate, Nat.sub_self] at A2; simpa using A2
  refine Run.aload F d63_30 rfl rfl ?_
  exact Run.areturn F rfl rfl (by decide) (by decide) d63_32 ⟨b, rfl, K1.trans K2 (allS (Or.inr (by omega)) all0), by omega, A3, rfl⟩
theorem c_corS (hw : HW Z a0) (v : Nat) (k : Nat) (vs : List Value) (h : Heap) (Ls : Lits) (hO : Old Z n0 h) (A : Av Z h v .byte vs) (hk : k < vs.length) (hK : vs.length ≤ 24) :
    Con l Z n0 (⟨"java/util/Arrays", "copyOfRange", "([BII)[B"⟩ : MethodName) jdk_65_method_132_code 3 (some (.array .byte)) ⟨2, 1, 24, 34⟩ [.ref v, .int 0, .int (Int32.ofNat k)] h Ls [] (RV fun w h' Ls' => ∃ b : Nat, w = .ref b ∧ Keep h h' [] ∧ h.size ≤ b ∧ Av Z h' b .byte (vs.take k) ∧ Ls = Ls') := by
  refine Con.of_run (plainFor_of_name pn7) hO ?_
  intro pX eX sX mX bX tX cX F hX
  refine ⟨[.val (.ref v), .val (.int 0), .val (.int (Int32.ofNat k))], rfl, ?_⟩
  have e1 := i32_ti (i := k) (by omega)
  have e2 := i32_ti (i := vs.length) (by omega)
  refine Run.iloadN F d62_0 rfl ?_
  refine Run.ifNo F d62_1 rfl ?_
  refine Run.iloadN F d62_4 rfl ?_
  refine Run.aloadN F d62_5 rfl rfl ?_
  refine Run.arrlen F A d62_6 ?_
  refine Run.icmp_eq F d62_7 (t := 17) rfl e1 e2 (fun q => by omega) (fun q => ?_)
  refine Run.aloadN F d62_10 rfl rfl ?_
  refine Run.iloadN F d62_11 rfl ?_
  refine Run.iloadN F d62_12 rfl ?_
  refine Run.callStatic F (w270 hw) (w271 hw) (w119 hw) (w272 hw) (c_corBS l Z n0 a0 hw v k vs h Ls hO A (by omega) hK) rfl pd27 rfl rfl rfl rfl (by decide) (by decide) rfl d62_13 ?_
  rintro _ h1 _ ⟨_, rfl, b, rfl, hq⟩ _ _
  exact Run.areturn F rfl rfl (by decide) (by decide) d62_16 ⟨b, rfl, hq⟩
theorem c_cfti (hw : HW Z a0) (e n : Nat) (v : Value) (h : Heap) (Ls : Lits) (hO : Old Z n0 h) (hv : v.isRef = true) (h1 : e ≤ n) (h2 : n < 2 ^ 31) :
    Con l Z n0 (⟨"jdk/internal/util/Preconditions", "checkFromToIndex", "(IIILjava/util/function/BiFunction;)I"⟩ : MethodName) jdk_41_method_12_code 4 (some .int) ⟨0, 0, 0, 0⟩ [.int 0, .int (Int32.ofNat e), .int (Int32.ofNat n), v] h Ls [] (RV fun w h' Ls' => w = .int 0 ∧ h = h' ∧ Ls = Ls') := by
  refine Con.of_run (plainFor_of_name pn1) hO ?_
  intro pX eX sX mX bX tX cX F hX
  refine ⟨[.val (.int 0), .val (.int (Int32.ofNat e)), .val (.int (Int32.ofNat n)), .val v], by first | rfl | (simp [entryFrame, mkF, argsToLocals, Value.category]; done) | (rcases ref_cases hv with rfl | ⟨va, rfl⟩ <;> rfl), ?_⟩
  have e1 := i32_ti (i := e) (by omega)
  have e2 := i32_ti (i := n) h2
  refine Run.iloadN F d54_0 rfl ?_
  refine Run.ifNo F d54_1 rfl ?_
  refine Run.iloadN F d54_4 rfl ?_
  refine Run.iloadN F d54_5 rfl ?_
  refine Run.icmp_gt F d54_6 (t := 14) rfl (xi := 0) rfl e1 (fun q => by omega) (fun _ => ?_)
  refine Run.iloadN F d54_9 rfl ?_
  refine Run.iloadN F d54_10 rfl ?_
  refine Run.icmp_le F d54_11 (t := 22) rfl e1 e2 (fun _ => ?_) (fun q => by omega)
  refine Run.iloadN F d54_22 rfl ?_
  exact Run.ireturn F (by simp) rfl (by decide) (by decide) d54_23 ⟨rfl, rfl, rfl⟩
theorem c_cbbe (hw : HW Z a0) (e n : Nat) {sf : Value} (SF : sF Z sf) (hsf : sf.isRef = true) (h : Heap) (Ls : Lits) (hO : Old Z n0 h) (h1 : e ≤ n) (h2 : n < 2 ^ 31) :
    Con l Z n0 (⟨"java/lang/String", "checkBoundsBeginEnd", "(III)V"⟩ : MethodName) jdk_42_method_158_code 3 none ⟨1, 0, 0, 15⟩ [.int 0, .int (Int32.ofNat e), .int (Int32.ofNat n)] h Ls [] (RN fun h' Ls' => h = h' ∧ Ls = Ls') := by
  refine Con.of_run (plainFor_of_name pn0) hO ?_
  intro pX eX sX mX bX tX cX F hX
  refine ⟨[.val (.int 0), .val (.int (Int32.ofNat e)), .val (.int (Int32.ofNat n))], rfl, ?_⟩
  refine Run.iloadN F d53_0 rfl ?_
  refine Run.iloadN F d53_1 rfl ?_
  refine Run.iloadN F d53_2 rfl ?_
  refine Run.getstatic F (w184 hw) Via.refl SF d53_3 ?_
  refine Run.callStatic F (w242 hw) (w243 hw) (w185 hw) (w244 hw) (c_cfti l Z n0 a0 hw e n sf h Ls hO hsf h1 h2) rfl pd18 rfl rfl rfl rfl (by decide) (by decide) rfl d53_6 ?_
  rintro _ _ _ ⟨_, rfl, rfl, rfl, rfl⟩ _ _
  refine Run.pop F d53_9 rfl ?_
  exact Run.return_ F (by decide) (by decide) d53_10 ⟨rfl, rfl⟩
theorem c_cmpI (hw : HW Z a0) (v b : Nat) (ds es : List Int32) {sf : Value} (SF : sF Z sf) (hsf : sf.isRef = true) (UA : uA Z) (UH : uH Z) (UL : uL Z) (h : Heap) (Ls : Lits) (hO : Old Z n0 h) (At : Av Z h v .byte (u16 (ds ++ es))) (Ab : Av Z h b .byte (List.replicate ds.length (.int 0))) (g : n0 ≤ b) (htb : v ≠ b) (hcs : ∀ c ∈ ds, 0 ≤ c.toInt ∧ c.toInt < 65536) :
    Con l Z n0 (⟨"java/lang/StringUTF16", "compress", "([BI[BII)I"⟩ : MethodName) jdk_52_method_22_code 7 (some .int) ⟨3, 0, 0, 43⟩ [.ref v, .int 0, .ref b, .int 0, .int (Int32.ofNat ds.length)] h Ls [] (RV fun w h' Ls' => ∃ i : Nat, w = .int (Int32.ofNat i) ∧ i ≤ ds.length ∧ Keep h h' [b] ∧ h'.size = h.size ∧ (i = ds.length → lat ds = true ∧ Av Z h' b .byte (ds.map lb)) ∧ (i < ds.length → ∃ ch, ds[i]? = some ch ∧ 256 ≤ ch.toInt) ∧ Ls = Ls') := by
  refine Con.of_run (plainFor_of_name pn3) hO ?_
  intro pX eX sX mX bX tX cX F hX
  refine ⟨[.val (.ref v), .val (.int 0), .val (.ref b), .val (.int 0), .val (.int (Int32.ofNat ds.length)), .unset, .unset], rfl, ?_⟩
  have hlen := At.len
  rw [u16_len, List.length_append] at hlen
  refine Run.iloadN F d57_0 rfl ?_
  refine Run.iload F d57_1 rfl ?_
  refine Run.aloadN F d57_3 rfl rfl ?_
  refine Run.callStatic F (w255 hw) (w256 hw) (w37 hw) (w257 hw) (c_u16cboc l Z n0 a0 hw v 0 ds.length (u16 (ds ++ es)) SF hsf h Ls hO At (by rw [u16_len, List.length_append]; omega)) rfl pd19 rfl rfl rfl rfl (by decide) (by decide) rfl d57_4 ?_
  rintro _ _ _ ⟨rfl, rfl, rfl⟩ _ _
  show Run _ _ _ _ _ _ _ _ _ _ _ _ _ _ _ _ _ _ _ _ []
  refine Run.iconst F d57_7 (z := 0) rfl ?_
  refine Run.istore F d57_8 rfl ?_
  dsimp only [List.set]
  refine Run.rec (fun r h' k n Ls' L st => ∃ (i : Nat) (x6 : Slot), i + r = ds.length ∧ okSlot x6 = true ∧ k = 0 ∧ n = 0 ∧ Ls = Ls' ∧ lat (ds.take i) = true ∧ Keep h h' [b] ∧ Old Z n0 h' ∧ h'.size = h.size ∧ Av Z h' b .byte ((ds.take i).map lb ++ List.replicate r (.int 0)) ∧ L = [.val (.ref v), .val (.int (Int32.ofNat i)), .val (.ref b), .val (.int (Int32.ofNat i)), .val (.int (Int32.ofNat ds.length)), .val (.int (Int32.ofNat i)), x6] ∧ st = []) ?_ ds.length _ _ _ _ _ _ ⟨0, .unset, by omega, rfl, rfl, rfl, rfl, rfl, Keep.refl _ _, hO, rfl, by simpa using Ab, rfl, rfl⟩
  rintro r h' k n Ls' L st ⟨i, x6, hi, hx, rfl, rfl, rfl, hla, K, OO, hsz, A, rfl, rfl⟩ ih
  refine Run.iload F d57_10 rfl ?_
  refine Run.iload F d57_12 rfl ?_
  refine Run.icmp_ge F d57_14 (t := 53) rfl (i32_ti (by omega)) (i32_ti (by omega)) (fun q => ?_) (fun q => ?_)
  · have hr : r = 0 := by omega
    have hi' : i = ds.length := by omega
    subst hr hi'
    refine Run.iload F d57_53 rfl ?_
    exact Run.ireturn F (by simp) rfl (by decide) (by decide) d57_55 ⟨ds.length, rfl, Nat.le_refl _, K, hsz, fun _ => ⟨by simpa using hla, by simpa using A⟩, fun q => absurd q (Nat.lt_irrefl _), rfl⟩
  · obtain ⟨r, rfl⟩ : ∃ r', r = r' + 1 := ⟨r - 1, by omega⟩
    have hlt : i < ds.length := by omega
    obtain ⟨c1, hc1⟩ : ∃ c1, ds[i]? = some c1 := ⟨_, List.getElem?_eq_getElem hlt⟩
    have hc2 := hcs c1 (List.mem_of_getElem? hc1)
    have hg : (ds ++ es)[i]? = some c1 := by rw [List.getElem?_append_left hlt]; exact hc1
    have hg2 := u16_get hg
    refine Run.aloadN F d57_17 rfl rfl ?_
    refine Run.iloadN F d57_18 rfl ?_
    refine Run.callStatic F (w59 hw) (w60 hw) (w37 hw) (w61 hw) (c_getChar l Z n0 a0 hw v i c1 (u16 (ds ++ es)) UA UH UL h' Ls OO (At.keep K (ninN htb nin0)) hg2.1 hg2.2 hc2.1 hc2.2) rfl pd8 rfl rfl rfl rfl (by decide) (by decide) rfl d57_19 ?_
    rintro _ _ _ ⟨_, rfl, rfl, rfl, rfl⟩ _ _
    refine Run.istore F d57_22 (by simp [hx]) ?_
    dsimp only [List.set]
    refine Run.iload F d57_24 rfl ?_
    refine Run.sipush F d57_26 (z := 255) rfl ?_
    refine Run.icmp_le F d57_29 (t := 35) rfl rfl (yi := 255) rfl (fun q1 => ?_) (fun q1 => ?_)
    · refine Run.aloadN F d57_35 rfl rfl ?_
      refine Run.iloadN F d57_36 rfl ?_
      refine Run.iload F d57_37 rfl ?_
      refine Run.i2b F d57_39 ?_
      refine Run.bastore F A g (i32_nn (by omega)) (i32_tn (by omega)) (by simp; omega) (narB c1) d57_40 ?_
      intro h2 W2 K2 hs2 A2
      refine Run.iinc F d57_41 (z := 1) rfl rfl ?_
      dsimp only [List.set]
      refine Run.iinc F d57_44 (z := 1) rfl rfl ?_
      dsimp only [List.set]
      refine Run.iinc F d57_47 (z := 1) rfl rfl ?_
      dsimp only [List.set]
      refine Run.goto F d57_50 (t := 10) rfl ?_
      refine ih r _ _ _ _ _ _ (by omega) ⟨i + 1, .val (.int c1), by omega, rfl, rfl, rfl, rfl, ?_, K.trans K2 (allS (Or.inl mem1) all0), OO.wr W2 g, hs2.trans hsz, ?_, by simp only [Jvm.Free.XT.succ32], rfl⟩
      · rw [List.take_succ, hc1]; simp only [lat, List.all_append, Bool.and_eq_true] at hla ⊢; exact ⟨hla, by simp; omega⟩
      · rw [← take_set hi hc1]; exact A2
    · refine Run.iload F d57_32 rfl ?_
      exact Run.ireturn F (by simp) rfl (by decide) (by decide) d57_34 ⟨i, rfl, by omega, K, hsz, fun q => by omega, fun _ => ⟨c1, hc1, by omega⟩, rfl⟩
theorem c_cmpB (hw : HW Z a0) (v : Nat) (ds es : List Int32) {sf : Value} (SF : sF Z sf) (hsf : sf.isRef = true) (UA : uA Z) (UH : uH Z) (UL : uL Z) (h : Heap) (Ls : Lits) (hO : Old Z n0 h) (At : Av Z h v .byte (u16 (ds ++ es))) (hes : 0 < es.length) (hcap : (ds ++ es).length ≤ 12) (hcs : ∀ c ∈ ds, 0 ≤ c.toInt ∧ c.toInt < 65536) :
    Con l Z n0 (⟨"java/lang/StringUTF16", "compress", "([BII)[B"⟩ : MethodName) jdk_52_method_17_code 6 (some (.array .byte)) ⟨4, 2, 36, 61⟩ [.ref v, .int 0, .int (Int32.ofNat ds.length)] h Ls [] (RV fun w h' Ls' => ∃ b : Nat, w = .ref b ∧ Keep h h' [] ∧ h.size ≤ b ∧ Av Z h' b .byte (byOf ds) ∧ Ls = Ls') := by
  refine Con.of_run (plainFor_of_name pn3) hO ?_
  intro pX eX sX mX bX tX cX F hX
  refine ⟨[.val (.ref v), .val (.int 0), .val (.int (Int32.ofNat ds.length)), .unset, .unset, .unset], rfl, ?_⟩
  rw [List.length_append] at hcap
  have hul : (u16 (ds ++ es)).length = 2 * (ds.length + es.length) := by rw [u16_len, List.length_append]
  refine Run.iloadN F d56_0 rfl ?_
  refine Run.newarray (aty := .byte) F (w39 hw) (i32_nn (by omega)) (i32_tn (by omega)) 12 (by omega) rfl (by decide) (by decide) d56_1 ?_
  intro h1 b hb K1 lt1 A1
  have hn : n0 ≤ b := by rw [hb, ← hO.1]; exact hO.2.1
  have htb : v ≠ b := by have := At.lt; omega
  have hO1 : Old Z n0 h1 := hO.keep K1 all0
  refine Run.astoreN F d56_3 rfl rfl ?_
  dsimp only [List.set]
  refine Run.aloadN F d56_4 rfl rfl ?_
  refine Run.iloadN F d56_5 rfl ?_
  refine Run.aloadN F d56_6 rfl rfl ?_
  refine Run.iconst F d56_7 (z := 0) rfl ?_
  refine Run.iloadN F d56_8 rfl ?_
  refine Run.callStatic F (w252 hw) (w253 hw) (w37 hw) (w254 hw) (c_cmpI l Z n0 a0 hw v b ds es SF hsf UA UH UL h1 Ls hO1 (At.keep K1 nin0) A1 hn htb hcs) rfl pd45 rfl rfl rfl rfl (by decide) (by decide) rfl d56_9 ?_
  rintro _ h2 _ ⟨_, rfl, i, rfl, hi, K2, hs2, q1, q2, rfl⟩ hO2 _
  refine Run.istore F d56_12 rfl ?_
  dsimp only [List.set]
  refine Run.iload F d56_14 rfl ?_
  refine Run.iloadN F d56_16 rfl ?_
  refine Run.icmp_eq F d56_17 (t := 64) rfl (i32_ti (by omega)) (i32_ti (by omega)) (fun q => ?_) (fun q => ?_)
  · obtain ⟨hla, A2⟩ := q1 (by omega)
    refine Run.aloadN F d56_64 rfl rfl ?_
    exact Run.areturn F rfl rfl (by decide) (by decide) d56_65 ⟨b, rfl, K1.trans K2 (allS (Or.inr (by omega)) all0), by omega, by rw [byOf, hla]; exact A2, rfl⟩
  · obtain ⟨ch, hch, hbig⟩ := q2 (by omega)
    have hc2 := hcs ch (List.mem_of_getElem? hch)
    have z1 : (0 : Int32) <<< ((1 : Int32) &&& 31) = 0 := by decide
    refine Run.aloadN F d56_20 rfl rfl ?_
    refine Run.iloadN F d56_21 rfl ?_
    refine Run.iconst F d56_22 (z := 1) rfl ?_
    refine Run.ishl F d56_23 ?_
    rw [z1]
    refine Run.iloadN F d56_24 rfl ?_
    refine Run.iloadN F d56_25 rfl ?_
    refine Run.iadd F d56_26 ?_
    rw [i32_z]
    refine Run.callStatic F (w49 hw) (w50 hw) (w37 hw) (w51 hw) (c_nbLenS l Z n0 a0 hw ds.length h2 Ls hO2 (by omega)) rfl pd3 rfl rfl rfl rfl (by decide) (by decide) rfl d56_27 ?_
    rintro _ _ _ ⟨_, rfl, rfl, rfl, rfl⟩ _ _
    refine Run.callStatic F (w267 hw) (w268 hw) (w119 hw) (w269 hw) (c_corS l Z n0 a0 hw v (2 * ds.length) (u16 (ds ++ es)) h2 Ls hO2 ((At.keep K1 nin0).keep K2 (ninN htb nin0)) (by omega) (by omega)) rfl pd27 rfl rfl rfl rfl (by decide) (by decide) rfl d56_30 ?_
    rintro _ h3 _ ⟨_, rfl, u, rfl, K3, hu, A3, rfl⟩ hO3 _
    rw [u16_take, List.take_left] at A3
    have hg := u16_get hch
    refine Run.astore F d56_33 rfl rfl ?_
    dsimp only [List.set]
    refine Run.aload F d56_35 rfl rfl ?_
    refine Run.iload F d56_37 rfl ?_
    refine Run.callStatic F (w59 hw) (w60 hw) (w37 hw) (w61 hw) (c_getChar l Z n0 a0 hw u i ch (u16 ds) UA UH UL h3 Ls hO3 A3 hg.1 hg.2 hc2.1 hc2.2) rfl pd8 rfl rfl rfl rfl (by decide) (by decide) rfl d56_39 ?_
    rintro _ _ _ ⟨_, rfl, rfl, rfl, rfl⟩ _ _
    refine Run.sipush F d56_42 (z := 255) rfl ?_
    refine Run.icmp_gt F d56_45 (t := 61) rfl rfl (yi := 255) rfl (fun _ => ?_) (fun q => by omega)
    have hla : lat ds = false := by
      rw [lat, List.all_eq_false]; exact ⟨ch, List.mem_of_getElem? hch, by simp; omega⟩
    refine Run.aload F d56_61 rfl rfl ?_
    exact Run.areturn F rfl rfl (by decide) (by decide) d56_63 ⟨u, rfl, (K1.trans K2 (allS (Or.inr (by omega)) all0)).trans K3 all0, by omega, by rw [byOf, hla]; exact A3, rfl⟩
theorem c_newStr1 (hw : HW Z a0) (v : Nat) (ds es : List Int32) {cz : Int32} (SC : sC Z cz) (hcz : cz.toInt ≠ 0) {sf : Value} (SF : sF Z sf) (hsf : sf.isRef = true) (UA : uA Z) (UH : uH Z) (UL : uL Z) (P : Nat → Nat → Prop) (lt : List (String × Addr)) (wS : ∀ a ∈ Bundle.stringAtoms, a.before a0 Z = true) (hcw : Jvm.Lit.compactW.before a0 Z = true) (hh151 : Jvm.Lit.constHeld Z "java/lang/StringLatin1" 151) (hh295 : Jvm.Lit.constHeld Z "java/lang/StringUTF16" 295) (h : Heap) (Ls : Lits) (hO : Old Z n0 h) (At : Av Z h v .byte ((ds ++ es).map lb)) (hes : 0 < es.length) (hcap : (ds ++ es).length ≤ 12) (hla : lat ds = true) (hP1 : ∀ a b : Nat, a < n0 → b < n0 → P a b) (hP2 : ∀ a b : Nat, h.size ≤ a → h.size ≤ b → P a b) (hLs : Ls = some lt) (LL : LIp Z P h lt) :
    Con l Z n0 (⟨"java/lang/StringLatin1", "newString", "([BII)Ljava/lang/String;"⟩ : MethodName) jdk_43_method_47_code 3 (some (.object "java/lang/String")) ⟨3, 2, 28, 50⟩ [.ref v, .int 0, .int (Int32.ofNat ds.length)] h Ls [] (RV fun w h' Ls' => ∃ (r b' : Nat) (lt' : List (String × Addr)), w = .ref r ∧ Keep h h' [] ∧ Str Z h' r b' (coOf ds) (byOf ds) ∧ P r b' ∧ Ls' = some lt' ∧ LIp Z P h' lt') := by
  refine Con.of_run (plainFor_of_name pn2) hO ?_
  intro pX eX sX mX bX tX cX F hX
  refine ⟨[.val (.ref v), .val (.int 0), .val (.int (Int32.ofNat ds.length))], rfl, ?_⟩
  subst hLs
  rw [List.length_append] at hcap
  have hul : ((ds ++ es).map lb).length = ds.length + es.length := by rw [List.length_map, List.length_append]
  refine Run.iloadN F d76_0 rfl ?_
  refine Run.if_ne F d76_1 (t := 7) rfl (i32_ti (by omega)) (fun q => ?_) (fun q => ?_)
  rotate_left
  · have hd0 : ds = [] := List.length_eq_zero_iff.mp (by omega)
    have e0 : litB "" = byOf ds := by rw [hd0]; simp [litB, byOf, lat]
    have e1 : coOf ds = 0 := by rw [hd0]; rfl
    refine Run.ldcS (text := "") (P := P) F (w428 hw) wS hh151 hcw (by simp) (fun t ht he => by have q := LL t ht; rw [he] at q; exact q) 0 (by simp) rfl (by decide) (by decide) d76_4 ?_
    intro h1 a b K1 S1 p1
    have pp : P a b := p1.elim (fun q => hP1 a b q.1 q.2) (fun q => q.elim (fun q => hP2 a b q.1 q.2) id)
    exact Run.areturn F rfl rfl (by decide) (by decide) d76_6 ⟨a, b, _, rfl, K1, by rw [e1, ← e0]; exact S1, pp, rfl, (LL.keep K1).cons S1 pp⟩
  have eC : coOf ds = 0 := by rw [coOf, hla]; rfl
  have eB : byOf ds = ds.map lb := by rw [byOf, hla]; rfl
  refine Run.new F (w341 hw) (w22 hw) (w23 hw) (by decide) (by decide) d76_7 ?_
  intro hN x hx KN ltN EN DN UN
  have ON : Old Z n0 hN := hO.keep KN all0
  have gx : n0 ≤ x := by rw [hx, ← hO.1]; exact hO.2.1
  have Fv := DN (O := "java/lang/String") (f := "value") (ds := "[B") (ty := .array .byte) (Or.inr (w68 hw)) (by decide)
  have Fc := DN (O := "java/lang/String") (f := "coder") (ds := "B") (ty := .byte) (Or.inr (w66 hw)) (by decide)
  have zN := KN.1
  refine Run.dup F d76_10 rfl ?_
  refine Run.aloadN F d76_11 rfl rfl ?_
  refine Run.iloadN F d76_12 rfl ?_
  refine Run.iloadN F d76_13 rfl ?_
  refine Run.iloadN F d76_14 rfl ?_
  refine Run.iadd F d76_15 ?_
  rw [i32_z]
  refine Run.callStatic F (w342 hw) (w268 hw) (w119 hw) (w269 hw) (c_corS l Z n0 a0 hw v ds.length ((ds ++ es).map lb) hN _ ON (At.keep KN nin0) (by omega) (by omega)) rfl pd27 rfl rfl rfl rfl (by decide) (by decide) rfl d76_16 ?_
  rintro _ h1 _ ⟨_, rfl, b, rfl, K1, hb, A1, rfl⟩ O1 _
  rw [List.map_append, List.take_left' (by rw [List.length_map])] at A1
  have lx := ltN
  refine Run.iconst F d76_19 (z := 0) rfl ?_
  refine Run.callInit F (w343 hw) (w228 hw) (w23 hw) (w229 hw) (c_initBB l Z n0 a0 hw x b 0 (ds.map lb) h1 _ O1 (EN.keep K1) (Fv.keep K1 nin0) (Fc.keep K1 nin0) gx A1 (by omega) rfl rfl) rfl rfl pd43 rfl rfl rfl rfl (by decide) (by decide) rfl d76_20 ?_
  rintro _ h2 _ ⟨rfl, K2, S2, rfl⟩ _ _
  show Run _ _ _ _ _ _ _ _ _ _ _ _ _ _ _ _ _ _ _ _ [Value.ref x]
  have KK : Keep h h2 [] := (KN.trans K1 all0).trans K2 (allS (Or.inr (by omega)) all0)
  exact Run.areturn F rfl rfl (by decide) (by decide) d76_23 ⟨x, b, lt, rfl, KK, by rw [eC, eB]; exact S2, hP2 x b (by omega) (by omega), rfl, LL.keep KK⟩
theorem c_newStr16 (hw : HW Z a0) (v : Nat) (ds es : List Int32) {cz : Int32} (SC : sC Z cz) (hcz : cz.toInt ≠ 0) {sf : Value} (SF : sF Z sf) (hsf : sf.isRef = true) (UA : uA Z) (UH : uH Z) (UL : uL Z) (P : Nat → Nat → Prop) (lt : List (String × Addr)) (wS : ∀ a ∈ Bundle.stringAtoms, a.before a0 Z = true) (hcw : Jvm.Lit.compactW.before a0 Z = true) (hh151 : Jvm.Lit.constHeld Z "java/lang/StringLatin1" 151) (hh295 : Jvm.Lit.constHeld Z "java/lang/StringUTF16" 295) (h : Heap) (Ls : Lits) (hO : Old Z n0 h) (At : Av Z h v .byte (u16 (ds ++ es))) (hes : 0 < es.length) (hcap : (ds ++ es).length ≤ 12) (hcs : ∀ c ∈ ds, 0 ≤ c.toInt ∧ c.toInt < 65536) (hP1 : ∀ a b : Nat, a < n0 → b < n0 → P a b) (hP2 : ∀ a b : Nat, h.size ≤ a → h.size ≤ b → P a b) (hLs : Ls = some lt) (LL : LIp Z P h lt) :
    Con l Z n0 (⟨"java/lang/StringUTF16", "newString", "([BII)Ljava/lang/String;"⟩ : MethodName) jdk_52_method_69_code 5 (some (.object "java/lang/String")) ⟨5, 3, 40, 78⟩ [.ref v, .int 0, .int (Int32.ofNat ds.length)] h Ls [] (RV fun w h' Ls' => ∃ (r b' : Nat) (lt' : List (String × Addr)), w = .ref r ∧ Keep h h' [] ∧ Str Z h' r b' (coOf ds) (byOf ds) ∧ P r b' ∧ Ls' = some lt' ∧ LIp Z P h' lt') := by
  refine Con.of_run (plainFor_of_name pn3) hO ?_
  intro pX eX sX mX bX tX cX F hX
  refine ⟨[.val (.ref v), .val (.int 0), .val (.int (Int32.ofNat ds.length)), .unset, .unset], rfl, ?_⟩
  subst hLs
  have hcap2 := hcap
  rw [List.length_append] at hcap2
  refine Run.iloadN F d55_0 rfl ?_
  refine Run.if_ne F d55_1 (t := 8) rfl (i32_ti (by omega)) (fun q => ?_) (fun q => ?_)
  rotate_left
  · have hd0 : ds = [] := List.length_eq_zero_iff.mp (by omega)
    have e0 : litB "" = byOf ds := by rw [hd0]; simp [litB, byOf, lat]
    have e1 : coOf ds = 0 := by rw [hd0]; rfl
    refine Run.ldcwS (text := "") (P := P) F (w429 hw) wS hh295 hcw (by simp) (fun t ht he => by have q := LL t ht; rw [he] at q; exact q) 0 (by simp) rfl (by decide) (by decide) d55_4 ?_
    intro h1 a b K1 S1 p1
    have pp : P a b := p1.elim (fun q => hP1 a b q.1 q.2) (fun q => q.elim (fun q => hP2 a b q.1 q.2) id)
    exact Run.areturn F rfl rfl (by decide) (by decide) d55_7 ⟨a, b, _, rfl, K1, by rw [e1, ← e0]; exact S1, pp, rfl, (LL.keep K1).cons S1 pp⟩
  have hpos : 0 < ds.length := by omega
  have hco : (XT.ushr (Int32.ofNat ds.length - Int32.ofNat (byOf ds).length) 31).toInt8.toInt32 = coOf ds := by
    cases hl : lat ds
    · rw [byOf, coOf, hl, if_neg (by simp), if_neg (by simp), u16_len]; exact coder1 hpos (by omega)
    · rw [byOf, coOf, hl, if_pos rfl, if_pos rfl, List.length_map]; exact coder0 _
  refine Run.getstatic F (w248 hw) Via.refl SC d55_8 ?_
  refine Run.if_eq F d55_11 (t := 39) rfl rfl (fun q => absurd q hcz) (fun _ => ?_)
  refine Run.aloadN F d55_14 rfl rfl ?_
  refine Run.iloadN F d55_15 rfl ?_
  refine Run.iloadN F d55_16 rfl ?_
  refine Run.callStatic F (w249 hw) (w250 hw) (w37 hw) (w251 hw) (c_cmpB l Z n0 a0 hw v ds es SF hsf UA UH UL h _ hO At hes hcap hcs) rfl pd27 rfl rfl rfl rfl (by decide) (by decide) rfl d55_17 ?_
  rintro _ h1 _ ⟨_, rfl, b, rfl, K1, hb, A1, rfl⟩ hO1 hz1
  refine Run.astoreN F d55_20 rfl rfl ?_
  dsimp only [List.set]
  refine Run.aloadN F d55_21 rfl rfl ?_
  refine Run.iloadN F d55_22 rfl ?_
  refine Run.callStatic F (w276 hw) (w63 hw) (w37 hw) (w64 hw) (c_coderLen l Z n0 a0 hw b (Int32.ofNat ds.length) (coOf ds) (byOf ds) h1 _ hO1 A1 hco (co8 _)) rfl pd9 rfl rfl rfl rfl (by decide) (by decide) rfl d55_23 ?_
  rintro _ _ _ ⟨_, rfl, rfl, rfl, rfl⟩ _ _
  refine Run.istore F d55_26 rfl ?_
  dsimp only [List.set]
  refine Run.new F (w277 hw) (w22 hw) (w23 hw) (by decide) (by decide) d55_28 ?_
  intro hN x hx KN ltN EN DN UN
  have ON : Old Z n0 hN := hO1.keep KN all0
  have gx : n0 ≤ x := by rw [hx, ← hO1.1]; exact hO1.2.1
  have lb1 := A1.lt
  have Fv := DN (O := "java/lang/String") (f := "value") (ds := "[B") (ty := .array .byte) (Or.inr (w68 hw)) (by decide)
  have Fc := DN (O := "java/lang/String") (f := "coder") (ds := "B") (ty := .byte) (Or.inr (w66 hw)) (by decide)
  have zN := KN.1
  refine Run.dup F d55_31 rfl ?_
  refine Run.aloadN F d55_32 rfl rfl ?_
  refine Run.iload F d55_33 rfl ?_
  refine Run.callInit F (w278 hw) (w228 hw) (w23 hw) (w229 hw) (c_initBB l Z n0 a0 hw x b (coOf ds) (byOf ds) hN _ ON EN Fv Fc gx (A1.keep KN nin0) (by omega) (co8 _) (cofit _)) rfl rfl pd43 rfl rfl rfl rfl (by decide) (by decide) rfl d55_35 ?_
  rintro _ h2 _ ⟨rfl, K2, S2, rfl⟩ _ _
  show Run _ _ _ _ _ _ _ _ _ _ _ _ _ _ _ _ _ _ _ _ [Value.ref x]
  have KK : Keep h h2 [] := (K1.trans KN all0).trans K2 (allS (Or.inr (by omega)) all0)
  exact Run.areturn F rfl rfl (by decide) (by decide) d55_38 ⟨x, b, lt, rfl, KK, S2, hP2 x b (by omega) (by omega), rfl, LL.keep KK⟩
theorem c_substr (hw : HW Z a0) (x b : Nat) (ds es : List Int32) {cz : Int32} (SC : sC Z cz) (hcz : cz.toInt ≠ 0) {sf : Value} (SF : sF Z sf) (hsf : sf.isRef = true) (UA : uA Z) (UH : uH Z) (UL : uL Z) (P : Nat → Nat → Prop) (lt : List (String × Addr)) (wS : ∀ a ∈ Bundle.stringAtoms, a.before a0 Z = true) (hcw : Jvm.Lit.compactW.before a0 Z = true) (hh151 : Jvm.Lit.constHeld Z "java/lang/StringLatin1" 151) (hh295 : Jvm.Lit.constHeld Z "java/lang/StringUTF16" 295) (h : Heap) (Ls : Lits) (hO : Old Z n0 h) (S : Str Z h x b (coOf (ds ++ es)) (byOf (ds ++ es))) (hcap : (ds ++ es).length ≤ 12) (hcs : ∀ c ∈ ds, 0 ≤ c.toInt ∧ c.toInt < 65536) (hPs : P x b) (hP1 : ∀ a b : Nat, a < n0 → b < n0 → P a b) (hP2 : ∀ a b : Nat, h.size ≤ a → h.size ≤ b → P a b) (hLs : Ls = some lt) (LL : LIp Z P h lt) :
    Con l Z n0 (⟨"java/lang/String", "substring", "(II)Ljava/lang/String;"⟩ : MethodName) jdk_42_method_92_code 5 (some (.object "java/lang/String")) ⟨6, 3, 40, 94⟩ [.ref x, .int 0, .int (Int32.ofNat ds.length)] h Ls [] (RV fun w h' Ls' => ∃ (r b' : Nat) (lt' : List (String × Addr)), w = .ref r ∧ Keep h h' [] ∧ Str Z h' r b' (coOf ds) (byOf ds) ∧ P r b' ∧ Ls' = some lt' ∧ LIp Z P h' lt') := by
  refine Con.of_run (plainFor_of_name pn0) hO ?_
  intro pX eX sX mX bX tX cX F hX
  refine ⟨[.val (.ref x), .val (.int 0), .val (.int (Int32.ofNat ds.length)), .unset, .unset], rfl, ?_⟩
  have hcap2 := hcap
  rw [List.length_append] at hcap2
  have hal : (ds ++ es).length = ds.length + es.length := List.length_append
  refine Run.aloadN F d52_0 rfl rfl ?_
  refine Run.callVirtual F (w238 hw) (w167 hw) (nfs (w169 hw)) (w169 hw) (w168 hw) (w23 hw) (w170 hw) S.1 (c_length l Z n0 a0 hw x b (coOf (ds ++ es)) (Int32.ofNat (ds ++ es).length) (byOf (ds ++ es)) SC hcz h Ls hO S (co8 _) (lenOf2 (by omega))) rfl pd14 rfl rfl rfl rfl (by decide) (by decide) rfl d52_1 ?_
  rintro _ _ _ ⟨_, rfl, rfl, rfl, rfl⟩ _ _
  refine Run.istoreN F d52_4 rfl ?_
  dsimp only [List.set]
  refine Run.iloadN F d52_5 rfl ?_
  refine Run.iloadN F d52_6 rfl ?_
  refine Run.iloadN F d52_7 rfl ?_
  refine Run.callStatic F (w239 hw) (w240 hw) (w23 hw) (w241 hw) (c_cbbe l Z n0 a0 hw ds.length (ds ++ es).length SF hsf h Ls hO (by omega) (by omega)) rfl pd46 rfl rfl rfl rfl (by decide) (by decide) rfl d52_8 ?_
  rintro _ _ _ ⟨rfl, rfl, rfl⟩ _ _
  show Run _ _ _ _ _ _ _ _ _ _ _ _ _ _ _ _ _ _ _ _ []
  refine Run.iloadN F d52_11 rfl ?_
  refine Run.ifNo F d52_12 rfl ?_
  refine Run.iloadN F d52_15 rfl ?_
  refine Run.iloadN F d52_16 rfl ?_
  refine Run.icmp_ne F d52_17 (t := 22) rfl (i32_ti (by omega)) (i32_ti (by omega)) (fun q => ?_) (fun q => ?_)
  rotate_left
  · have he : es = [] := List.length_eq_zero_iff.mp (by omega)
    rw [he, List.append_nil] at S
    refine Run.aloadN F d52_20 rfl rfl ?_
    exact Run.areturn F rfl rfl (by decide) (by decide) d52_21 ⟨x, b, lt, rfl, Keep.refl _ _, S, hPs, hLs, LL⟩
  have hes : 0 < es.length := by omega
  refine Run.iloadN F d52_22 rfl ?_
  refine Run.iloadN F d52_23 rfl ?_
  refine Run.isub F d52_24 ?_
  rw [i32_s]
  refine Run.istore F d52_25 rfl ?_
  dsimp only [List.set]
  refine Run.aloadN F d52_27 rfl rfl ?_
  refine Run.callVirtual F (w176 hw) (w177 hw) (nfs (w179 hw)) (w179 hw) (w178 hw) (w23 hw) (w180 hw) S.1 (c_isLatin1 l Z n0 a0 hw x (coOf (ds ++ es)) SC hcz h Ls hO S.2.1) rfl pd13 rfl rfl rfl rfl (by decide) (by decide) rfl d52_28 ?_
  rintro _ _ _ ⟨_, rfl, rfl, rfl, rfl⟩ _ _
  cases hl : lat (ds ++ es)
  · have e1 : coOf (ds ++ es) = 1 := by rw [coOf, hl]; rfl
    have e2 : byOf (ds ++ es) = u16 (ds ++ es) := by rw [byOf, hl]; rfl
    rw [e1, e2] at S
    rw [e1]
    refine Run.ifB_eq F d52_31 (t := 47) rfl (fun _ => ?_) (fun q => absurd q (by decide))
    refine Run.aloadN F d52_47 rfl rfl ?_
    refine Run.getfield F (host := "") (Or.inl (w67 hw)) Via.refl S.2.2.1 d52_48 ?_
    refine Run.iloadN F d52_51 rfl ?_
    refine Run.iload F d52_52 rfl ?_
    refine Run.callStatic F (w245 hw) (w246 hw) (w37 hw) (w247 hw) (c_newStr16 l Z n0 a0 hw b ds es SC hcz SF hsf UA UH UL P lt wS hcw hh151 hh295 h Ls hO S.2.2.2 hes hcap hcs hP1 hP2 hLs LL) rfl pd47 rfl rfl rfl rfl (by decide) (by decide) rfl d52_54 ?_
    rintro _ h1 _ ⟨_, rfl, r, b', lt', rfl, hq⟩ _ _
    exact Run.areturn F rfl rfl (by decide) (by decide) d52_57 ⟨r, b', lt', rfl, hq⟩
  · have e1 : coOf (ds ++ es) = 0 := by rw [coOf, hl]; rfl
    have e2 : byOf (ds ++ es) = (ds ++ es).map lb := by rw [byOf, hl]; rfl
    have hld : lat ds = true := by rw [lat_app, Bool.and_eq_true] at hl; exact hl.1
    rw [e1, e2] at S
    rw [e1]
    refine Run.ifB_eq F d52_31 (t := 47) rfl (fun q => absurd q (by decide)) (fun _ => ?_)
    refine Run.aloadN F d52_34 rfl rfl ?_
    refine Run.getfield F (host := "") (Or.inl (w67 hw)) Via.refl S.2.2.1 d52_35 ?_
    refine Run.iloadN F d52_38 rfl ?_
    refine Run.iload F d52_39 rfl ?_
    refine Run.callStatic F (w338 hw) (w339 hw) (w206 hw) (w340 hw) (c_newStr1 l Z n0 a0 hw b ds es SC hcz SF hsf UA UH UL P lt wS hcw hh151 hh295 h Ls hO S.2.2.2 hes hcap hld hP1 hP2 hLs LL) rfl pd47 rfl rfl rfl rfl (by decide) (by decide) rfl d52_41 ?_
    rintro _ h1 _ ⟨_, rfl, r, b', lt', rfl, hq⟩ _ _
    refine Run.goto F d52_44 (t := 57) rfl ?_
    exact Run.areturn F rfl rfl (by decide) (by decide) d52_57 ⟨r, b', lt', rfl, hq⟩
theorem c_infl16 (hw : HW Z a0) (x v y : Nat) (u : Bool) (cap : Nat) (ds : List Int32) {cz : Int32} (SC : sC Z cz) (hcz : cz.toInt ≠ 0) {sf : Value} (SF : sF Z sf) (hsf : sf.isRef = true) (UA : uA Z) (UH : uH Z) (UL : uL Z) (h : Heap) (Ls : Lits) (hO : Old Z n0 h) (S : Sb Z h x v u cap ds) (g : n0 ≤ x) (gv : n0 ≤ v) (hcap : cap ≤ wd u * 102) (hla : u = false → ∀ c ∈ ds, 0 ≤ c.toInt ∧ c.toInt < 256) (Ey : Exa Z h y "java/lang/String") (Fy : Fld Z h y "java/lang/String" "coder" "B" (.int 1)) :
    Con l Z n0 (⟨"java/lang/AbstractStringBuilder", "inflateIfNeededFor", "(Ljava/lang/String;)V"⟩ : MethodName) jdk_68_method_71_code 2 none ⟨6, 1, 204, 89⟩ [.ref x, .ref y] h Ls [] (RN fun h' Ls' => ∃ v' cap' : Nat, Sb Z h' x v' true cap' ds ∧ n0 ≤ v' ∧ cap' ≤ 204 ∧ (∀ M : Nat, wd u * M ≤ cap → 2 * M ≤ cap') ∧ Keep h h' [x] ∧ (v' = v ∨ h.size ≤ v') ∧ Ls = Ls') := by
  refine Con.of_run (plainFor_of_name pn4) hO ?_
  intro pX eX sX mX bX tX cX F hX
  refine ⟨[.val (.ref x), .val (.ref y)], rfl, ?_⟩
  refine Run.getstatic F (w158 hw) Via.refl SC d69_0 ?_
  refine Run.if_eq F d69_3 (t := 21) rfl rfl (fun q => absurd q hcz) (fun _ => ?_)
  refine Run.aloadN F d69_6 rfl rfl ?_
  refine Run.getfield F (host := "") (Or.inl (w161 hw)) Via.refl S.2.2.1 d69_7 ?_
  refine Run.aloadN F d69_10 rfl rfl ?_
  refine Run.callVirtual F (w307 hw) (w84 hw) (nfs (w86 hw)) (w86 hw) (w85 hw) (w23 hw) (w87 hw) Ey (c_coder l Z n0 a0 hw y 1 SC hcz h Ls hO Fy rfl) rfl pd0 rfl rfl rfl rfl (by decide) (by decide) rfl d69_11 ?_
  rintro _ _ _ ⟨_, rfl, rfl, rfl, rfl⟩ _ _
  cases u
  · refine Run.icmpNo F d69_14 rfl ?_
    have w1 : wd false = 1 := rfl
    rw [w1] at hcap
    refine Run.aloadN F d69_17 rfl rfl ?_
    refine Run.callVirtual F (w308 hw) (decl_of (w309 hw) (w312 hw)) (nfs (w311 hw)) (w311 hw) (w309 hw) (w155 hw) (w312 hw) S.1 (c_asbInflF l Z n0 a0 hw x v cap ds SC hcz SF hsf UA UH UL h Ls hO S g (by omega) (hla rfl)) rfl pd21 rfl rfl rfl rfl (by decide) (by decide) rfl d69_18 ?_
    rintro _ h1 _ ⟨rfl, v', S1, K1, hv, rfl⟩ _ _
    have g2 : n0 ≤ v' := by have := hO.2.1; rw [hO.1] at this; omega
    exact Run.return_ F (by decide) (by decide) d69_21 ⟨v', 2 * cap, S1, g2, by omega, fun M hM => by rw [w1] at hM; omega, K1, Or.inr hv, rfl⟩
  · refine Run.icmpYes F d69_14 (t := 21) rfl rfl ?_
    have w1 : wd true = 2 := rfl
    rw [w1] at hcap
    exact Run.return_ F (by decide) (by decide) d69_21 ⟨v, cap, S, gv, by omega, fun M hM => by rw [w1] at hM; omega, Keep.refl _ _, Or.inl rfl, rfl⟩
theorem c_getBytes16 (hw : HW Z a0) (y b t : Nat) (cs : List Int32) (o : Nat) (pr rs : List Value) {cz : Int32} (SC : sC Z cz) (hcz : cz.toInt ≠ 0) (h : Heap) (Ls : Lits) (hO : Old Z n0 h) (S : Str Z h y b 1 (u16 cs)) (Ad : Av Z h t .byte (pr ++ rs)) (g : n0 ≤ t) (hpr : pr.length = 2 * o) (hrs : 2 * cs.length ≤ rs.length) :
    Con l Z n0 (⟨"java/lang/String", "getBytes", "([BIB)V"⟩ : MethodName) jdk_42_method_147_code 4 none ⟨1, 0, 0, 18⟩ [.ref y, .ref t, .int (Int32.ofNat o), .int 1] h Ls [] (RN fun h' Ls' => Keep h h' [t] ∧ Av Z h' t .byte (pr ++ u16 cs ++ rs.drop (2 * cs.length)) ∧ Ls = Ls') := by
  refine Con.of_run (plainFor_of_name pn0) hO ?_
  intro pX eX sX mX bX tX cX F hX
  refine ⟨[.val (.ref y), .val (.ref t), .val (.int (Int32.ofNat o)), .val (.int 1)], rfl, ?_⟩
  have hld := Ad.len
  rw [List.length_append] at hld
  have hul := u16_len cs
  refine Run.aloadN F d74_0 rfl rfl ?_
  refine Run.callVirtual F (w83 hw) (w84 hw) (nfs (w86 hw)) (w86 hw) (w85 hw) (w23 hw) (w87 hw) S.1 (c_coder l Z n0 a0 hw y 1 SC hcz h Ls hO S.2.1 rfl) rfl pd0 rfl rfl rfl rfl (by decide) (by decide) rfl d74_1 ?_
  rintro _ _ _ ⟨_, rfl, rfl, rfl, rfl⟩ _ _
  refine Run.iloadN F d74_4 rfl ?_
  refine Run.icmpNo F d74_5 rfl ?_
  refine Run.aloadN F d74_8 rfl rfl ?_
  refine Run.getfield F (host := "") (Or.inl (w67 hw)) Via.refl S.2.2.1 d74_9 ?_
  refine Run.iconst F d74_12 (z := 0) rfl ?_
  refine Run.aloadN F d74_13 rfl rfl ?_
  refine Run.iloadN F d74_14 rfl ?_
  refine Run.iloadN F d74_15 rfl ?_
  refine Run.ishl F d74_16 ?_
  rw [i32_dbl (by omega)]
  refine Run.aloadN F d74_17 rfl rfl ?_
  refine Run.getfield F (host := "") (Or.inl (w67 hw)) Via.refl S.2.2.1 d74_18 ?_
  refine Run.arrlen F S.2.2.2 d74_21 ?_
  rw [hul]
  refine Run.arraycopy F (w330 hw) (w128 hw) (w126 hw) (w127 hw) S.2.2.2 Ad rfl g (sp := 0) rfl (dp := 2 * o) (i32_ti (by omega)) (nn := 2 * cs.length) (i32_ti (by omega)) (by omega) (by rw [List.length_append]; omega) (us := u16 cs) (by rw [List.drop_zero, List.take_of_length_le (by omega)]) rfl rfl rfl d74_22 ?_
  intro h1 K1 A1
  refine Run.goto F d74_25 (t := 43) rfl ?_
  refine Run.return_ F (by decide) (by decide) d74_43 ⟨K1, ?_, rfl⟩
  rw [← hpr, List.take_left, List.drop_append] at A1
  have e4 : pr.length + 2 * cs.length - pr.length = 2 * cs.length := by omega
  rw [e4, List.drop_eq_nil_of_le (by omega), List.nil_append] at A1
  exact A1
theorem c_putAt16 (hw : HW Z a0) (x v y b : Nat) (u : Bool) (cap : Nat) (ds cs : List Int32) {cz : Int32} (SC : sC Z cz) (hcz : cz.toInt ≠ 0) {sf : Value} (SF : sF Z sf) (hsf : sf.isRef = true) (UA : uA Z) (UH : uH Z) (UL : uL Z) (h : Heap) (Ls : Lits) (hO : Old Z n0 h) (S : Sb Z h x v u cap ds) (T : Str Z h y b 1 (u16 cs)) (g : n0 ≤ x) (gv : n0 ≤ v) (hyx : y ≠ x ∧ b ≠ x) (hcap : cap ≤ wd u * 102) (hla : u = false → ∀ c ∈ ds, 0 ≤ c.toInt ∧ c.toInt < 256) (hroom : wd u * (ds.length + cs.length) ≤ cap) :
    Con l Z n0 (⟨"java/lang/AbstractStringBuilder", "putStringAt", "(ILjava/lang/String;)V"⟩ : MethodName) jdk_68_method_73_code 3 none ⟨7, 1, 204, 102⟩ [.ref x, .int (Int32.ofNat ds.length), .ref y] h Ls [] (RN fun h' Ls' => ∃ v' cap' : Nat, (Exa Z h' x SBN ∧ Fld Z h' x ASB "value" "[B" (.ref v') ∧ Fld Z h' x ASB "coder" "B" (.int (b2i true)) ∧ Fld Z h' x ASB "count" "I" (.int (Int32.ofNat ds.length)) ∧ Fld Z h' x ASB "maybeLatin1" "Z" (.int 0) ∧ Exa Z h' v' "[B" ∧ ∃ tl : List Value, tl.length + 2 * (ds.length + cs.length) = cap' ∧ Av Z h' v' .byte (byts true (ds ++ cs) ++ tl)) ∧ n0 ≤ v' ∧ cap' ≤ 204 ∧ Keep h h' [x, v] ∧ (v' = v ∨ h.size ≤ v') ∧ Ls = Ls') := by
  refine Con.of_run (plainFor_of_name pn4) hO ?_
  intro pX eX sX mX bX tX cX F hX
  refine ⟨[.val (.ref x), .val (.int (Int32.ofNat ds.length)), .val (.ref y)], rfl, ?_⟩
  refine Run.aloadN F d68_0 rfl rfl ?_
  refine Run.aloadN F d68_1 rfl rfl ?_
  refine Run.callVirtual F (w302 hw) (decl_of (w303 hw) (w306 hw)) (nfs (w305 hw)) (w305 hw) (w303 hw) (w155 hw) (w306 hw) S.1 (c_infl16 l Z n0 a0 hw x v y u cap ds SC hcz SF hsf UA UH UL h Ls hO S g gv hcap hla T.1 T.2.1) rfl pd22 rfl rfl rfl rfl (by decide) (by decide) rfl d68_2 ?_
  rintro _ h1 _ ⟨rfl, v1, cap1, S1, gv1, hc1, hM, K1, hv1, rfl⟩ hO1 _
  show Run _ _ _ _ _ _ _ _ _ _ _ _ _ _ _ _ _ _ _ _ []
  have hroom1 := hM _ hroom
  have T1 : Str Z h1 y b 1 (u16 cs) := T.keep K1 (ninN hyx.1 nin0) (ninN hyx.2 nin0)
  have nxv := S1.ne
  obtain ⟨E, Fv, Fc, Fn, Fm, Ev, tl, ht, A⟩ := S1
  have w2 : wd true = 2 := rfl
  rw [w2] at ht
  refine Run.aloadN F d68_5 rfl rfl ?_
  refine Run.aloadN F d68_6 rfl rfl ?_
  refine Run.getfield F (host := "") (Or.inl (w159 hw)) Via.refl Fv d68_7 ?_
  refine Run.iloadN F d68_10 rfl ?_
  refine Run.aloadN F d68_11 rfl rfl ?_
  refine Run.getfield F (host := "") (Or.inl (w161 hw)) Via.refl Fc d68_12 ?_
  refine Run.callVirtual F (w325 hw) (w326 hw) (nfs (w328 hw)) (w328 hw) (w327 hw) (w23 hw) (w329 hw) T1.1 (c_getBytes16 l Z n0 a0 hw y b v1 cs ds.length (byts true ds) tl SC hcz h1 Ls hO1 T1 A gv1 (byts_len true ds) (by omega)) rfl pd23 rfl rfl rfl rfl (by decide) (by decide) rfl d68_15 ?_
  rintro _ h2 _ ⟨rfl, K2, A2, rfl⟩ _ _
  have hx2 : x ∉ [v1] := ninN nxv nin0
  have K12 : Keep h h2 [x, v] := (K1.mono (ws' := [x, v]) (by simp)).trans K2 (allS (hv1.elim (fun q => Or.inl (q ▸ mem3)) Or.inr) all0)
  exact Run.return_ F (by decide) (by decide) d68_18 ⟨v1, cap1, ⟨E.keep K2, Fv.keep K2 hx2, Fc.keep K2 hx2, Fn.keep K2 hx2, Fm.keep K2 hx2, Ev.keep K2, tl.drop (2 * cs.length), by rw [List.length_drop]; omega, by rw [byts_app]; exact A2⟩, gv1, hc1, K12, hv1, rfl⟩
theorem c_asbAppG (hw : HW Z a0) (x v y b : Nat) (u : Bool) (cap : Nat) (ds cs : List Int32) {cz : Int32} (SC : sC Z cz) (hcz : cz.toInt ≠ 0) {sf : Value} (SF : sF Z sf) (hsf : sf.isRef = true) (UA : uA Z) (UH : uH Z) (UL : uL Z) (h : Heap) (Ls : Lits) (hO : Old Z n0 h) (S : Sb Z h x v u cap ds) (T : Str Z h y b (coOf cs) (byOf cs)) (g : n0 ≤ x) (gv : n0 ≤ v) (hap : Apt x v y b) (hcs : ∀ c ∈ cs, 0 ≤ c.toInt ∧ c.toInt < 65536) (hla : u = false → ∀ c ∈ ds, 0 ≤ c.toInt ∧ c.toInt < 256) (hcap : cap ≤ wd u * 102) (hds : ds.length + cs.length ≤ 50) :
    Con l Z n0 (⟨"java/lang/AbstractStringBuilder", "append", "(Ljava/lang/String;)Ljava/lang/AbstractStringBuilder;"⟩ : MethodName) jdk_68_method_22_code 3 (some (.object "java/lang/AbstractStringBuilder")) ⟨8, 2, 408, 116⟩ [.ref x, .ref y] h Ls [] (RV fun w h' Ls' => w = .ref x ∧ ∃ v' cap' : Nat, Sb Z h' x v' (u || !lat cs) cap' (ds ++ cs) ∧ n0 ≤ v' ∧ cap' ≤ wd (u || !lat cs) * 102 ∧ Keep h h' [x, v] ∧ (v' = v ∨ h.size ≤ v') ∧ Ls = Ls') := by
  refine Con.of_run (plainFor_of_name pn4) hO ?_
  intro pX eX sX mX bX tX cX F hX
  refine ⟨[.val (.ref x), .val (.ref y), .unset], rfl, ?_⟩
  have n1 : Jvm.RoadKit.slotOf Z ASB "value" "[B" ≠ Jvm.RoadKit.slotOf Z ASB "count" "I" := slot_ne (a0 := a0) (C := "java/lang/StringBuilder") (Or.inl (w160 hw)) (Or.inl (w291 hw)) (by decide) (t := (.array .byte)) (t' := .int) (by decide) (by decide)
  have n2 : Jvm.RoadKit.slotOf Z ASB "coder" "B" ≠ Jvm.RoadKit.slotOf Z ASB "count" "I" := slot_ne (a0 := a0) (C := "java/lang/StringBuilder") (Or.inl (w162 hw)) (Or.inl (w291 hw)) (by decide) (t := .byte) (t' := .int) (by decide) (by decide)
  have n3 : Jvm.RoadKit.slotOf Z ASB "maybeLatin1" "Z" ≠ Jvm.RoadKit.slotOf Z ASB "count" "I" := slot_ne (a0 := a0) (C := "java/lang/StringBuilder") (Or.inl (w386 hw)) (Or.inl (w291 hw)) (by decide) (t := .boolean) (t' := .int) (by decide) (by decide)
  refine Run.aloadN F d66_0 rfl rfl ?_
  refine Run.ifnonnullYes F d66_1 (t := 9) rfl ?_
  refine Run.aloadN F d66_9 rfl rfl ?_
  refine Run.callVirtual F (w289 hw) (w167 hw) (nfs (w169 hw)) (w169 hw) (w168 hw) (w23 hw) (w170 hw) T.1 (c_length l Z n0 a0 hw y b (coOf cs) (Int32.ofNat cs.length) (byOf cs) SC hcz h Ls hO T (co8 _) (lenOf2 (by omega))) rfl pd14 rfl rfl rfl rfl (by decide) (by decide) rfl d66_10 ?_
  rintro _ _ _ ⟨_, rfl, rfl, rfl, rfl⟩ _ _
  refine Run.istoreN F d66_13 rfl ?_
  dsimp only [List.set]
  refine Run.aloadN F d66_14 rfl rfl ?_
  refine Run.aloadN F d66_15 rfl rfl ?_
  refine Run.getfield F (host := "") (Or.inl (w290 hw)) Via.refl S.2.2.2.1 d66_16 ?_
  refine Run.iloadN F d66_19 rfl ?_
  refine Run.iadd F d66_20 ?_
  rw [i32_add (by omega)]
  refine Run.callVirtual F (w292 hw) (decl_of (w293 hw) (w296 hw)) (nfs (w295 hw)) (w295 hw) (w293 hw) (w155 hw) (w296 hw) S.1 (c_ensure l Z n0 a0 hw x v u cap (ds.length + cs.length) ds h Ls hO S g hds hcap) rfl pd24 rfl rfl rfl rfl (by decide) (by decide) rfl d66_21 ?_
  rintro _ h1 _ ⟨rfl, v1, cap1, S1, hc1, hc1', K1, hv1, rfl⟩ hO1 hz1
  show Run _ _ _ _ _ _ _ _ _ _ _ _ _ _ _ _ _ _ _ _ []
  have gv1 : n0 ≤ v1 := by
    have := hO.2.1
    rcases hv1 with rfl | q
    · exact gv
    · rw [hO.1] at this; omega
  have la := T.la
  have lbb := T.lb
  obtain ⟨p1, p2, p3, p4⟩ := hap
  have T1 : Str Z h1 y b (coOf cs) (byOf cs) := T.keep K1 (ninN p1 nin0) (ninN p3 nin0)
  have hb1 : b ≠ v1 := by
    rcases hv1 with rfl | q
    · exact p4
    · omega
  refine Run.aloadN F d66_24 rfl rfl ?_
  refine Run.aloadN F d66_25 rfl rfl ?_
  refine Run.getfield F (host := "") (Or.inl (w290 hw)) Via.refl S1.2.2.2.1 d66_26 ?_
  refine Run.aloadN F d66_29 rfl rfl ?_
  cases hl : lat cs
  · have e1 : coOf cs = 1 := by rw [coOf, hl]; rfl
    have e2 : byOf cs = u16 cs := by rw [byOf, hl]; rfl
    rw [e1, e2] at T1
    have eu : (u || !false) = true := by simp
    rw [eu]
    refine Run.callVirtual F (w297 hw) (decl_of (w298 hw) (w301 hw)) (nfs (w300 hw)) (w300 hw) (w298 hw) (w155 hw) (w301 hw) S1.1 (c_putAt16 l Z n0 a0 hw x v1 y b u cap1 ds cs SC hcz SF hsf UA UH UL h1 Ls hO1 S1 T1 g gv1 ⟨p1, p3⟩ hc1' hla hc1) rfl pd25 rfl rfl rfl rfl (by decide) (by decide) rfl d66_30 ?_
    rintro _ h2 _ ⟨rfl, v2, cap2, ⟨E, Fv, Fc, Fn, Fm, Ev, tl2, ht2, A2⟩, gv2, hc2, K2, hv2, rfl⟩ hO2 _
    show Run _ _ _ _ _ _ _ _ _ _ _ _ _ _ _ _ _ _ _ _ []
    have nxv : x ≠ v2 := Exa.ne E Ev (by decide)
    refine Run.aloadN F d66_33 rfl rfl ?_
    refine Run.dup F d66_34 rfl ?_
    refine Run.getfield F (host := "") (Or.inl (w290 hw)) Via.refl Fn d66_35 ?_
    refine Run.iloadN F d66_38 rfl ?_
    refine Run.iadd F d66_39 ?_
    rw [i32_add (by omega)]
    refine Run.putfield F (w290 hw) Via.refl Fn E g (Or.inl (w291 hw)) (w146 hw) (ty := .int) (by decide) (v' := .int (Int32.ofNat (ds.length + cs.length))) rfl rfl d66_40 ?_
    intro h3 W3 K3 hs3 F3
    have hln : Int32.ofNat (ds ++ cs).length = Int32.ofNat (ds.length + cs.length) := by simp
    have hv3 : v2 ∉ [x] := ninN (Ne.symm nxv) nin0
    have w2 : wd true = 2 := rfl
    have S3 : Sb Z h3 x v2 true cap2 (ds ++ cs) := ⟨E.keep K3, Fv.other W3 (Or.inr n1), Fc.other W3 (Or.inr n2), by rw [hln]; exact F3, Fm.other W3 (Or.inr n3), Ev.keep K3, tl2, by rw [List.length_append, w2]; exact ht2, A2.keep K3 hv3⟩
    have hfin : v2 = v ∨ h.size ≤ v2 := by
      have := K1.1
      rcases hv2 with rfl | q
      · exact hv1
      · exact Or.inr (by omega)
    have K03 : Keep h h3 [x, v] := ((K1.mono (ws' := [x, v]) (by simp)).trans K2 (allS (Or.inl mem2) (allS (hv1.elim (fun q => Or.inl (q ▸ mem3)) Or.inr) all0))).trans K3 (allS (Or.inl mem2) all0)
    refine Run.aloadN F d66_43 rfl rfl ?_
    exact Run.areturn F rfl rfl (by decide) (by decide) d66_44 ⟨rfl, v2, cap2, S3, gv2, by rw [w2]; omega, K03, hfin, rfl⟩
  · have e1 : coOf cs = 0 := by rw [coOf, hl]; rfl
    have e2 : byOf cs = cs.map lb := by rw [byOf, hl]; rfl
    have h8 : ∀ c ∈ cs, 0 ≤ c.toInt ∧ c.toInt < 256 := lat_lt (by rw [hl]; rfl) hcs
    rw [e1, e2] at T1
    have eu : (u || !true) = u := by simp
    rw [eu]
    refine Run.callVirtual F (w297 hw) (decl_of (w298 hw) (w301 hw)) (nfs (w300 hw)) (w300 hw) (w298 hw) (w155 hw) (w301 hw) S1.1 (c_putAt l Z n0 a0 hw x v1 y b u cap1 ds cs SC hcz SF hsf UA UH UL h1 Ls hO1 S1 T1 g gv1 hb1 h8 hc1) rfl pd25 rfl rfl rfl rfl (by decide) (by decide) rfl d66_30 ?_
    rintro _ h2 _ ⟨rfl, K2, ⟨tl2, ht2, A2⟩, rfl⟩ hO2 _
    show Run _ _ _ _ _ _ _ _ _ _ _ _ _ _ _ _ _ _ _ _ []
    have nxv := S1.ne
    have hx2 : x ∉ [v1] := ninN nxv nin0
    obtain ⟨E, Fv, Fc, Fn, Fm, Ev, -⟩ := S1
    refine Run.aloadN F d66_33 rfl rfl ?_
    refine Run.dup F d66_34 rfl ?_
    refine Run.getfield F (host := "") (Or.inl (w290 hw)) Via.refl (Fn.keep K2 hx2) d66_35 ?_
    refine Run.iloadN F d66_38 rfl ?_
    refine Run.iadd F d66_39 ?_
    rw [i32_add (by omega)]
    refine Run.putfield F (w290 hw) Via.refl (Fn.keep K2 hx2) (E.keep K2) g (Or.inl (w291 hw)) (w146 hw) (ty := .int) (by decide) (v' := .int (Int32.ofNat (ds.length + cs.length))) rfl rfl d66_40 ?_
    intro h3 W3 K3 hs3 F3
    have hln : Int32.ofNat (ds ++ cs).length = Int32.ofNat (ds.length + cs.length) := by simp
    have hv3 : v1 ∉ [x] := ninN (Ne.symm nxv) nin0
    have S3 : Sb Z h3 x v1 u cap1 (ds ++ cs) := ⟨(E.keep K2).keep K3, (Fv.keep K2 hx2).other W3 (Or.inr n1), (Fc.keep K2 hx2).other W3 (Or.inr n2), by rw [hln]; exact F3, (Fm.keep K2 hx2).other W3 (Or.inr n3), (Ev.keep K2).keep K3, tl2, by rw [List.length_append]; exact ht2, A2.keep K3 hv3⟩
    have K03 : Keep h h3 [x, v] := ((K1.mono (ws' := [x, v]) (by simp)).trans K2 (allS (hv1.elim (fun q => Or.inl (q ▸ mem3)) Or.inr) all0)).trans K3 (allS (Or.inl mem2) all0)
    refine Run.aloadN F d66_43 rfl rfl ?_
    exact Run.areturn F rfl rfl (by decide) (by decide) d66_44 ⟨rfl, v1, cap1, S3, gv1, hc1', K03, hv1, rfl⟩
theorem c_sbAppG (hw : HW Z a0) (x v y b : Nat) (u : Bool) (cap : Nat) (ds cs : List Int32) {cz : Int32} (SC : sC Z cz) (hcz : cz.toInt ≠ 0) {sf : Value} (SF : sF Z sf) (hsf : sf.isRef = true) (UA : uA Z) (UH : uH Z) (UL : uL Z) (h : Heap) (Ls : Lits) (hO : Old Z n0 h) (S : Sb Z h x v u cap ds) (T : Str Z h y b (coOf cs) (byOf cs)) (g : n0 ≤ x) (gv : n0 ≤ v) (hap : Apt x v y b) (hcs : ∀ c ∈ cs, 0 ≤ c.toInt ∧ c.toInt < 65536) (hla : u = false → ∀ c ∈ ds, 0 ≤ c.toInt ∧ c.toInt < 256) (hcap : cap ≤ wd u * 102) (hds : ds.length + cs.length ≤ 50) :
    Con l Z n0 (⟨"java/lang/StringBuilder", "append", "(Ljava/lang/String;)Ljava/lang/StringBuilder;"⟩ : MethodName) jdk_67_method_7_code 2 (some (.object "java/lang/StringBuilder")) ⟨9, 2, 408, 130⟩ [.ref x, .ref y] h Ls [] (RV fun w h' Ls' => w = .ref x ∧ ∃ v' cap' : Nat, Sb Z h' x v' (u || !lat cs) cap' (ds ++ cs) ∧ n0 ≤ v' ∧ cap' ≤ wd (u || !lat cs) * 102 ∧ Keep h h' [x, v] ∧ (v' = v ∨ h.size ≤ v') ∧ Ls = Ls') := by
  refine Con.of_run (plainFor_of_name pn5) hO ?_
  intro pX eX sX mX bX tX cX F hX
  refine ⟨[.val (.ref x), .val (.ref y)], rfl, ?_⟩
  refine Run.aloadN F d65_0 rfl rfl ?_
  refine Run.aloadN F d65_1 rfl rfl ?_
  refine Run.callSuper F (w284 hw) (same_own (w287 hw) (((fun U hU => nf_cls (a := #[]) (mvT hU (w295 hw)) (mvT hU (decl_of (w293 hw) (w296 hw))) rfl) : ∀ U : State, Z.Warmed39 U.vm → NotFace U ⟨"java/lang/AbstractStringBuilder", "append", "(Ljava/lang/String;)Ljava/lang/AbstractStringBuilder;"⟩) Z (State.Warmed39.refl Z)) rfl) (w285 hw) (w286 hw) (w155 hw) (w288 hw) (Ins.of_exa S.1 (w154 hw)) (c_asbAppG l Z n0 a0 hw x v y b u cap ds cs SC hcz SF hsf UA UH UL h Ls hO S T g gv hap hcs hla hcap hds) (by decide) pd26 rfl rfl rfl rfl (by decide) (by decide) rfl d65_2 ?_
  rintro _ h1 _ ⟨_, rfl, rfl, hq⟩ _ _
  refine Run.pop F d65_5 rfl ?_
  refine Run.aloadN F d65_6 rfl rfl ?_
  exact Run.areturn F rfl rfl (by decide) (by decide) d65_7 ⟨rfl, hq⟩
theorem c_sbInit0 (hw : HW Z a0) (x : Nat) {cz : Int32} (SC : sC Z cz) (hcz : cz.toInt ≠ 0) (h : Heap) (Ls : Lits) (hO : Old Z n0 h) (E : Exa Z h x SBN) (Fv : Fld Z h x ASB "value" "[B" .null) (Fc : Fld Z h x ASB "coder" "B" (.int 0)) (Fn : Fld Z h x ASB "count" "I" (.int 0)) (Fm : Fld Z h x ASB "maybeLatin1" "Z" (.int 0)) (g : n0 ≤ x) :
    Con l Z n0 (⟨"java/lang/StringBuilder", "<init>", "()V"⟩ : MethodName) jdk_67_method_1_code 1 none ⟨2, 1, 16, 25⟩ [.ref x] h Ls [] (RN fun h' Ls' => ∃ v : Nat, Sb Z h' x v false 16 [] ∧ Keep h h' [x] ∧ h.size ≤ v ∧ Ls = Ls') := by
  refine Con.of_run (plainFor_of_name pn5) hO ?_
  intro pX eX sX mX bX tX cX F hX
  refine ⟨[.val (.ref x)], rfl, ?_⟩
  refine Run.aloadN F d32_0 rfl rfl ?_
  refine Run.bipush F d32_1 (z := 16) rfl ?_
  refine Run.callInit F (w151 hw) (w152 hw) (w155 hw) (w156 hw) (c_asbInit l Z n0 a0 hw x 16 SC hcz h Ls hO E Fv Fc Fn Fm g (by decide)) rfl rfl pd24 rfl rfl rfl rfl (by decide) (by decide) rfl d32_3 ?_
  rintro _ h1 _ ⟨rfl, hq⟩ _ _
  exact Run.return_ F (by decide) (by decide) d32_6 hq
theorem c_clipped (hw : HW Z a0) (x b : Nat) (ps : List Nat) (bn : Int32) {cz : Int32} (SC : sC Z cz) (hcz : cz.toInt ≠ 0) {sf : Value} (SF : sF Z sf) (hsf : sf.isRef = true) (UA : uA Z) (UH : uH Z) (UL : uL Z) {u8 : Nat} (S8a : Sta Z Z.heap "java/nio/charset/StandardCharsets" "UTF_8" "Ljava/nio/charset/Charset;" (.ref u8)) (S8b : Sta Z Z.heap "sun/nio/cs/UTF_8" "INSTANCE" "Lsun/nio/cs/UTF_8;" (.ref u8)) (P : Nat → Nat → Prop) (lt : List (String × Addr)) (wS : ∀ a ∈ Bundle.stringAtoms, a.before a0 Z = true) (hcw : Jvm.Lit.compactW.before a0 Z = true) (hh151 : Jvm.Lit.constHeld Z "java/lang/StringLatin1" 151) (hh295 : Jvm.Lit.constHeld Z "java/lang/StringUTF16" 295) (h : Heap) (Ls : Lits) (hO : Old Z n0 h) (S : Str Z h x b (coOf (uns ps)) (byOf (uns ps))) (hok : ∀ p ∈ ps, okP p) (hN : (uns ps).length ≤ 12) (hPs : P x b) (hP1 : ∀ a b : Nat, a < n0 → b < n0 → P a b) (hP2 : ∀ a b : Nat, h.size ≤ a → h.size ≤ b → P a b) (hLs : Ls = some lt) (LL : LIp Z P h lt) :
    Con l Z n0 (⟨"com/example/earnest_orm/earnestorm/mapping/Identifiers", "clipped", "(Ljava/lang/String;I)Ljava/lang/String;"⟩ : MethodName) prog_5_method_6_code 5 (some (.object "java/lang/String")) ⟨7, 51, 280, 112⟩ [.ref x, .int bn] h Ls [] (RV fun w h' Ls' => ∃ (r b' : Nat) (lt' : List (String × Addr)), w = .ref r ∧ Keep h h' [] ∧ Str Z h' r b' (coOf (uns (clip bn.toInt ps))) (byOf (uns (clip bn.toInt ps))) ∧ P r b' ∧ Ls' = some lt' ∧ LIp Z P h' lt') := by
  refine Con.of_run (plainFor_of_name pn10) hO ?_
  intro pX eX sX mX bX tX cX F hX
  refine ⟨[.val (.ref x), .val (.int bn), .unset, .unset, .unset], rfl, ?_⟩
  have hpl := uns_ge ps
  subst hLs
  refine Run.iconst F d34_0 (z := 0) rfl ?_
  refine Run.istoreN F d34_1 rfl ?_
  dsimp only [List.set]
  refine Run.iconst F d34_2 (z := 0) rfl ?_
  refine Run.istoreN F d34_3 rfl ?_
  dsimp only [List.set]
  refine Run.via (pcJ := 49) (fun h' k n Ls' L st => ∃ (dn rs : List Nat) (x3 x4 : Slot), ps = dn ++ rs ∧ clip bn.toInt ps = dn ∧ k ≤ 48 ∧ n ≤ 240 ∧ Ls' = some lt ∧ Keep h h' [] ∧ Old Z n0 h' ∧ L = [.val (.ref x), .val (.int bn), .val (.int (Int32.ofNat (uns dn).length)), x3, x4] ∧ st = []) ?_ ?_
  · rintro h' k n _ _ _ ⟨dn, rs, x3, x4, hps, hcl, hk, hn, rfl, K, OO, rfl, rfl⟩
    have S' := S.keep K nin0 nin0
    have zK := K.1
    have hu : uns ps = uns dn ++ uns rs := by rw [hps, uns_app]
    rw [hu] at S' hN
    refine Run.aloadN F d34_49 rfl rfl ?_
    refine Run.iconst F d34_50 (z := 0) rfl ?_
    refine Run.iloadN F d34_51 rfl ?_
    refine Run.callVirtual F (w233 hw) (w234 hw) (nfs (w236 hw)) (w236 hw) (w235 hw) (w23 hw) (w237 hw) S'.1 (c_substr l Z n0 a0 hw x b (uns dn) (uns rs) SC hcz SF hsf UA UH UL P lt wS hcw hh151 hh295 h' _ OO S' hN (uns_rng fun p hp => hok p (by rw [hps]; exact List.mem_append_left _ hp)) hPs hP1 (fun a b q1 q2 => hP2 a b (by omega) (by omega)) rfl (LL.keep K)) rfl pd48 rfl rfl rfl rfl (by show k + 3 ≤ 51; omega) (by show n + 40 ≤ 280; omega) rfl d34_52 ?_
    rintro _ h2 _ ⟨_, rfl, r, b', lt', rfl, K2, S2, p2, rfl, L2⟩ _ _
    exact Run.areturn F rfl rfl (by show k + 3 ≤ 51; omega) (by show n + 40 ≤ 280; omega) d34_55 ⟨r, b', lt', rfl, K.trans K2 all0, by rw [hcl]; exact S2, p2, rfl, L2⟩
  · intro JJ
    refine Run.rec (fun r h' k n Ls' L st => ∃ (dn rs : List Nat) (x4 : Slot), ps = dn ++ rs ∧ clip bn.toInt ps = dn ++ clip (bn.toInt - (w8s dn : Nat)) rs ∧ rs.length = r ∧ okSlot x4 = true ∧ k ≤ 4 * dn.length ∧ n ≤ 20 * dn.length ∧ Ls' = some lt ∧ Keep h h' [] ∧ Old Z n0 h' ∧ L = [.val (.ref x), .val (.int bn), .val (.int (Int32.ofNat (uns dn).length)), .val (.int (Int32.ofNat (w8s dn))), x4] ∧ st = []) ?_ ps.length _ _ _ _ _ _ ⟨[], ps, .unset, rfl, by simp [w8s], rfl, rfl, by decide, by decide, rfl, Keep.refl _ _, hO, rfl, rfl⟩
    rintro r h' k n Ls' L st ⟨dn, rs, x4, hps, hcl, hr, hx4, hk, hn, rfl, K, OO, rfl, rfl⟩ ih
    have S' := S.keep K nin0 nin0
    have wl := w8s_le dn
    have hdl : (uns dn).length + (uns rs).length = (uns ps).length := by rw [hps, uns_app, List.length_append]
    have hnl := uns_ge dn
    refine Run.iloadN F d34_4 rfl ?_
    refine Run.aloadN F d34_5 rfl rfl ?_
    refine Run.callVirtual F (w166 hw) (w167 hw) (nfs (w169 hw)) (w169 hw) (w168 hw) (w23 hw) (w170 hw) S'.1 (c_length l Z n0 a0 hw x b (coOf (uns ps)) (Int32.ofNat (uns ps).length) (byOf (uns ps)) SC hcz h' _ OO S' (co8 _) (lenOf2 (by omega))) rfl pd14 rfl rfl rfl rfl (by show k + 0 ≤ 51; omega) (by show n + 0 ≤ 280; omega) rfl d34_6 ?_
    rintro _ _ _ ⟨_, rfl, rfl, rfl, rfl⟩ _ _
    rcases rs with _ | ⟨p, rs⟩
    · have hl0 : (uns ([] : List Nat)).length = 0 := rfl
      refine Run.icmp_ge F d34_9 (t := 49) rfl (i32_ti (by omega)) (i32_ti (by omega)) (fun _ => ?_) (fun q => by omega)
      exact JJ _ _ _ _ _ _ ⟨dn, [], .val (.int (Int32.ofNat (w8s dn))), x4, hps, by rw [hcl, clip_nil, List.append_nil], by show k + 0 ≤ 48; omega, by show n + 0 ≤ 240; omega, rfl, K, OO, rfl, rfl⟩
    · have hp : okP p := hok p (by rw [hps]; simp)
      have hp1 := hp.1
      have hnp := nu_pos p
      have hw8 := w8_le p
      have hun : (uns (p :: rs)).length = nu p + (uns rs).length := by rw [uns_cons, List.length_append, un_len]
      have hnr := uns_ge rs
      refine Run.icmp_ge F d34_9 (t := 49) rfl (i32_ti (by omega)) (i32_ti (by omega)) (fun q => by omega) (fun _ => ?_)
      refine Run.aloadN F d34_12 rfl rfl ?_
      refine Run.iloadN F d34_13 rfl ?_
      refine Run.callVirtual F (w171 hw) (w172 hw) (nfs (w174 hw)) (w174 hw) (w173 hw) (w23 hw) (w175 hw) S'.1 (c_cpAt l Z n0 a0 hw x b ps dn rs p SC hcz SF hsf UA UH UL h' _ OO S' hps hp (by omega)) rfl pd3 rfl rfl rfl rfl (by show k + 0 + 0 ≤ 51; omega) (by show n + 0 + 0 ≤ 280; omega) rfl d34_14 ?_
      rintro _ _ _ ⟨_, rfl, rfl, rfl, rfl⟩ _ _
      refine Run.istore F d34_17 (by simp [hx4]) ?_
      dsimp only [List.set]
      refine Run.iloadN F d34_19 rfl ?_
      refine Run.iload F d34_20 rfl ?_
      refine Run.callStatic F (w198 hw) (w199 hw) (w102 hw) (w200 hw) (c_chToStr l Z n0 a0 hw p SC hcz UA UH UL h' _ OO hp) rfl pd44 rfl rfl rfl rfl (by show k + 0 + 0 + 2 ≤ 51; omega) (by show n + 0 + 0 + 8 ≤ 280; omega) rfl d34_22 ?_
      rintro _ h1 _ ⟨_, rfl, x1, b1, rfl, K1, -, -, EB1, S1, rfl⟩ O1 _
      have S1' : Str Z h1 x1 b1 (coOf (uns [p])) (byOf (uns [p])) := by rw [uns_one]; exact S1
      refine Run.callStatic F (w73 hw) (w74 hw) (w71 hw) (w75 hw) (c_u8lT l Z n0 a0 hw x1 b1 [p] SC hcz S8a S8b UA UH UL h1 _ O1 S1' EB1 (fun q hq => by rw [List.mem_singleton.mp hq]; exact hp) (by rw [uns_one, un_len]; omega)) rfl pd49 rfl rfl rfl rfl (by show k + 0 + 0 + 2 + 2 ≤ 51; omega) (by show n + 0 + 0 + 8 + 12 ≤ 280; omega) rfl d34_25 ?_
      rintro _ h2 _ ⟨_, rfl, rfl, K2, rfl⟩ O2 _
      have K02 : Keep h h2 [] := (K.trans K1 all0).trans K2 all0
      rw [w8s_one]
      refine Run.iadd F d34_28 ?_
      rw [i32_add (by omega)]
      refine Run.istoreN F d34_29 rfl ?_
      dsimp only [List.set]
      refine Run.iloadN F d34_30 rfl ?_
      refine Run.iloadN F d34_31 rfl ?_
      refine Run.icmp_le F d34_32 (t := 38) rfl (i32_ti (by omega)) rfl (fun q => ?_) (fun q => ?_)
      · refine Run.iloadN F d34_38 rfl ?_
        refine Run.iload F d34_39 rfl ?_
        refine Run.callStatic F (w230 hw) (w231 hw) (w102 hw) (w232 hw) (c_charCount l Z n0 a0 hw p h2 _ O2 hp) rfl pd3 rfl rfl rfl rfl (by show k + 0 + 0 + 2 + 2 + 0 ≤ 51; omega) (by show n + 0 + 0 + 8 + 12 + 0 ≤ 280; omega) rfl d34_41 ?_
        rintro _ _ _ ⟨_, rfl, rfl, rfl, rfl⟩ _ _
        refine Run.iadd F d34_44 ?_
        rw [i32_add (by omega)]
        refine Run.istoreN F d34_45 rfl ?_
        dsimp only [List.set]
        refine Run.goto F d34_46 (t := 4) rfl ?_
        have e0 : (dn ++ [p]).length = dn.length + 1 := by simp
        have e1 : bn.toInt - (w8s dn : Nat) - (u8n p : Nat) = bn.toInt - (w8s (dn ++ [p]) : Nat) := by rw [w8s_snoc]; omega
        refine ih rs.length _ _ _ _ _ _ (by rw [← hr]; simp) ⟨dn ++ [p], rs, .val (.int (Int32.ofNat p)), by rw [hps]; simp, ?_, rfl, rfl, by show k + 0 + 0 + 2 + 2 + 0 ≤ 4 * (dn ++ [p]).length; omega, by show n + 0 + 0 + 8 + 12 + 0 ≤ 20 * (dn ++ [p]).length; omega, rfl, K02, O2, by rw [uns_snoc, w8s_snoc], rfl⟩
        rw [hcl, clip_yes (by omega), e1, List.append_assoc]; rfl
      · refine Run.goto F d34_35 (t := 49) rfl ?_
        exact JJ _ _ _ _ _ _ ⟨dn, p :: rs, .val (.int (Int32.ofNat (w8s dn + u8n p))), .val (.int (Int32.ofNat p)), hps, by rw [hcl, clip_no (by omega), List.append_nil], by show k + 0 + 0 + 2 + 2 ≤ 48; omega, by show n + 0 + 0 + 8 + 12 ≤ 240; omega, rfl, K02, O2, rfl, rfl⟩
theorem us_lat : ∀ c ∈ ("_" : String).toList, c.toNat < 256 := by decide +kernel
theorem us_len : 4 * ("_" : String).toList.length ≤ 4 := by decide +kernel
theorem us_b : litB "_" = byOf [95] := by decide +kernel
theorem us_r : ∀ c ∈ ([95] : List Int32), 0 ≤ c.toInt ∧ c.toInt < 65536 := by decide
theorem c_ident (hw : HW Z a0) (x1 b1 x2 b2 x3 b3 : Nat) (p1 p2 p3 : List Nat) {cz : Int32} (SC : sC Z cz) (hcz : cz.toInt ≠ 0) {sf : Value} (SF : sF Z sf) (hsf : sf.isRef = true) (UA : uA Z) (UH : uH Z) (UL : uL Z) {u8 : Nat} (S8a : Sta Z Z.heap "java/nio/charset/StandardCharsets" "UTF_8" "Ljava/nio/charset/Charset;" (.ref u8)) (S8b : Sta Z Z.heap "sun/nio/cs/UTF_8" "INSTANCE" "Lsun/nio/cs/UTF_8;" (.ref u8)) (wS : ∀ a ∈ Bundle.stringAtoms, a.before a0 Z = true) (hcw : Jvm.Lit.compactW.before a0 Z = true) (hh151 : Jvm.Lit.constHeld Z "java/lang/StringLatin1" 151) (hh295 : Jvm.Lit.constHeld Z "java/lang/StringUTF16" 295) (hh40 : Jvm.Lit.constHeld Z "com/example/earnest_orm/earnestorm/mapping/Identifiers" 40) (h : Heap) (Ls : Lits) (hO : Old Z n0 h) (S1 : Str Z h x1 b1 (coOf (uns p1)) (byOf (uns p1))) (EB1 : Exa Z h b1 "[B") (ok1 : ∀ p ∈ p1, okP p) (hN1 : (uns p1).length ≤ 12) (S2 : Str Z h x2 b2 (coOf (uns p2)) (byOf (uns p2))) (EB2 : Exa Z h b2 "[B") (ok2 : ∀ p ∈ p2, okP p) (hN2 : (uns p2).length ≤ 12) (S3 : Str Z h x3 b3 (coOf (uns p3)) (byOf (uns p3))) (EB3 : Exa Z h b3 "[B") (ok3 : ∀ p ∈ p3, okP p) (hN3 : (uns p3).length ≤ 24) (hLs : Ls = some []) :
    Con l Z n0 (⟨"com/example/earnest_orm/earnestorm/mapping/Identifiers", "identifier", "(Ljava/lang/String;Ljava/lang/String;Ljava/lang/String;)Ljava/lang/String;"⟩ : MethodName) prog_5_method_5_code 6 (some (.object "java/lang/String")) ⟨10, 126, 3276, 143⟩ [.ref x1, .ref x2, .ref x3] h Ls [] (RV fun w h' Ls' => ∃ r b : Nat, w = .ref r ∧ Keep h h' [] ∧ Str Z h' r b (coOf (uns (clip (finA (w8s p1 : Nat) (w8s p2 : Nat) (61 - (w8s p3 : Nat))) p1) ++ ([95] ++ (uns (clip (finB (w8s p1 : Nat) (w8s p2 : Nat) (61 - (w8s p3 : Nat))) p2) ++ ([95] ++ uns p3))))) (byOf (uns (clip (finA (w8s p1 : Nat) (w8s p2 : Nat) (61 - (w8s p3 : Nat))) p1) ++ ([95] ++ (uns (clip (finB (w8s p1 : Nat) (w8s p2 : Nat) (61 - (w8s p3 : Nat))) p2) ++ ([95] ++ uns p3)))))) := by
  refine Con.of_run (plainFor_of_name pn10) hO ?_
  intro pX eX sX mX bX tX cX F hX
  refine ⟨[.val (.ref x1), .val (.ref x2), .val (.ref x3), .unset, .unset, .unset], rfl, ?_⟩
  have q1 := w8s_le p1
  have q2 := w8s_le p2
  have q3 := w8s_le p3
  subst hLs
  refine Run.bipush F d17_0 (z := 63) rfl ?_
  refine Run.aloadN F d17_2 rfl rfl ?_
  refine Run.callStatic F (w73 hw) (w74 hw) (w71 hw) (w75 hw) (c_u8lB l Z n0 a0 hw x3 b3 p3 SC hcz S8a S8b UA UH UL h _ hO S3 EB3 ok3 hN3) rfl pd49 rfl rfl rfl rfl (by decide) (by decide) rfl d17_3 ?_
  rintro _ h1 _ ⟨_, rfl, rfl, K1, rfl⟩ O1 _
  refine Run.isub F d17_6 ?_
  refine Run.iconst F d17_7 (z := 2) rfl ?_
  refine Run.isub F d17_8 ?_
  have eav : ((63 : Int32) - Int32.ofNat (w8s p3) - 2).toInt = 61 - (w8s p3 : Nat) := by
    have c1 := c_isub (63 : Int32) (Int32.ofNat (w8s p3))
    have r1 := rng32 ((63 : Int32) - Int32.ofNat (w8s p3))
    have c2 := c_isub ((63 : Int32) - Int32.ofNat (w8s p3)) 2
    have r2 := rng32 ((63 : Int32) - Int32.ofNat (w8s p3) - 2)
    have z1 : (63 : Int32).toInt = 63 := rfl
    have z2 : (2 : Int32).toInt = 2 := rfl
    rw [i32_ti (i := w8s p3) (by omega), z1] at c1
    rw [z2] at c2
    omega
  generalize (63 : Int32) - Int32.ofNat (w8s p3) - 2 = av at eav ⊢
  refine Run.istoreN F d17_9 rfl ?_
  dsimp only [List.set]
  refine Run.aloadN F d17_10 rfl rfl ?_
  refine Run.callStatic F (w73 hw) (w74 hw) (w71 hw) (w75 hw) (c_u8lB l Z n0 a0 hw x1 b1 p1 SC hcz S8a S8b UA UH UL h1 _ O1 (S1.keep K1 nin0 nin0) (EB1.keep K1) ok1 (by omega)) rfl pd49 rfl rfl rfl rfl (by decide) (by decide) rfl d17_11 ?_
  rintro _ h2 _ ⟨_, rfl, rfl, K2, rfl⟩ O2 _
  refine Run.istore F d17_14 rfl ?_
  dsimp only [List.set]
  refine Run.aloadN F d17_16 rfl rfl ?_
  refine Run.callStatic F (w73 hw) (w74 hw) (w71 hw) (w75 hw) (c_u8lB l Z n0 a0 hw x2 b2 p2 SC hcz S8a S8b UA UH UL h2 _ O2 ((S2.keep K1 nin0 nin0).keep K2 nin0 nin0) ((EB2.keep K1).keep K2) ok2 (by omega)) rfl pd49 rfl rfl rfl rfl (by decide) (by decide) rfl d17_17 ?_
  rintro _ h3 _ ⟨_, rfl, rfl, K3, rfl⟩ O3 _
  have K03 : Keep h h3 [] := (K1.trans K2 all0).trans K3 all0
  refine Run.istore F d17_20 rfl ?_
  dsimp only [List.set]
  have e1 := i32_ti (i := w8s p1) (by omega)
  have e2 := i32_ti (i := w8s p2) (by omega)
  have hav : -11 ≤ av.toInt ∧ av.toInt ≤ 61 := by omega
  obtain ⟨w1, hw1⟩ : ∃ w1 : Int, w1 = (w8s p1 : Nat) := ⟨_, rfl⟩
  obtain ⟨w2, hw2⟩ : ∃ w2 : Int, w2 = (w8s p2 : Nat) := ⟨_, rfl⟩
  obtain ⟨room, hroom⟩ : ∃ room : Int, room = 61 - (w8s p3 : Nat) := ⟨_, rfl⟩
  rw [← hroom] at eav
  refine Run.rec (fun r h' k n Ls' L st => ∃ a b : Int32, finA a.toInt b.toInt room = finA w1 w2 room ∧ finB a.toInt b.toInt room = finB w1 w2 room ∧ (a.toInt + b.toInt - room).toNat = r ∧ (-6 ≤ a.toInt ∧ a.toInt ≤ 200) ∧ (-6 ≤ b.toInt ∧ b.toInt ≤ 200) ∧ k = 6 ∧ n = 432 ∧ Ls' = some [] ∧ h3 = h' ∧ L = [.val (.ref x1), .val (.ref x2), .val (.ref x3), .val (.int av), .val (.int a), .val (.int b)] ∧ st = []) ?_ (w1 + w2 - room).toNat _ _ _ _ _ _ ⟨Int32.ofNat (w8s p1), Int32.ofNat (w8s p2), by rw [e1, e2, hw1, hw2], by rw [e1, e2, hw1, hw2], by rw [e1, e2, hw1, hw2], by omega, by omega, rfl, rfl, rfl, rfl, rfl, rfl⟩
  rintro r h' k n Ls' L st ⟨a, b, fa, fb, hr, ha, hb, rfl, rfl, rfl, rfl, rfl, rfl⟩ ih
  have ab : (a + b).toInt = a.toInt + b.toInt := i32_sum ha hb
  have hroom6 : -11 ≤ room := by rw [← eav]; exact hav.1
  refine Run.iload F d17_22 rfl ?_
  refine Run.iload F d17_24 rfl ?_
  refine Run.iadd F d17_26 ?_
  refine Run.iloadN F d17_27 rfl ?_
  refine Run.icmp_le F d17_28 (t := 50) rfl (xi := a.toInt + b.toInt) ab eav (fun q => ?_) (fun q => ?_)
  rotate_left
  · refine Run.iload F d17_31 rfl ?_
    refine Run.iload F d17_33 rfl ?_
    refine Run.icmp_le F d17_35 (t := 44) rfl rfl rfl (fun q5 => ?_) (fun q5 => ?_)
    · refine Run.iinc F d17_44 (z := -1) (by decide) rfl ?_
      dsimp only [List.set]
      refine Run.goto F d17_47 (t := 22) rfl ?_
      have eb := i32_dec hb
      have f := fin_b (a := a.toInt) (b := b.toInt) (room := room) q q5
      generalize b + (-1) = b' at eb ⊢
      exact ih (a.toInt + b'.toInt - room).toNat _ _ _ _ _ _ (dec_b q eb hr) ⟨a, b', by rw [eb, f.1, fa], by rw [eb, f.2, fb], rfl, ha, dec_c q q5 eb hb hroom6, rfl, rfl, rfl, rfl, rfl, rfl⟩
    · refine Run.iinc F d17_38 (z := -1) (by decide) rfl ?_
      dsimp only [List.set]
      refine Run.goto F d17_41 (t := 22) rfl ?_
      have ea := i32_dec ha
      have f := fin_a (a := a.toInt) (b := b.toInt) (room := room) q q5
      generalize a + (-1) = a' at ea ⊢
      exact ih (a'.toInt + b.toInt - room).toNat _ _ _ _ _ _ (dec_a q ea hr) ⟨a', b, by rw [ea, f.1, fa], by rw [ea, f.2, fb], rfl, dec_d q q5 ea ha hroom6, hb, rfl, rfl, rfl, rfl, rfl, rfl⟩
  obtain ⟨f1, f2⟩ := fin_end q
  rw [f1] at fa
  rw [f2] at fb
  rw [hw1, hw2, hroom] at fa fb
  refine Run.new F (w145 hw) (w146 hw) (w147 hw) (by decide) (by decide) d17_50 ?_
  intro hN x hx KN ltN EN DN UN
  have ON : Old Z n0 hN := O3.keep KN all0
  have gx : n0 ≤ x := by rw [hx, ← O3.1]; exact O3.2.1
  have Gv := DN (O := ASB) (f := "value") (ds := "[B") (ty := .array .byte) (Or.inl (w160 hw)) (by decide)
  have Gc := DN (O := ASB) (f := "coder") (ds := "B") (ty := .byte) (Or.inl (w162 hw)) (by decide)
  have Gn := DN (O := ASB) (f := "count") (ds := "I") (ty := .int) (Or.inl (w291 hw)) (by decide)
  have Gm := DN (O := ASB) (f := "maybeLatin1") (ds := "Z") (ty := .boolean) (Or.inl (w386 hw)) (by decide)
  have z03 := K03.1
  refine Run.dup F d17_53 rfl ?_
  refine Run.callInit F (w148 hw) (w149 hw) (w147 hw) (w150 hw) (c_sbInit0 l Z n0 a0 hw x SC hcz hN _ ON EN Gv Gc Gn Gm gx) rfl rfl pd21 rfl rfl rfl rfl (by decide) (by decide) rfl d17_54 ?_
  rintro _ h4 _ ⟨rfl, v4, B4, K4, hv4, rfl⟩ O4 _
  show Run _ _ _ _ _ _ _ _ _ _ _ _ _ _ _ _ _ _ _ _ [Value.ref x]
  have K04 : Keep h h4 [] := (K03.trans KN all0).trans K4 (allS (Or.inr (by omega)) all0)
  have la1 := S1.la
  have lb1 := S1.lb
  have la2 := S2.la
  have lb2 := S2.lb
  have la3 := S3.la
  have lb3 := S3.lb
  have T1 := S1.keep K04 nin0 nin0
  have T2 := S2.keep K04 nin0 nin0
  have T3 := S3.keep K04 nin0 nin0
  have zN := KN.1
  have P1 : Apt x v4 x1 b1 := Apt.lt (n := h.size) (by omega) (by omega) la1 lb1
  have P2 : Apt x v4 x2 b2 := Apt.lt (n := h.size) (by omega) (by omega) la2 lb2
  have P3 : Apt x v4 x3 b3 := Apt.lt (n := h.size) (by omega) (by omega) la3 lb3
  have L4 : LIp Z (Apt x v4) h4 [] := LIp.nil
  have hv0 : n0 ≤ v4 := by omega
  have hxh : h.size ≤ x := by omega
  have hvh : h.size ≤ v4 := by omega
  have B4' : Sb Z h4 x v4 (!lat ([] : List Int32)) 16 [] := B4
  refine Run.aloadN F d17_57 rfl rfl ?_
  refine Run.iload F d17_58 rfl ?_
  have lt5 := B4'.lt
  refine Run.callStatic F (w163 hw) (w164 hw) (w71 hw) (w165 hw) (c_clipped l Z n0 a0 hw x1 b1 p1 a SC hcz SF hsf UA UH UL S8a S8b (Apt x v4) _ wS hcw hh151 hh295 h4 _ O4 T1 ok1 hN1 P1 (fun a b q1 q2 => Apt.lt (n := n0) gx hv0 q1 q2) (fun a b q1 q2 => Apt.ge (n := h4.size) lt5.1 lt5.2 q1 q2) rfl L4) rfl pd51 rfl rfl rfl rfl (by decide) (by decide) rfl d17_60 ?_
  rintro _ h5 _ ⟨_, rfl, y5, c5, lt'5, rfl, K5, Y5, py5, rfl, LL5⟩ O5 _
  have KC5 : Keep h h5 [] := K04.trans K5 all0
  have B5 := B4'.keep K5 nin0 nin0
  obtain ⟨rs5, ers5⟩ := clip_pre a.toInt p1
  have ul5 : (uns (clip a.toInt p1)).length ≤ 12 := by
    have e9 : (uns p1).length = (uns (clip a.toInt p1)).length + (uns rs5).length := by rw [← List.length_append, ← uns_app, ← ers5]
    omega
  have rr5 : ∀ c ∈ uns (clip a.toInt p1), 0 ≤ c.toInt ∧ c.toInt < 65536 := uns_rng fun q hq => ok1 q (by rw [ers5]; exact List.mem_append_left _ hq)
  have T1_5 := T1.keep K5 nin0 nin0
  have T2_5 := T2.keep K5 nin0 nin0
  have T3_5 := T3.keep K5 nin0 nin0
  have lt6 := B5.lt
  have z6 := KC5.1
  refine Run.callVirtual F (w279 hw) (w280 hw) (nfs (w282 hw)) (w282 hw) (w281 hw) (w147 hw) (w283 hw) B5.1 (c_sbAppG l Z n0 a0 hw x v4 y5 c5 _ 16 ([] : List Int32) (uns (clip a.toInt p1)) SC hcz SF hsf UA UH UL h5 _ O5 B5 Y5 gx hv0 py5 rr5 (fun q => lat_lt q (fun c hc => nomatch hc)) (by show 16 ≤ 1 * 102; omega) (by simp only [List.length_append, List.length_nil, List.length_cons]; omega)) rfl pd50 rfl rfl rfl rfl (by decide) (by decide) rfl d17_63 ?_
  rintro _ h6 _ ⟨_, rfl, rfl, v6, cap6, B6, gv6, hc6, K6, hv6, rfl⟩ O6 _
  rw [lat_or] at B6 hc6
  have KC6 : Keep h h6 [] := KC5.trans K6 (allS (Or.inr hxh) (allS (Or.inr hvh) all0))
  have vh6 : h.size ≤ v6 := by rcases hv6 with rfl | y <;> omega
  have LL6 := LIp.app LL5 K6 hv6
  obtain ⟨T1_6, P1_6⟩ := T1_5.apt P1 K6 hv6
  obtain ⟨T2_6, P2_6⟩ := T2_5.apt P2 K6 hv6
  obtain ⟨T3_6, P3_6⟩ := T3_5.apt P3 K6 hv6
  have rg6 : ∀ c ∈ (([] : List Int32) ++ (uns (clip a.toInt p1))), 0 ≤ c.toInt ∧ c.toInt < 65536 := fun c hc => (List.mem_append.mp hc).elim (fun q => nomatch q) (fun q => rr5 c q)
  have lt7 := B6.lt
  refine Run.ldcS (text := "_") (P := Apt x v6) F (w331 hw) wS hh40 hcw us_lat (fun t ht he => by have q := LL6 t ht; rw [he] at q; exact q) 4 us_len rfl (by decide) (by decide) d17_66 ?_
  intro h7 y7 c7 K7 Y7 q7
  have py7 : Apt x v6 y7 c7 := by
    rcases q7 with ⟨u, w⟩ | ⟨u, w⟩ | u
    · exact Apt.lt (n := n0) gx gv6 u w
    · exact Apt.ge (n := h6.size) lt7.1 lt7.2 u w
    · exact u
  have LL7 := (LL6.keep K7).cons Y7 py7
  rw [us_b] at Y7
  have O7 := O6.keep K7 all0
  have KC7 : Keep h h7 [] := KC6.trans K7 all0
  have B7 := B6.keep K7 nin0 nin0
  have Y7' : Str Z h7 y7 c7 (coOf [95]) (byOf [95]) := Y7
  have T1_7 := T1_6.keep K7 nin0 nin0
  have T2_7 := T2_6.keep K7 nin0 nin0
  have T3_7 := T3_6.keep K7 nin0 nin0
  have lt8 := B7.lt
  have z8 := KC7.1
  refine Run.callVirtual F (w279 hw) (w280 hw) (nfs (w282 hw)) (w282 hw) (w281 hw) (w147 hw) (w283 hw) B7.1 (c_sbAppG l Z n0 a0 hw x v6 y7 c7 _ cap6 (([] : List Int32) ++ (uns (clip a.toInt p1))) [95] SC hcz SF hsf UA UH UL h7 _ O7 B7 Y7' gx gv6 py7 us_r (fun q => lat_lt q rg6) hc6 (by simp only [List.length_append, List.length_nil, List.length_cons]; omega)) rfl pd50 rfl rfl rfl rfl (by decide) (by decide) rfl d17_68 ?_
  rintro _ h8 _ ⟨_, rfl, rfl, v8, cap8, B8, gv8, hc8, K8, hv8, rfl⟩ O8 _
  rw [lat_or] at B8 hc8
  have KC8 : Keep h h8 [] := KC7.trans K8 (allS (Or.inr hxh) (allS (Or.inr vh6) all0))
  have vh8 : h.size ≤ v8 := by rcases hv8 with rfl | y <;> omega
  have LL8 := LIp.app LL7 K8 hv8
  obtain ⟨T1_8, P1_8⟩ := T1_7.apt P1_6 K8 hv8
  obtain ⟨T2_8, P2_8⟩ := T2_7.apt P2_6 K8 hv8
  obtain ⟨T3_8, P3_8⟩ := T3_7.apt P3_6 K8 hv8
  have rg8 : ∀ c ∈ ((([] : List Int32) ++ (uns (clip a.toInt p1))) ++ [95]), 0 ≤ c.toInt ∧ c.toInt < 65536 := fun c hc => (List.mem_append.mp hc).elim (fun q => rg6 c q) (fun q => us_r c q)
  refine Run.aloadN F d17_71 rfl rfl ?_
  refine Run.iload F d17_72 rfl ?_
  have lt9 := B8.lt
  refine Run.callStatic F (w163 hw) (w164 hw) (w71 hw) (w165 hw) (c_clipped l Z n0 a0 hw x2 b2 p2 b SC hcz SF hsf UA UH UL S8a S8b (Apt x v8) _ wS hcw hh151 hh295 h8 _ O8 T2_8 ok2 hN2 P2_8 (fun a b q1 q2 => Apt.lt (n := n0) gx gv8 q1 q2) (fun a b q1 q2 => Apt.ge (n := h8.size) lt9.1 lt9.2 q1 q2) rfl LL8) rfl pd51 rfl rfl rfl rfl (by decide) (by decide) rfl d17_74 ?_
  rintro _ h9 _ ⟨_, rfl, y9, c9, lt'9, rfl, K9, Y9, py9, rfl, LL9⟩ O9 _
  have KC9 : Keep h h9 [] := KC8.trans K9 all0
  have B9 := B8.keep K9 nin0 nin0
  obtain ⟨rs9, ers9⟩ := clip_pre b.toInt p2
  have ul9 : (uns (clip b.toInt p2)).length ≤ 12 := by
    have e9 : (uns p2).length = (uns (clip b.toInt p2)).length + (uns rs9).length := by rw [← List.length_append, ← uns_app, ← ers9]
    omega
  have rr9 : ∀ c ∈ uns (clip b.toInt p2), 0 ≤ c.toInt ∧ c.toInt < 65536 := uns_rng fun q hq => ok2 q (by rw [ers9]; exact List.mem_append_left _ hq)
  have T1_9 := T1_8.keep K9 nin0 nin0
  have T2_9 := T2_8.keep K9 nin0 nin0
  have T3_9 := T3_8.keep K9 nin0 nin0
  have lt10 := B9.lt
  have z10 := KC9.1
  refine Run.callVirtual F (w279 hw) (w280 hw) (nfs (w282 hw)) (w282 hw) (w281 hw) (w147 hw) (w283 hw) B9.1 (c_sbAppG l Z n0 a0 hw x v8 y9 c9 _ cap8 ((([] : List Int32) ++ (uns (clip a.toInt p1))) ++ [95]) (uns (clip b.toInt p2)) SC hcz SF hsf UA UH UL h9 _ O9 B9 Y9 gx gv8 py9 rr9 (fun q => lat_lt q rg8) hc8 (by simp only [List.length_append, List.length_nil, List.length_cons]; omega)) rfl pd50 rfl rfl rfl rfl (by decide) (by decide) rfl d17_77 ?_
  rintro _ h10 _ ⟨_, rfl, rfl, v10, cap10, B10, gv10, hc10, K10, hv10, rfl⟩ O10 _
  rw [lat_or] at B10 hc10
  have KC10 : Keep h h10 [] := KC9.trans K10 (allS (Or.inr hxh) (allS (Or.inr vh8) all0))
  have vh10 : h.size ≤ v10 := by rcases hv10 with rfl | y <;> omega
  have LL10 := LIp.app LL9 K10 hv10
  obtain ⟨T1_10, P1_10⟩ := T1_9.apt P1_8 K10 hv10
  obtain ⟨T2_10, P2_10⟩ := T2_9.apt P2_8 K10 hv10
  obtain ⟨T3_10, P3_10⟩ := T3_9.apt P3_8 K10 hv10
  have rg10 : ∀ c ∈ (((([] : List Int32) ++ (uns (clip a.toInt p1))) ++ [95]) ++ (uns (clip b.toInt p2))), 0 ≤ c.toInt ∧ c.toInt < 65536 := fun c hc => (List.mem_append.mp hc).elim (fun q => rg8 c q) (fun q => rr9 c q)
  have lt11 := B10.lt
  refine Run.ldcS (text := "_") (P := Apt x v10) F (w331 hw) wS hh40 hcw us_lat (fun t ht he => by have q := LL10 t ht; rw [he] at q; exact q) 4 us_len rfl (by decide) (by decide) d17_80 ?_
  intro h11 y11 c11 K11 Y11 q11
  have py11 : Apt x v10 y11 c11 := by
    rcases q11 with ⟨u, w⟩ | ⟨u, w⟩ | u
    · exact Apt.lt (n := n0) gx gv10 u w
    · exact Apt.ge (n := h10.size) lt11.1 lt11.2 u w
    · exact u
  have LL11 := (LL10.keep K11).cons Y11 py11
  rw [us_b] at Y11
  have O11 := O10.keep K11 all0
  have KC11 : Keep h h11 [] := KC10.trans K11 all0
  have B11 := B10.keep K11 nin0 nin0
  have Y11' : Str Z h11 y11 c11 (coOf [95]) (byOf [95]) := Y11
  have T1_11 := T1_10.keep K11 nin0 nin0
  have T2_11 := T2_10.keep K11 nin0 nin0
  have T3_11 := T3_10.keep K11 nin0 nin0
  have lt12 := B11.lt
  have z12 := KC11.1
  refine Run.callVirtual F (w279 hw) (w280 hw) (nfs (w282 hw)) (w282 hw) (w281 hw) (w147 hw) (w283 hw) B11.1 (c_sbAppG l Z n0 a0 hw x v10 y11 c11 _ cap10 (((([] : List Int32) ++ (uns (clip a.toInt p1))) ++ [95]) ++ (uns (clip b.toInt p2))) [95] SC hcz SF hsf UA UH UL h11 _ O11 B11 Y11' gx gv10 py11 us_r (fun q => lat_lt q rg10) hc10 (by simp only [List.length_append, List.length_nil, List.length_cons]; omega)) rfl pd50 rfl rfl rfl rfl (by decide) (by decide) rfl d17_82 ?_
  rintro _ h12 _ ⟨_, rfl, rfl, v12, cap12, B12, gv12, hc12, K12, hv12, rfl⟩ O12 _
  rw [lat_or] at B12 hc12
  have KC12 : Keep h h12 [] := KC11.trans K12 (allS (Or.inr hxh) (allS (Or.inr vh10) all0))
  have vh12 : h.size ≤ v12 := by rcases hv12 with rfl | y <;> omega
  have LL12 := LIp.app LL11 K12 hv12
  obtain ⟨T1_12, P1_12⟩ := T1_11.apt P1_10 K12 hv12
  obtain ⟨T2_12, P2_12⟩ := T2_11.apt P2_10 K12 hv12
  obtain ⟨T3_12, P3_12⟩ := T3_11.apt P3_10 K12 hv12
  have rg12 : ∀ c ∈ ((((([] : List Int32) ++ (uns (clip a.toInt p1))) ++ [95]) ++ (uns (clip b.toInt p2))) ++ [95]), 0 ≤ c.toInt ∧ c.toInt < 65536 := fun c hc => (List.mem_append.mp hc).elim (fun q => rg10 c q) (fun q => us_r c q)
  refine Run.aloadN F d17_85 rfl rfl ?_
  have lt13 := B12.lt
  have z13 := KC12.1
  refine Run.callVirtual F (w279 hw) (w280 hw) (nfs (w282 hw)) (w282 hw) (w281 hw) (w147 hw) (w283 hw) B12.1 (c_sbAppG l Z n0 a0 hw x v12 x3 b3 _ cap12 ((((([] : List Int32) ++ (uns (clip a.toInt p1))) ++ [95]) ++ (uns (clip b.toInt p2))) ++ [95]) (uns p3) SC hcz SF hsf UA UH UL h12 _ O12 B12 T3_12 gx gv12 P3_12 (uns_rng ok3) (fun q => lat_lt q rg12) hc12 (by simp only [List.length_append, List.length_nil, List.length_cons]; omega)) rfl pd50 rfl rfl rfl rfl (by decide) (by decide) rfl d17_86 ?_
  rintro _ h13 _ ⟨_, rfl, rfl, v13, cap13, B13, gv13, hc13, K13, hv13, rfl⟩ O13 _
  rw [lat_or] at B13 hc13
  have KC13 : Keep h h13 [] := KC12.trans K13 (allS (Or.inr hxh) (allS (Or.inr vh12) all0))
  have vh13 : h.size ≤ v13 := by rcases hv13 with rfl | y <;> omega
  have LL13 := LIp.app LL12 K13 hv13
  obtain ⟨T1_13, P1_13⟩ := T1_12.apt P1_12 K13 hv13
  obtain ⟨T2_13, P2_13⟩ := T2_12.apt P2_12 K13 hv13
  obtain ⟨T3_13, P3_13⟩ := T3_12.apt P3_12 K13 hv13
  have rg13 : ∀ c ∈ (((((([] : List Int32) ++ (uns (clip a.toInt p1))) ++ [95]) ++ (uns (clip b.toInt p2))) ++ [95]) ++ (uns p3)), 0 ≤ c.toInt ∧ c.toInt < 65536 := fun c hc => (List.mem_append.mp hc).elim (fun q => rg12 c q) (fun q => (uns_rng ok3) c q)
  have hwd : ∀ u : Bool, wd u ≤ 2 := fun u => by cases u <;> decide
  have hck : cap13 ≤ 204 := Nat.le_trans hc13 (Nat.le_trans (Nat.mul_le_mul_right _ (hwd _)) (by decide))
  refine Run.callVirtual F (w359 hw) (w360 hw) (nfs (w362 hw)) (w362 hw) (w361 hw) (w147 hw) (w363 hw) B13.1 (c_toStr l Z n0 a0 hw x v13 _ cap13 _ SC hcz h13 _ O13 B13 hck) rfl pd52 rfl rfl rfl rfl (by decide) (by decide) rfl d17_89 ?_
  rintro _ h99 _ ⟨_, rfl, r9, b9, rfl, K99, -, -, S9, rfl⟩ O99 _
  rw [← coOf_b, ← byOf_b] at S9
  have eos : (((((([] : List Int32) ++ (uns (clip a.toInt p1))) ++ [95]) ++ (uns (clip b.toInt p2))) ++ [95]) ++ (uns p3)) = (uns (clip (finA (w8s p1 : Nat) (w8s p2 : Nat) (61 - (w8s p3 : Nat))) p1) ++ ([95] ++ (uns (clip (finB (w8s p1 : Nat) (w8s p2 : Nat) (61 - (w8s p3 : Nat))) p2) ++ ([95] ++ uns p3)))) := by rw [← fa, ← fb]; simp only [List.nil_append, List.append_assoc]
  rw [eos] at S9
  exact Run.areturn F rfl rfl (by decide) (by decide) d17_92 ⟨r9, b9, rfl, KC13.trans K99 all0, S9⟩
theorem c_codePoint (hw : HW Z a0) (x : Int32) (h : Heap) (Ls : Lits) (hO : Old Z n0 h)  :
    Con l Z n0 (⟨"com/example/earnest_orm/earnestorm/mapping/IdentifiersIdentifierPinLaw", "codePoint", "(I)I"⟩ : MethodName) method_3_code 4 (some .int) ⟨0, 0, 0, 0⟩ [.int x] h Ls [] (RV fun w h' Ls' => w = .int (Int32.ofNat (ptOf x)) ∧ h = h' ∧ Ls = Ls') := by
  refine Con.of_run (plainFor_of_name pn11) hO ?_
  intro pX eX sX mX bX tX cX F hX
  refine ⟨[.val (.int x), .unset, .unset, .unset], rfl, ?_⟩
  have hk := kOf_lt x
  have hv := vOf_lt x
  have ek := i32_ti (i := kOf x) (by omega)
  have r1 : Int32.ofNat (vOf x) % 1920 = Int32.ofNat (vOf x % 1920) := i32_remN (b := 1920) (by omega) (by omega) (by omega)
  have r2 : Int32.ofNat (vOf x) % 61440 = Int32.ofNat (vOf x % 61440) := i32_remN (b := 61440) (by omega) (by omega) (by omega)
  have r3 : Int32.ofNat (vOf x) % 1048576 = Int32.ofNat (vOf x % 1048576) := i32_remN (b := 1048576) (by omega) (by omega) (by omega)
  have a1 : (128 : Int32) + Int32.ofNat (vOf x % 1920) = Int32.ofNat (128 + vOf x % 1920) := i32_add (a := 128) (by omega)
  have a2 : (2048 : Int32) + Int32.ofNat (vOf x % 61440) = Int32.ofNat (2048 + vOf x % 61440) := i32_add (a := 2048) (by omega)
  have a3 : (65536 : Int32) + Int32.ofNat (vOf x % 1048576) = Int32.ofNat (65536 + vOf x % 1048576) := i32_add (a := 65536) (by omega)
  have a4 : Int32.ofNat (2048 + vOf x % 61440) + 2048 = Int32.ofNat (2048 + vOf x % 61440 + 2048) := i32_add (b := 2048) (by omega)
  refine Run.iloadN F d3_0 rfl ?_
  refine Run.iconst F d3_1 (z := 3) rfl ?_
  refine Run.iand F d3_2 ?_
  rw [and3]
  refine Run.istoreN F d3_3 rfl ?_
  dsimp only [List.set]
  refine Run.iloadN F d3_4 rfl ?_
  refine Run.iconst F d3_5 (z := 2) rfl ?_
  refine Run.iushr F d3_6 ?_
  rw [shr2]
  refine Run.istoreN F d3_7 rfl ?_
  dsimp only [List.set]
  refine Run.iloadN F d3_8 rfl ?_
  refine Run.if_ne F d3_9 (t := 17) rfl ek (fun q => ?_) (fun q => ?_)
  rotate_left
  · refine Run.iloadN F d3_12 rfl ?_
    refine Run.bipush F d3_13 (z := 127) rfl ?_
    refine Run.iand F d3_15 ?_
    rw [and127 (by omega)]
    exact Run.ireturn F (by simp) rfl (by decide) (by decide) d3_16 ⟨by rw [ptOf, if_pos (by omega)], rfl, rfl⟩
  refine Run.iloadN F d3_17 rfl ?_
  refine Run.iconst F d3_18 (z := 1) rfl ?_
  refine Run.icmp_ne F d3_19 (t := 32) rfl ek (yi := 1) rfl (fun q2 => ?_) (fun q2 => ?_)
  rotate_left
  · refine Run.sipush F d3_22 (z := 128) rfl ?_
    refine Run.iloadN F d3_25 rfl ?_
    refine Run.sipush F d3_26 (z := 1920) rfl ?_
    refine Run.irem F d3_29 (by decide) ?_
    rw [r1]
    refine Run.iadd F d3_30 ?_
    rw [a1]
    exact Run.ireturn F (by simp) rfl (by decide) (by decide) d3_31 ⟨by rw [ptOf, if_neg (by omega), if_pos (by omega)], rfl, rfl⟩
  refine Run.iloadN F d3_32 rfl ?_
  refine Run.iconst F d3_33 (z := 2) rfl ?_
  refine Run.icmp_ne F d3_34 (t := 60) rfl ek (yi := 2) rfl (fun q3 => ?_) (fun q3 => ?_)
  rotate_left
  · refine Run.sipush F d3_37 (z := 2048) rfl ?_
    refine Run.iloadN F d3_40 rfl ?_
    refine Run.ldcInt F (w419 hw) d3_41 ?_
    refine Run.irem F d3_43 (by decide) ?_
    rw [r2]
    refine Run.iadd F d3_44 ?_
    rw [a2]
    refine Run.istoreN F d3_45 rfl ?_
    dsimp only [List.set]
    refine Run.iloadN F d3_46 rfl ?_
    refine Run.ldcInt F (w12 hw) d3_47 ?_
    refine Run.icmp_lt F d3_49 (t := 58) rfl (i32_ti (by omega)) (yi := 55296) rfl (fun q4 => ?_) (fun q4 => ?_)
    · refine Run.iloadN F d3_58 rfl ?_
      exact Run.ireturn F (by simp) rfl (by decide) (by decide) d3_59 ⟨by rw [ptOf, if_neg (by omega), if_neg (by omega), if_pos (by omega), if_pos (by omega)], rfl, rfl⟩
    · refine Run.iloadN F d3_52 rfl ?_
      refine Run.sipush F d3_53 (z := 2048) rfl ?_
      refine Run.iadd F d3_56 ?_
      rw [a4]
      refine Run.istoreN F d3_57 rfl ?_
      dsimp only [List.set]
      refine Run.iloadN F d3_58 rfl ?_
      exact Run.ireturn F (by simp) rfl (by decide) (by decide) d3_59 ⟨by rw [ptOf, if_neg (by omega), if_neg (by omega), if_pos (by omega), if_neg (by omega)], rfl, rfl⟩
  refine Run.ldcInt F (w10 hw) d3_60 ?_
  refine Run.iloadN F d3_62 rfl ?_
  refine Run.ldcInt F (w11 hw) d3_63 ?_
  refine Run.irem F d3_65 (by decide) ?_
  rw [r3]
  refine Run.iadd F d3_66 ?_
  rw [a3]
  exact Run.ireturn F (by simp) rfl (by decide) (by decide) d3_67 ⟨by rw [ptOf, if_neg (by omega), if_neg (by omega), if_neg (by omega)], rfl, rfl⟩
theorem c_even (hw : HW Z a0) (x : Int32) (h : Heap) (Ls : Lits) (hO : Old Z n0 h)  :
    Con l Z n0 (⟨"com/example/earnest_orm/earnestorm/mapping/IdentifiersIdentifierPinLaw", "even", "(I)C"⟩ : MethodName) method_6_code 2 (some .char) ⟨1, 0, 0, 15⟩ [.int x] h Ls [] (RV fun w h' Ls' => w = .int (Int32.ofNat (evN (ptOf x))) ∧ h = h' ∧ Ls = Ls') := by
  refine Con.of_run (plainFor_of_name pn11) hO ?_
  intro pX eX sX mX bX tX cX F hX
  refine ⟨[.val (.int x), .unset], rfl, ?_⟩
  have hk := kOf_lt x
  have hv := vOf_lt x
  have ek := i32_ti (i := kOf x) (by omega)
  have hok := (cp_ok x).1
  have hp1 := hok.1
  have hbig := cp_big (x := x)
  refine Run.iloadN F d2_0 rfl ?_
  refine Run.callStatic F (w7 hw) (w8 hw) (w2 hw) (w9 hw) (c_codePoint l Z n0 a0 hw x h Ls hO) rfl pd3 rfl rfl rfl rfl (by decide) (by decide) rfl d2_1 ?_
  rintro _ _ _ ⟨_, rfl, rfl, rfl, rfl⟩ _ _
  refine Run.istoreN F d2_4 rfl ?_
  dsimp only [List.set]
  refine Run.iloadN F d2_5 rfl ?_
  refine Run.iconst F d2_6 (z := 3) rfl ?_
  refine Run.iand F d2_7 ?_
  rw [and3]
  refine Run.iconst F d2_8 (z := 3) rfl ?_
  refine Run.icmp_ne F d2_9 (t := 24) rfl ek (yi := 3) rfl (fun q => ?_) (fun q => ?_)
  · have hs : ptOf x < 65536 := by
      by_cases z : ptOf x < 65536
      · exact z
      · exact absurd (hbig.mp (by omega)) (by omega)
    have ep := i32_ti (i := ptOf x) (by omega)
    refine Run.iloadN F d2_24 rfl ?_
    refine Run.i2c F d2_25 ?_
    rw [chr_id (x := Int32.ofNat (ptOf x)) (by omega) (by omega)]
    exact Run.ireturn F (by simp) (narrow_char (by omega) (by omega)) (by decide) (by decide) d2_26 ⟨by rw [ev1 hs], rfl, rfl⟩
  · have hb : 65536 ≤ ptOf x := hbig.mpr (by omega)
    have hh := hi_rng hok hb
    have hl := lo_rng (ptOf x)
    have eh := i32_ti (i := hiP (ptOf x)) (by omega)
    have el := i32_ti (i := loP (ptOf x)) (by omega)
    have es : Int32.ofNat (ptOf x) - 65536 = Int32.ofNat (ptOf x - 65536) := i32_sub (b := 65536) (by omega) (by omega)
    have eu : XT.ushr (Int32.ofNat (ptOf x - 65536)) 10 = Int32.ofNat ((ptOf x - 65536) / 1024) := ushrN (k := 10) (by omega) (by decide) (by omega)
    have ea : (55296 : Int32) + Int32.ofNat ((ptOf x - 65536) / 1024) = Int32.ofNat (hiP (ptOf x)) := i32_add (a := 55296) (b := (ptOf x - 65536) / 1024) (by omega)
    have eo : (56320 : Int32) + Int32.ofNat ((ptOf x - 65536) % 1024) = Int32.ofNat (loP (ptOf x)) := i32_add (a := 56320) (b := (ptOf x - 65536) % 1024) (by omega)
    refine Run.ldcInt F (w12 hw) d2_12 ?_
    refine Run.iloadN F d2_14 rfl ?_
    refine Run.ldcInt F (w10 hw) d2_15 ?_
    refine Run.isub F d2_17 ?_
    rw [es]
    refine Run.bipush F d2_18 (z := 10) rfl ?_
    refine Run.iushr F d2_20 ?_
    rw [eu]
    refine Run.iadd F d2_21 ?_
    rw [ea]
    refine Run.i2c F d2_22 ?_
    rw [chr_id (x := Int32.ofNat (hiP (ptOf x))) (by omega) (by omega)]
    exact Run.ireturn F (by simp) (narrow_char (by omega) (by omega)) (by decide) (by decide) d2_23 ⟨by rw [ev2 hb], rfl, rfl⟩
theorem c_odd (hw : HW Z a0) (x : Int32) (h : Heap) (Ls : Lits) (hO : Old Z n0 h)  :
    Con l Z n0 (⟨"com/example/earnest_orm/earnestorm/mapping/IdentifiersIdentifierPinLaw", "odd", "(I)C"⟩ : MethodName) method_7_code 2 (some .char) ⟨1, 0, 0, 15⟩ [.int x] h Ls [] (RV fun w h' Ls' => w = .int (Int32.ofNat (odN (ptOf x))) ∧ h = h' ∧ Ls = Ls') := by
  refine Con.of_run (plainFor_of_name pn11) hO ?_
  intro pX eX sX mX bX tX cX F hX
  refine ⟨[.val (.int x), .unset], rfl, ?_⟩
  have hk := kOf_lt x
  have hv := vOf_lt x
  have ek := i32_ti (i := kOf x) (by omega)
  have hok := (cp_ok x).1
  have hp1 := hok.1
  have hbig := cp_big (x := x)
  refine Run.iloadN F d4_0 rfl ?_
  refine Run.callStatic F (w7 hw) (w8 hw) (w2 hw) (w9 hw) (c_codePoint l Z n0 a0 hw x h Ls hO) rfl pd3 rfl rfl rfl rfl (by decide) (by decide) rfl d4_1 ?_
  rintro _ _ _ ⟨_, rfl, rfl, rfl, rfl⟩ _ _
  refine Run.istoreN F d4_4 rfl ?_
  dsimp only [List.set]
  refine Run.iloadN F d4_5 rfl ?_
  refine Run.iconst F d4_6 (z := 3) rfl ?_
  refine Run.iand F d4_7 ?_
  rw [and3]
  refine Run.iconst F d4_8 (z := 3) rfl ?_
  refine Run.icmp_ne F d4_9 (t := 25) rfl ek (yi := 3) rfl (fun q => ?_) (fun q => ?_)
  · have hs : ptOf x < 65536 := by
      by_cases z : ptOf x < 65536
      · exact z
      · exact absurd (hbig.mp (by omega)) (by omega)
    have ep := i32_ti (i := ptOf x) (by omega)
    refine Run.iloadN F d4_25 rfl ?_
    refine Run.i2c F d4_26 ?_
    rw [chr_id (x := Int32.ofNat (ptOf x)) (by omega) (by omega)]
    exact Run.ireturn F (by simp) (narrow_char (by omega) (by omega)) (by decide) (by decide) d4_27 ⟨by rw [od1 hs], rfl, rfl⟩
  · have hb : 65536 ≤ ptOf x := hbig.mpr (by omega)
    have hh := hi_rng hok hb
    have hl := lo_rng (ptOf x)
    have eh := i32_ti (i := hiP (ptOf x)) (by omega)
    have el := i32_ti (i := loP (ptOf x)) (by omega)
    have es : Int32.ofNat (ptOf x) - 65536 = Int32.ofNat (ptOf x - 65536) := i32_sub (b := 65536) (by omega) (by omega)
    have eu : XT.ushr (Int32.ofNat (ptOf x - 65536)) 10 = Int32.ofNat ((ptOf x - 65536) / 1024) := ushrN (k := 10) (by omega) (by decide) (by omega)
    have ea : (55296 : Int32) + Int32.ofNat ((ptOf x - 65536) / 1024) = Int32.ofNat (hiP (ptOf x)) := i32_add (a := 55296) (b := (ptOf x - 65536) / 1024) (by omega)
    have eo : (56320 : Int32) + Int32.ofNat ((ptOf x - 65536) % 1024) = Int32.ofNat (loP (ptOf x)) := i32_add (a := 56320) (b := (ptOf x - 65536) % 1024) (by omega)
    refine Run.ldcInt F (w16 hw) d4_12 ?_
    refine Run.iloadN F d4_14 rfl ?_
    refine Run.ldcInt F (w10 hw) d4_15 ?_
    refine Run.isub F d4_17 ?_
    rw [es]
    refine Run.sipush F d4_18 (z := 1023) rfl ?_
    refine Run.iand F d4_21 ?_
    rw [and1023 (by omega)]
    refine Run.iadd F d4_22 ?_
    rw [eo]
    refine Run.i2c F d4_23 ?_
    rw [chr_id (x := Int32.ofNat (loP (ptOf x))) (by omega) (by omega)]
    exact Run.ireturn F (by simp) (narrow_char (by omega) (by omega)) (by decide) (by decide) d4_24 ⟨by rw [od2 hb], rfl, rfl⟩
theorem c_units (hw : HW Z a0) (x : Int32) (h : Heap) (Ls : Lits) (hO : Old Z n0 h)  :
    Con l Z n0 (⟨"com/example/earnest_orm/earnestorm/mapping/IdentifiersIdentifierPinLaw", "units", "(I)I"⟩ : MethodName) method_5_code 1 (some .int) ⟨0, 0, 0, 0⟩ [.int x] h Ls [] (RV fun w h' Ls' => w = .int (Int32.ofNat (nu (ptOf x))) ∧ h = h' ∧ Ls = Ls') := by
  refine Con.of_run (plainFor_of_name pn11) hO ?_
  intro pX eX sX mX bX tX cX F hX
  refine ⟨[.val (.int x)], rfl, ?_⟩
  have hk := kOf_lt x
  have hv := vOf_lt x
  have ek := i32_ti (i := kOf x) (by omega)
  have hn := (cp_ok x).2.2
  refine Run.iloadN F d87_0 rfl ?_
  refine Run.iconst F d87_1 (z := 3) rfl ?_
  refine Run.iand F d87_2 ?_
  rw [and3]
  refine Run.iconst F d87_3 (z := 3) rfl ?_
  refine Run.icmp_ne F d87_4 (t := 11) rfl ek (yi := 3) rfl (fun q => ?_) (fun q => ?_)
  · refine Run.iconst F d87_11 (z := 1) rfl ?_
    exact Run.ireturn F (by simp) rfl (by decide) (by decide) d87_12 ⟨by rw [hn, if_neg (by omega)]; rfl, rfl, rfl⟩
  · refine Run.iconst F d87_7 (z := 2) rfl ?_
    refine Run.goto F d87_8 (t := 12) rfl ?_
    exact Run.ireturn F (by simp) rfl (by decide) (by decide) d87_12 ⟨by rw [hn, if_pos (by omega)]; rfl, rfl, rfl⟩
theorem c_width (hw : HW Z a0) (x : Int32) (h : Heap) (Ls : Lits) (hO : Old Z n0 h)  :
    Con l Z n0 (⟨"com/example/earnest_orm/earnestorm/mapping/IdentifiersIdentifierPinLaw", "width", "(I)I"⟩ : MethodName) method_4_code 1 (some .int) ⟨0, 0, 0, 0⟩ [.int x] h Ls [] (RV fun w h' Ls' => w = .int (Int32.ofNat (u8n (ptOf x))) ∧ h = h' ∧ Ls = Ls') := by
  refine Con.of_run (plainFor_of_name pn11) hO ?_
  intro pX eX sX mX bX tX cX F hX
  refine ⟨[.val (.int x)], rfl, ?_⟩
  have hk := kOf_lt x
  have hv := vOf_lt x
  have ek := i32_ti (i := kOf x) (by omega)
  have hn := (cp_ok x).2.1
  refine Run.iloadN F d88_0 rfl ?_
  refine Run.iconst F d88_1 (z := 3) rfl ?_
  refine Run.iand F d88_2 ?_
  rw [and3]
  refine Run.iconst F d88_3 (z := 1) rfl ?_
  refine Run.iadd F d88_4 ?_
  simp only [Jvm.Free.XT.succ32]
  exact Run.ireturn F (by simp) rfl (by decide) (by decide) d88_5 ⟨by rw [hn], rfl, rfl⟩
theorem c_bytes (hw : HW Z a0) (x1 x2 : Int32) (j s : Nat) (h : Heap) (Ls : Lits) (hO : Old Z n0 h) (hj : 2 * j ≤ s) (hs : s ≤ 24) :
    Con l Z n0 (⟨"com/example/earnest_orm/earnestorm/mapping/IdentifiersIdentifierPinLaw", "bytes", "(IIII)I"⟩ : MethodName) method_8_code 4 (some .int) ⟨1, 0, 0, 14⟩ [.int x1, .int x2, .int (Int32.ofNat (2 * j)), .int (Int32.ofNat s)] h Ls [] (RV fun w h' Ls' => w = .int (Int32.ofNat (w8s (two (ptOf x1) (ptOf x2) (2 * j) s))) ∧ h = h' ∧ Ls = Ls') := by
  refine Con.of_run (plainFor_of_name pn11) hO ?_
  intro pX eX sX mX bX tX cX F hX
  refine ⟨[.val (.int x1), .val (.int x2), .val (.int (Int32.ofNat (2 * j))), .val (.int (Int32.ofNat s))], rfl, ?_⟩
  have n1 := nu_pos (ptOf x1)
  have n2 := nu_pos (ptOf x2)
  have v1 := w8_pos (ptOf x1)
  have v2 := w8_pos (ptOf x2)
  have d1 := Nat.div_le_self (2 * j) (nu (ptOf x1))
  have d2 := Nat.div_le_self (s - 2 * j) (nu (ptOf x2))
  have m1 : 2 * j / nu (ptOf x1) * u8n (ptOf x1) ≤ 24 * 4 := Nat.mul_le_mul (by omega) (by omega)
  have m2 : (s - 2 * j) / nu (ptOf x2) * u8n (ptOf x2) ≤ 24 * 4 := Nat.mul_le_mul (by omega) (by omega)
  refine Run.iloadN F d86_0 rfl ?_
  refine Run.iloadN F d86_1 rfl ?_
  refine Run.callStatic F (w393 hw) (w394 hw) (w2 hw) (w395 hw) (c_units l Z n0 a0 hw x1 h Ls hO) rfl pd3 rfl rfl rfl rfl (by decide) (by decide) rfl d86_2 ?_
  rintro _ _ _ ⟨_, rfl, rfl, rfl, rfl⟩ _ _
  refine Run.idiv F d86_5 (i32_ne0 (by omega) (by omega)) ?_
  rw [i32_divN (by omega) (by omega) (by omega)]
  refine Run.iloadN F d86_6 rfl ?_
  refine Run.callStatic F (w396 hw) (w397 hw) (w2 hw) (w398 hw) (c_width l Z n0 a0 hw x1 h Ls hO) rfl pd3 rfl rfl rfl rfl (by decide) (by decide) rfl d86_7 ?_
  rintro _ _ _ ⟨_, rfl, rfl, rfl, rfl⟩ _ _
  refine Run.imul F d86_10 ?_
  rw [i32_mul (by omega) (by omega) (by omega)]
  refine Run.iloadN F d86_11 rfl ?_
  refine Run.iloadN F d86_12 rfl ?_
  refine Run.isub F d86_13 ?_
  rw [i32_sub (by omega) (by omega)]
  refine Run.iloadN F d86_14 rfl ?_
  refine Run.callStatic F (w393 hw) (w394 hw) (w2 hw) (w395 hw) (c_units l Z n0 a0 hw x2 h Ls hO) rfl pd3 rfl rfl rfl rfl (by decide) (by decide) rfl d86_15 ?_
  rintro _ _ _ ⟨_, rfl, rfl, rfl, rfl⟩ _ _
  refine Run.idiv F d86_18 (i32_ne0 (by omega) (by omega)) ?_
  rw [i32_divN (by omega) (by omega) (by omega)]
  refine Run.iloadN F d86_19 rfl ?_
  refine Run.callStatic F (w396 hw) (w397 hw) (w2 hw) (w398 hw) (c_width l Z n0 a0 hw x2 h Ls hO) rfl pd3 rfl rfl rfl rfl (by decide) (by decide) rfl d86_20 ?_
  rintro _ _ _ ⟨_, rfl, rfl, rfl, rfl⟩ _ _
  refine Run.imul F d86_23 ?_
  rw [i32_mul (a := (s - 2 * j) / nu (ptOf x2)) (by omega) (by omega) (by omega)]
  refine Run.iadd F d86_24 ?_
  rw [i32_add (by omega)]
  exact Run.ireturn F (by simp) rfl (by decide) (by decide) d86_25 ⟨by rw [two_w8], rfl, rfl⟩
theorem c_keep (hw : HW Z a0) (x1 x2 : Int32) (j s : Nat) (n : Int32) (h : Heap) (Ls : Lits) (hO : Old Z n0 h) (hj : 2 * j ≤ s) (hs : s ≤ 24) :
    Con l Z n0 (⟨"com/example/earnest_orm/earnestorm/mapping/IdentifiersIdentifierPinLaw", "keep", "(IIIII)I"⟩ : MethodName) method_9_code 6 (some .int) ⟨1, 0, 0, 16⟩ [.int x1, .int x2, .int (Int32.ofNat (2 * j)), .int (Int32.ofNat s), .int n] h Ls [] (RV fun w h' Ls' => w = .int (Int32.ofNat (uns (clip n.toInt (two (ptOf x1) (ptOf x2) (2 * j) s))).length) ∧ h = h' ∧ Ls = Ls') := by
  refine Con.of_run (plainFor_of_name pn11) hO ?_
  intro pX eX sX mX bX tX cX F hX
  refine ⟨[.val (.int x1), .val (.int x2), .val (.int (Int32.ofNat (2 * j))), .val (.int (Int32.ofNat s)), .val (.int n), .unset], rfl, ?_⟩
  have n1 := nu_pos (ptOf x1)
  have n2 := nu_pos (ptOf x2)
  have v1 := w8_pos (ptOf x1)
  have v2 := w8_pos (ptOf x2)
  have d1 := Nat.div_le_self (2 * j) (nu (ptOf x1))
  have d2 := Nat.div_le_self (s - 2 * j) (nu (ptOf x2))
  have m1 : 2 * j / nu (ptOf x1) * u8n (ptOf x1) ≤ 24 * 4 := Nat.mul_le_mul (by omega) (by omega)
  have m2 : (s - 2 * j) / nu (ptOf x2) * u8n (ptOf x2) ≤ 24 * 4 := Nat.mul_le_mul (by omega) (by omega)
  refine Run.iload F d89_0 rfl ?_
  refine Run.if_ge F d89_2 (t := 7) rfl rfl (fun q => ?_) (fun q => ?_)
  rotate_left
  · refine Run.iconst F d89_5 (z := 0) rfl ?_
    exact Run.ireturn F (by simp) rfl (by decide) (by decide) d89_6 ⟨by rw [clip_neg q]; rfl, rfl, rfl⟩
  have hn31 := rng32 n
  obtain ⟨nn, hnn, rfl⟩ : ∃ nn : Nat, nn < 2 ^ 31 ∧ n = Int32.ofNat nn := ⟨n.toInt.toNat, by omega, i32_eq (by omega)⟩
  have en := i32_ti hnn
  have kl := keep_len (p1 := ptOf x1) (p2 := ptOf x2) (r := 2 * j) (size := s) (n := nn) nu_div
  rw [en]
  rw [show two (ptOf x1) (ptOf x2) (2 * j) s = List.replicate (2 * j / nu (ptOf x1)) (ptOf x1) ++ List.replicate ((s - 2 * j) / nu (ptOf x2)) (ptOf x2) from rfl, kl]
  refine Run.iloadN F d89_7 rfl ?_
  refine Run.iloadN F d89_8 rfl ?_
  refine Run.callStatic F (w393 hw) (w394 hw) (w2 hw) (w395 hw) (c_units l Z n0 a0 hw x1 h Ls hO) rfl pd3 rfl rfl rfl rfl (by decide) (by decide) rfl d89_9 ?_
  rintro _ _ _ ⟨_, rfl, rfl, rfl, rfl⟩ _ _
  refine Run.idiv F d89_12 (i32_ne0 (by omega) (by omega)) ?_
  rw [i32_divN (by omega) (by omega) (by omega)]
  refine Run.iloadN F d89_13 rfl ?_
  refine Run.callStatic F (w396 hw) (w397 hw) (w2 hw) (w398 hw) (c_width l Z n0 a0 hw x1 h Ls hO) rfl pd3 rfl rfl rfl rfl (by decide) (by decide) rfl d89_14 ?_
  rintro _ _ _ ⟨_, rfl, rfl, rfl, rfl⟩ _ _
  refine Run.imul F d89_17 ?_
  rw [i32_mul (by omega) (by omega) (by omega)]
  refine Run.istore F d89_18 rfl ?_
  dsimp only [List.set]
  refine Run.iload F d89_20 rfl ?_
  refine Run.iload F d89_22 rfl ?_
  refine Run.icmp_ge F d89_24 (t := 40) rfl (i32_ti (by omega)) (i32_ti (by omega)) (fun q2 => ?_) (fun q2 => ?_)
  rotate_left
  · have hlt : nn < 2 * j / nu (ptOf x1) * u8n (ptOf x1) := by omega
    have d3 := Nat.div_le_self nn (u8n (ptOf x1))
    have m3 : nu (ptOf x1) * (nn / u8n (ptOf x1)) ≤ 2 * 96 := Nat.mul_le_mul (by omega) (by omega)
    refine Run.iloadN F d89_27 rfl ?_
    refine Run.callStatic F (w393 hw) (w394 hw) (w2 hw) (w395 hw) (c_units l Z n0 a0 hw x1 h Ls hO) rfl pd3 rfl rfl rfl rfl (by decide) (by decide) rfl d89_28 ?_
    rintro _ _ _ ⟨_, rfl, rfl, rfl, rfl⟩ _ _
    refine Run.iload F d89_31 rfl ?_
    refine Run.iloadN F d89_33 rfl ?_
    refine Run.callStatic F (w396 hw) (w397 hw) (w2 hw) (w398 hw) (c_width l Z n0 a0 hw x1 h Ls hO) rfl pd3 rfl rfl rfl rfl (by decide) (by decide) rfl d89_34 ?_
    rintro _ _ _ ⟨_, rfl, rfl, rfl, rfl⟩ _ _
    refine Run.idiv F d89_37 (i32_ne0 (by omega) (by omega)) ?_
    rw [i32_divN (by omega) (by omega) (by omega)]
    refine Run.imul F d89_38 ?_
    rw [i32_mul (by omega) (by omega) (by omega)]
    exact Run.ireturn F (by simp) rfl (by decide) (by decide) d89_39 ⟨by rw [kpN, if_pos hlt], rfl, rfl⟩
  have hge : 2 * j / nu (ptOf x1) * u8n (ptOf x1) ≤ nn := by omega
  refine Run.iloadN F d89_40 rfl ?_
  refine Run.iloadN F d89_41 rfl ?_
  refine Run.callStatic F (w393 hw) (w394 hw) (w2 hw) (w395 hw) (c_units l Z n0 a0 hw x2 h Ls hO) rfl pd3 rfl rfl rfl rfl (by decide) (by decide) rfl d89_42 ?_
  rintro _ _ _ ⟨_, rfl, rfl, rfl, rfl⟩ _ _
  refine Run.iloadN F d89_45 rfl ?_
  refine Run.iloadN F d89_46 rfl ?_
  refine Run.isub F d89_47 ?_
  rw [i32_sub (by omega) (by omega)]
  refine Run.iloadN F d89_48 rfl ?_
  refine Run.callStatic F (w393 hw) (w394 hw) (w2 hw) (w395 hw) (c_units l Z n0 a0 hw x2 h Ls hO) rfl pd3 rfl rfl rfl rfl (by decide) (by decide) rfl d89_49 ?_
  rintro _ _ _ ⟨_, rfl, rfl, rfl, rfl⟩ _ _
  refine Run.idiv F d89_52 (i32_ne0 (by omega) (by omega)) ?_
  rw [i32_divN (by omega) (by omega) (by omega)]
  refine Run.iload F d89_53 rfl ?_
  refine Run.iload F d89_55 rfl ?_
  refine Run.isub F d89_57 ?_
  rw [i32_sub hge hnn]
  refine Run.iloadN F d89_58 rfl ?_
  refine Run.callStatic F (w396 hw) (w397 hw) (w2 hw) (w398 hw) (c_width l Z n0 a0 hw x2 h Ls hO) rfl pd3 rfl rfl rfl rfl (by decide) (by decide) rfl d89_59 ?_
  rintro _ _ _ ⟨_, rfl, rfl, rfl, rfl⟩ _ _
  refine Run.idiv F d89_62 (i32_ne0 (by omega) (by omega)) ?_
  have d4 := Nat.div_le_self (nn - 2 * j / nu (ptOf x1) * u8n (ptOf x1)) (u8n (ptOf x2))
  rw [i32_divN (by omega) (by omega) (by omega)]
  refine Run.callStatic F (w402 hw) (w122 hw) (w123 hw) (w124 hw) (c_mathMin l Z n0 a0 hw _ _ h Ls hO) rfl pd15 rfl rfl rfl rfl (by decide) (by decide) rfl d89_63 ?_
  rintro _ _ _ ⟨_, rfl, z, rfl, hz, rfl, rfl⟩ _ _
  rw [i32_ti (i := (s - 2 * j) / nu (ptOf x2)) (by omega), i32_ti (i := (nn - 2 * j / nu (ptOf x1) * u8n (ptOf x1)) / u8n (ptOf x2)) (by omega)] at hz
  have ez : z = Int32.ofNat (min ((s - 2 * j) / nu (ptOf x2)) ((nn - 2 * j / nu (ptOf x1) * u8n (ptOf x1)) / u8n (ptOf x2))) := i32_eq (by omega)
  have m4 : nu (ptOf x2) * min ((s - 2 * j) / nu (ptOf x2)) ((nn - 2 * j / nu (ptOf x1) * u8n (ptOf x1)) / u8n (ptOf x2)) ≤ 2 * 24 := Nat.mul_le_mul (by omega) (by omega)
  rw [ez]
  refine Run.imul F d89_66 ?_
  rw [i32_mul (by omega) (by omega) (by omega)]
  refine Run.iadd F d89_67 ?_
  rw [i32_add (by omega)]
  exact Run.ireturn F (by simp) rfl (by decide) (by decide) d89_68 ⟨by rw [kpN, if_neg (by omega)], rfl, rfl⟩
theorem c_fill12 (hw : HW Z a0) (x1 x2 : Int32) (r : Nat) (h : Heap) (Ls : Lits) (hO : Old Z n0 h) (hr : r ≤ 12) :
    Con l Z n0 (⟨"com/example/earnest_orm/earnestorm/mapping/IdentifiersIdentifierPinLaw", "fill12", "(III)[C"⟩ : MethodName) method_10_code 8 (some (.array .char)) ⟨2, 1, 12, 28⟩ [.int x1, .int x2, .int (Int32.ofNat r)] h Ls [] (RV fun w h' Ls' => ∃ t : Nat, w = .ref t ∧ Keep h h' [] ∧ h.size ≤ t ∧ Av Z h' t .char ((List.range 12).map fun j => Value.int (fch (ptOf x1) (ptOf x2) r j)) ∧ Ls = Ls') := by
  refine Con.of_run (plainFor_of_name pn11) hO ?_
  intro pX eX sX mX bX tX cX F hX
  refine ⟨[.val (.int x1), .val (.int x2), .val (.int (Int32.ofNat r)), .unset, .unset, .unset, .unset, .unset], rfl, ?_⟩
  have ok1 := (cp_ok x1).1
  have ok2 := (cp_ok x2).1
  refine Run.iloadN F d1_0 rfl ?_
  refine Run.callStatic F (w4 hw) (w5 hw) (w2 hw) (w6 hw) (c_even l Z n0 a0 hw x1 h Ls hO) rfl pd40 rfl rfl rfl rfl (by decide) (by decide) rfl d1_1 ?_
  rintro _ _ _ ⟨_, rfl, rfl, rfl, rfl⟩ _ _
  refine Run.istoreN F d1_4 rfl ?_
  dsimp only [List.set]
  refine Run.iloadN F d1_5 rfl ?_
  refine Run.callStatic F (w13 hw) (w14 hw) (w2 hw) (w15 hw) (c_odd l Z n0 a0 hw x1 h Ls hO) rfl pd40 rfl rfl rfl rfl (by decide) (by decide) rfl d1_6 ?_
  rintro _ _ _ ⟨_, rfl, rfl, rfl, rfl⟩ _ _
  refine Run.istore F d1_9 rfl ?_
  dsimp only [List.set]
  refine Run.iloadN F d1_11 rfl ?_
  refine Run.callStatic F (w4 hw) (w5 hw) (w2 hw) (w6 hw) (c_even l Z n0 a0 hw x2 h Ls hO) rfl pd40 rfl rfl rfl rfl (by decide) (by decide) rfl d1_12 ?_
  rintro _ _ _ ⟨_, rfl, rfl, rfl, rfl⟩ _ _
  refine Run.istore F d1_15 rfl ?_
  dsimp only [List.set]
  refine Run.iloadN F d1_17 rfl ?_
  refine Run.callStatic F (w13 hw) (w14 hw) (w2 hw) (w15 hw) (c_odd l Z n0 a0 hw x2 h Ls hO) rfl pd40 rfl rfl rfl rfl (by decide) (by decide) rfl d1_18 ?_
  rintro _ _ _ ⟨_, rfl, rfl, rfl, rfl⟩ _ _
  refine Run.istore F d1_21 rfl ?_
  dsimp only [List.set]
  refine Run.bipush F d1_23 (z := 12) rfl ?_
  refine Run.newarray (aty := .char) F (w17 hw) (by decide) (len := 12) rfl 12 (by decide) rfl (by decide) (by decide) d1_25 ?_
  intro h0 t ht KK0 lt0 B0
  have gt : n0 ≤ t := by rw [ht, ← hO.1]; exact hO.2.1
  have O0 : Old Z n0 h0 := hO.keep KK0 all0
  have A0 : Av Z h0 t .char ((List.range 0).map (fun j => Value.int (fch (ptOf x1) (ptOf x2) r j)) ++ List.replicate 12 (.int 0)) := B0
  refine Run.astore F d1_27 rfl rfl ?_
  dsimp only [List.set]
  refine Run.viaS (pcJ := 43) (fun st => st = [.int (fch (ptOf x1) (ptOf x2) r 0), .int 0, .ref t]) ?_ ?_
  rotate_left
  · intro JJ
    refine Run.aload F d1_29 rfl rfl ?_
    refine Run.iconst F d1_31 (z := 0) rfl ?_
    refine Run.iconst F d1_32 (z := 0) rfl ?_
    refine Run.iloadN F d1_33 rfl ?_
    refine Run.icmp_ge F d1_34 (t := 41) rfl (xi := 0) rfl (i32_ti (by omega)) (fun q => ?_) (fun q => ?_)
    · refine Run.iload F d1_41 rfl ?_
      exact JJ _ (by rw [fch, if_neg (show ¬ 0 < r by omega), if_pos (by decide)]; try rfl)
    · refine Run.iloadN F d1_37 rfl ?_
      refine Run.goto F d1_38 (t := 43) rfl ?_
      exact JJ _ (by rw [fch, if_pos (show 0 < r by omega), if_pos (by decide)]; try rfl)
  rintro _ rfl
  refine Run.castore F A0 gt (by decide) (i := 0) rfl (by simp) (y := fch (ptOf x1) (ptOf x2) r 0) (chr_id (fch_rng ok1 ok2).1 (fch_rng ok1 ok2).2) d1_43 ?_
  intro h1 W1 K1 s1 B1
  have A1 := fillA (F := fch (ptOf x1) (ptOf x2) r) (i := 0) (r := 11) B1
  have KK1 := KK0.trans K1 (allS (Or.inr (Nat.le_of_eq ht.symm)) all0)
  refine Run.viaS (pcJ := 59) (fun st => st = [.int (fch (ptOf x1) (ptOf x2) r 1), .int 1, .ref t]) ?_ ?_
  rotate_left
  · intro JJ
    refine Run.aload F d1_44 rfl rfl ?_
    refine Run.iconst F d1_46 (z := 1) rfl ?_
    refine Run.iconst F d1_47 (z := 1) rfl ?_
    refine Run.iloadN F d1_48 rfl ?_
    refine Run.icmp_ge F d1_49 (t := 57) rfl (xi := 1) rfl (i32_ti (by omega)) (fun q => ?_) (fun q => ?_)
    · refine Run.iload F d1_57 rfl ?_
      exact JJ _ (by rw [fch, if_neg (show ¬ 1 < r by omega), if_neg (by decide)]; try rfl)
    · refine Run.iload F d1_52 rfl ?_
      refine Run.goto F d1_54 (t := 59) rfl ?_
      exact JJ _ (by rw [fch, if_pos (show 1 < r by omega), if_neg (by decide)]; try rfl)
  rintro _ rfl
  refine Run.castore F A1 gt (by decide) (i := 1) rfl (by simp) (y := fch (ptOf x1) (ptOf x2) r 1) (chr_id (fch_rng ok1 ok2).1 (fch_rng ok1 ok2).2) d1_59 ?_
  intro h2 W2 K2 s2 B2
  have A2 := fillA (F := fch (ptOf x1) (ptOf x2) r) (i := 1) (r := 10) B2
  have KK2 := KK1.trans K2 (allS (Or.inr (Nat.le_of_eq ht.symm)) all0)
  refine Run.viaS (pcJ := 74) (fun st => st = [.int (fch (ptOf x1) (ptOf x2) r 2), .int 2, .ref t]) ?_ ?_
  rotate_left
  · intro JJ
    refine Run.aload F d1_60 rfl rfl ?_
    refine Run.iconst F d1_62 (z := 2) rfl ?_
    refine Run.iconst F d1_63 (z := 2) rfl ?_
    refine Run.iloadN F d1_64 rfl ?_
    refine Run.icmp_ge F d1_65 (t := 72) rfl (xi := 2) rfl (i32_ti (by omega)) (fun q => ?_) (fun q => ?_)
    · refine Run.iload F d1_72 rfl ?_
      exact JJ _ (by rw [fch, if_neg (show ¬ 2 < r by omega), if_pos (by decide)]; try rfl)
    · refine Run.iloadN F d1_68 rfl ?_
      refine Run.goto F d1_69 (t := 74) rfl ?_
      exact JJ _ (by rw [fch, if_pos (show 2 < r by omega), if_pos (by decide)]; try rfl)
  rintro _ rfl
  refine Run.castore F A2 gt (by decide) (i := 2) rfl (by simp) (y := fch (ptOf x1) (ptOf x2) r 2) (chr_id (fch_rng ok1 ok2).1 (fch_rng ok1 ok2).2) d1_74 ?_
  intro h3 W3 K3 s3 B3
  have A3 := fillA (F := fch (ptOf x1) (ptOf x2) r) (i := 2) (r := 9) B3
  have KK3 := KK2.trans K3 (allS (Or.inr (Nat.le_of_eq ht.symm)) all0)
  refine Run.viaS (pcJ := 90) (fun st => st = [.int (fch (ptOf x1) (ptOf x2) r 3), .int 3, .ref t]) ?_ ?_
  rotate_left
  · intro JJ
    refine Run.aload F d1_75 rfl rfl ?_
    refine Run.iconst F d1_77 (z := 3) rfl ?_
    refine Run.iconst F d1_78 (z := 3) rfl ?_
    refine Run.iloadN F d1_79 rfl ?_
    refine Run.icmp_ge F d1_80 (t := 88) rfl (xi := 3) rfl (i32_ti (by omega)) (fun q => ?_) (fun q => ?_)
    · refine Run.iload F d1_88 rfl ?_
      exact JJ _ (by rw [fch, if_neg (show ¬ 3 < r by omega), if_neg (by decide)]; try rfl)
    · refine Run.iload F d1_83 rfl ?_
      refine Run.goto F d1_85 (t := 90) rfl ?_
      exact JJ _ (by rw [fch, if_pos (show 3 < r by omega), if_neg (by decide)]; try rfl)
  rintro _ rfl
  refine Run.castore F A3 gt (by decide) (i := 3) rfl (by simp) (y := fch (ptOf x1) (ptOf x2) r 3) (chr_id (fch_rng ok1 ok2).1 (fch_rng ok1 ok2).2) d1_90 ?_
  intro h4 W4 K4 s4 B4
  have A4 := fillA (F := fch (ptOf x1) (ptOf x2) r) (i := 3) (r := 8) B4
  have KK4 := KK3.trans K4 (allS (Or.inr (Nat.le_of_eq ht.symm)) all0)
  refine Run.viaS (pcJ := 105) (fun st => st = [.int (fch (ptOf x1) (ptOf x2) r 4), .int 4, .ref t]) ?_ ?_
  rotate_left
  · intro JJ
    refine Run.aload F d1_91 rfl rfl ?_
    refine Run.iconst F d1_93 (z := 4) rfl ?_
    refine Run.iconst F d1_94 (z := 4) rfl ?_
    refine Run.iloadN F d1_95 rfl ?_
    refine Run.icmp_ge F d1_96 (t := 103) rfl (xi := 4) rfl (i32_ti (by omega)) (fun q => ?_) (fun q => ?_)
    · refine Run.iload F d1_103 rfl ?_
      exact JJ _ (by rw [fch, if_neg (show ¬ 4 < r by omega), if_pos (by decide)]; try rfl)
    · refine Run.iloadN F d1_99 rfl ?_
      refine Run.goto F d1_100 (t := 105) rfl ?_
      exact JJ _ (by rw [fch, if_pos (show 4 < r by omega), if_pos (by decide)]; try rfl)
  rintro _ rfl
  refine Run.castore F A4 gt (by decide) (i := 4) rfl (by simp) (y := fch (ptOf x1) (ptOf x2) r 4) (chr_id (fch_rng ok1 ok2).1 (fch_rng ok1 ok2).2) d1_105 ?_
  intro h5 W5 K5 s5 B5
  have A5 := fillA (F := fch (ptOf x1) (ptOf x2) r) (i := 4) (r := 7) B5
  have KK5 := KK4.trans K5 (allS (Or.inr (Nat.le_of_eq ht.symm)) all0)
  refine Run.viaS (pcJ := 121) (fun st => st = [.int (fch (ptOf x1) (ptOf x2) r 5), .int 5, .ref t]) ?_ ?_
  rotate_left
  · intro JJ
    refine Run.aload F d1_106 rfl rfl ?_
    refine Run.iconst F d1_108 (z := 5) rfl ?_
    refine Run.iconst F d1_109 (z := 5) rfl ?_
    refine Run.iloadN F d1_110 rfl ?_
    refine Run.icmp_ge F d1_111 (t := 119) rfl (xi := 5) rfl (i32_ti (by omega)) (fun q => ?_) (fun q => ?_)
    · refine Run.iload F d1_119 rfl ?_
      exact JJ _ (by rw [fch, if_neg (show ¬ 5 < r by omega), if_neg (by decide)]; try rfl)
    · refine Run.iload F d1_114 rfl ?_
      refine Run.goto F d1_116 (t := 121) rfl ?_
      exact JJ _ (by rw [fch, if_pos (show 5 < r by omega), if_neg (by decide)]; try rfl)
  rintro _ rfl
  refine Run.castore F A5 gt (by decide) (i := 5) rfl (by simp) (y := fch (ptOf x1) (ptOf x2) r 5) (chr_id (fch_rng ok1 ok2).1 (fch_rng ok1 ok2).2) d1_121 ?_
  intro h6 W6 K6 s6 B6
  have A6 := fillA (F := fch (ptOf x1) (ptOf x2) r) (i := 5) (r := 6) B6
  have KK6 := KK5.trans K6 (allS (Or.inr (Nat.le_of_eq ht.symm)) all0)
  refine Run.viaS (pcJ := 138) (fun st => st = [.int (fch (ptOf x1) (ptOf x2) r 6), .int 6, .ref t]) ?_ ?_
  rotate_left
  · intro JJ
    refine Run.aload F d1_122 rfl rfl ?_
    refine Run.bipush F d1_124 (z := 6) rfl ?_
    refine Run.bipush F d1_126 (z := 6) rfl ?_
    refine Run.iloadN F d1_128 rfl ?_
    refine Run.icmp_ge F d1_129 (t := 136) rfl (xi := 6) rfl (i32_ti (by omega)) (fun q => ?_) (fun q => ?_)
    · refine Run.iload F d1_136 rfl ?_
      exact JJ _ (by rw [fch, if_neg (show ¬ 6 < r by omega), if_pos (by decide)]; try rfl)
    · refine Run.iloadN F d1_132 rfl ?_
      refine Run.goto F d1_133 (t := 138) rfl ?_
      exact JJ _ (by rw [fch, if_pos (show 6 < r by omega), if_pos (by decide)]; try rfl)
  rintro _ rfl
  refine Run.castore F A6 gt (by decide) (i := 6) rfl (by simp) (y := fch (ptOf x1) (ptOf x2) r 6) (chr_id (fch_rng ok1 ok2).1 (fch_rng ok1 ok2).2) d1_138 ?_
  intro h7 W7 K7 s7 B7
  have A7 := fillA (F := fch (ptOf x1) (ptOf x2) r) (i := 6) (r := 5) B7
  have KK7 := KK6.trans K7 (allS (Or.inr (Nat.le_of_eq ht.symm)) all0)
  refine Run.viaS (pcJ := 156) (fun st => st = [.int (fch (ptOf x1) (ptOf x2) r 7), .int 7, .ref t]) ?_ ?_
  rotate_left
  · intro JJ
    refine Run.aload F d1_139 rfl rfl ?_
    refine Run.bipush F d1_141 (z := 7) rfl ?_
    refine Run.bipush F d1_143 (z := 7) rfl ?_
    refine Run.iloadN F d1_145 rfl ?_
    refine Run.icmp_ge F d1_146 (t := 154) rfl (xi := 7) rfl (i32_ti (by omega)) (fun q => ?_) (fun q => ?_)
    · refine Run.iload F d1_154 rfl ?_
      exact JJ _ (by rw [fch, if_neg (show ¬ 7 < r by omega), if_neg (by decide)]; try rfl)
    · refine Run.iload F d1_149 rfl ?_
      refine Run.goto F d1_151 (t := 156) rfl ?_
      exact JJ _ (by rw [fch, if_pos (show 7 < r by omega), if_neg (by decide)]; try rfl)
  rintro _ rfl
  refine Run.castore F A7 gt (by decide) (i := 7) rfl (by simp) (y := fch (ptOf x1) (ptOf x2) r 7) (chr_id (fch_rng ok1 ok2).1 (fch_rng ok1 ok2).2) d1_156 ?_
  intro h8 W8 K8 s8 B8
  have A8 := fillA (F := fch (ptOf x1) (ptOf x2) r) (i := 7) (r := 4) B8
  have KK8 := KK7.trans K8 (allS (Or.inr (Nat.le_of_eq ht.symm)) all0)
  refine Run.viaS (pcJ := 173) (fun st => st = [.int (fch (ptOf x1) (ptOf x2) r 8), .int 8, .ref t]) ?_ ?_
  rotate_left
  · intro JJ
    refine Run.aload F d1_157 rfl rfl ?_
    refine Run.bipush F d1_159 (z := 8) rfl ?_
    refine Run.bipush F d1_161 (z := 8) rfl ?_
    refine Run.iloadN F d1_163 rfl ?_
    refine Run.icmp_ge F d1_164 (t := 171) rfl (xi := 8) rfl (i32_ti (by omega)) (fun q => ?_) (fun q => ?_)
    · refine Run.iload F d1_171 rfl ?_
      exact JJ _ (by rw [fch, if_neg (show ¬ 8 < r by omega), if_pos (by decide)]; try rfl)
    · refine Run.iloadN F d1_167 rfl ?_
      refine Run.goto F d1_168 (t := 173) rfl ?_
      exact JJ _ (by rw [fch, if_pos (show 8 < r by omega), if_pos (by decide)]; try rfl)
  rintro _ rfl
  refine Run.castore F A8 gt (by decide) (i := 8) rfl (by simp) (y := fch (ptOf x1) (ptOf x2) r 8) (chr_id (fch_rng ok1 ok2).1 (fch_rng ok1 ok2).2) d1_173 ?_
  intro h9 W9 K9 s9 B9
  have A9 := fillA (F := fch (ptOf x1) (ptOf x2) r) (i := 8) (r := 3) B9
  have KK9 := KK8.trans K9 (allS (Or.inr (Nat.le_of_eq ht.symm)) all0)
  refine Run.viaS (pcJ := 191) (fun st => st = [.int (fch (ptOf x1) (ptOf x2) r 9), .int 9, .ref t]) ?_ ?_
  rotate_left
  · intro JJ
    refine Run.aload F d1_174 rfl rfl ?_
    refine Run.bipush F d1_176 (z := 9) rfl ?_
    refine Run.bipush F d1_178 (z := 9) rfl ?_
    refine Run.iloadN F d1_180 rfl ?_
    refine Run.icmp_ge F d1_181 (t := 189) rfl (xi := 9) rfl (i32_ti (by omega)) (fun q => ?_) (fun q => ?_)
    · refine Run.iload F d1_189 rfl ?_
      exact JJ _ (by rw [fch, if_neg (show ¬ 9 < r by omega), if_neg (by decide)]; try rfl)
    · refine Run.iload F d1_184 rfl ?_
      refine Run.goto F d1_186 (t := 191) rfl ?_
      exact JJ _ (by rw [fch, if_pos (show 9 < r by omega), if_neg (by decide)]; try rfl)
  rintro _ rfl
  refine Run.castore F A9 gt (by decide) (i := 9) rfl (by simp) (y := fch (ptOf x1) (ptOf x2) r 9) (chr_id (fch_rng ok1 ok2).1 (fch_rng ok1 ok2).2) d1_191 ?_
  intro h10 W10 K10 s10 B10
  have A10 := fillA (F := fch (ptOf x1) (ptOf x2) r) (i := 9) (r := 2) B10
  have KK10 := KK9.trans K10 (allS (Or.inr (Nat.le_of_eq ht.symm)) all0)
  refine Run.viaS (pcJ := 208) (fun st => st = [.int (fch (ptOf x1) (ptOf x2) r 10), .int 10, .ref t]) ?_ ?_
  rotate_left
  · intro JJ
    refine Run.aload F d1_192 rfl rfl ?_
    refine Run.bipush F d1_194 (z := 10) rfl ?_
    refine Run.bipush F d1_196 (z := 10) rfl ?_
    refine Run.iloadN F d1_198 rfl ?_
    refine Run.icmp_ge F d1_199 (t := 206) rfl (xi := 10) rfl (i32_ti (by omega)) (fun q => ?_) (fun q => ?_)
    · refine Run.iload F d1_206 rfl ?_
      exact JJ _ (by rw [fch, if_neg (show ¬ 10 < r by omega), if_pos (by decide)]; try rfl)
    · refine Run.iloadN F d1_202 rfl ?_
      refine Run.goto F d1_203 (t := 208) rfl ?_
      exact JJ _ (by rw [fch, if_pos (show 10 < r by omega), if_pos (by decide)]; try rfl)
  rintro _ rfl
  refine Run.castore F A10 gt (by decide) (i := 10) rfl (by simp) (y := fch (ptOf x1) (ptOf x2) r 10) (chr_id (fch_rng ok1 ok2).1 (fch_rng ok1 ok2).2) d1_208 ?_
  intro h11 W11 K11 s11 B11
  have A11 := fillA (F := fch (ptOf x1) (ptOf x2) r) (i := 10) (r := 1) B11
  have KK11 := KK10.trans K11 (allS (Or.inr (Nat.le_of_eq ht.symm)) all0)
  refine Run.viaS (pcJ := 226) (fun st => st = [.int (fch (ptOf x1) (ptOf x2) r 11), .int 11, .ref t]) ?_ ?_
  rotate_left
  · intro JJ
    refine Run.aload F d1_209 rfl rfl ?_
    refine Run.bipush F d1_211 (z := 11) rfl ?_
    refine Run.bipush F d1_213 (z := 11) rfl ?_
    refine Run.iloadN F d1_215 rfl ?_
    refine Run.icmp_ge F d1_216 (t := 224) rfl (xi := 11) rfl (i32_ti (by omega)) (fun q => ?_) (fun q => ?_)
    · refine Run.iload F d1_224 rfl ?_
      exact JJ _ (by rw [fch, if_neg (show ¬ 11 < r by omega), if_neg (by decide)]; try rfl)
    · refine Run.iload F d1_219 rfl ?_
      refine Run.goto F d1_221 (t := 226) rfl ?_
      exact JJ _ (by rw [fch, if_pos (show 11 < r by omega), if_neg (by decide)]; try rfl)
  rintro _ rfl
  refine Run.castore F A11 gt (by decide) (i := 11) rfl (by simp) (y := fch (ptOf x1) (ptOf x2) r 11) (chr_id (fch_rng ok1 ok2).1 (fch_rng ok1 ok2).2) d1_226 ?_
  intro h12 W12 K12 s12 B12
  have A12 := fillA (F := fch (ptOf x1) (ptOf x2) r) (i := 11) (r := 0) B12
  have KK12 := KK11.trans K12 (allS (Or.inr (Nat.le_of_eq ht.symm)) all0)
  refine Run.aload F d1_227 rfl rfl ?_
  have AE := A12
  rw [show List.replicate 0 (Value.int 0) = [] from rfl, List.append_nil] at AE
  exact Run.areturn F rfl rfl (by decide) (by decide) d1_229 ⟨t, rfl, KK12, Nat.le_of_eq ht.symm, AE, rfl⟩
theorem c_fill24 (hw : HW Z a0) (x1 x2 : Int32) (r : Nat) (h : Heap) (Ls : Lits) (hO : Old Z n0 h) (hr : r ≤ 24) :
    Con l Z n0 (⟨"com/example/earnest_orm/earnestorm/mapping/IdentifiersIdentifierPinLaw", "fill24", "(III)[C"⟩ : MethodName) method_11_code 8 (some (.array .char)) ⟨2, 1, 24, 28⟩ [.int x1, .int x2, .int (Int32.ofNat r)] h Ls [] (RV fun w h' Ls' => ∃ t : Nat, w = .ref t ∧ Keep h h' [] ∧ h.size ≤ t ∧ Av Z h' t .char ((List.range 24).map fun j => Value.int (fch (ptOf x1) (ptOf x2) r j)) ∧ Ls = Ls') := by
  refine Con.of_run (plainFor_of_name pn11) hO ?_
  intro pX eX sX mX bX tX cX F hX
  refine ⟨[.val (.int x1), .val (.int x2), .val (.int (Int32.ofNat r)), .unset, .unset, .unset, .unset, .unset], rfl, ?_⟩
  have ok1 := (cp_ok x1).1
  have ok2 := (cp_ok x2).1
  refine Run.iloadN F d5_0 rfl ?_
  refine Run.callStatic F (w4 hw) (w5 hw) (w2 hw) (w6 hw) (c_even l Z n0 a0 hw x1 h Ls hO) rfl pd40 rfl rfl rfl rfl (by decide) (by decide) rfl d5_1 ?_
  rintro _ _ _ ⟨_, rfl, rfl, rfl, rfl⟩ _ _
  refine Run.istoreN F d5_4 rfl ?_
  dsimp only [List.set]
  refine Run.iloadN F d5_5 rfl ?_
  refine Run.callStatic F (w13 hw) (w14 hw) (w2 hw) (w15 hw) (c_odd l Z n0 a0 hw x1 h Ls hO) rfl pd40 rfl rfl rfl rfl (by decide) (by decide) rfl d5_6 ?_
  rintro _ _ _ ⟨_, rfl, rfl, rfl, rfl⟩ _ _
  refine Run.istore F d5_9 rfl ?_
  dsimp only [List.set]
  refine Run.iloadN F d5_11 rfl ?_
  refine Run.callStatic F (w4 hw) (w5 hw) (w2 hw) (w6 hw) (c_even l Z n0 a0 hw x2 h Ls hO) rfl pd40 rfl rfl rfl rfl (by decide) (by decide) rfl d5_12 ?_
  rintro _ _ _ ⟨_, rfl, rfl, rfl, rfl⟩ _ _
  refine Run.istore F d5_15 rfl ?_
  dsimp only [List.set]
  refine Run.iloadN F d5_17 rfl ?_
  refine Run.callStatic F (w13 hw) (w14 hw) (w2 hw) (w15 hw) (c_odd l Z n0 a0 hw x2 h Ls hO) rfl pd40 rfl rfl rfl rfl (by decide) (by decide) rfl d5_18 ?_
  rintro _ _ _ ⟨_, rfl, rfl, rfl, rfl⟩ _ _
  refine Run.istore F d5_21 rfl ?_
  dsimp only [List.set]
  refine Run.bipush F d5_23 (z := 24) rfl ?_
  refine Run.newarray (aty := .char) F (w17 hw) (by decide) (len := 24) rfl 24 (by decide) rfl (by decide) (by decide) d5_25 ?_
  intro h0 t ht KK0 lt0 B0
  have gt : n0 ≤ t := by rw [ht, ← hO.1]; exact hO.2.1
  have O0 : Old Z n0 h0 := hO.keep KK0 all0
  have A0 : Av Z h0 t .char ((List.range 0).map (fun j => Value.int (fch (ptOf x1) (ptOf x2) r j)) ++ List.replicate 24 (.int 0)) := B0
  refine Run.astore F d5_27 rfl rfl ?_
  dsimp only [List.set]
  refine Run.viaS (pcJ := 43) (fun st => st = [.int (fch (ptOf x1) (ptOf x2) r 0), .int 0, .ref t]) ?_ ?_
  rotate_left
  · intro JJ
    refine Run.aload F d5_29 rfl rfl ?_
    refine Run.iconst F d5_31 (z := 0) rfl ?_
    refine Run.iconst F d5_32 (z := 0) rfl ?_
    refine Run.iloadN F d5_33 rfl ?_
    refine Run.icmp_ge F d5_34 (t := 41) rfl (xi := 0) rfl (i32_ti (by omega)) (fun q => ?_) (fun q => ?_)
    · refine Run.iload F d5_41 rfl ?_
      exact JJ _ (by rw [fch, if_neg (show ¬ 0 < r by omega), if_pos (by decide)]; try rfl)
    · refine Run.iloadN F d5_37 rfl ?_
      refine Run.goto F d5_38 (t := 43) rfl ?_
      exact JJ _ (by rw [fch, if_pos (show 0 < r by omega), if_pos (by decide)]; try rfl)
  rintro _ rfl
  refine Run.castore F A0 gt (by decide) (i := 0) rfl (by simp) (y := fch (ptOf x1) (ptOf x2) r 0) (chr_id (fch_rng ok1 ok2).1 (fch_rng ok1 ok2).2) d5_43 ?_
  intro h1 W1 K1 s1 B1
  have A1 := fillA (F := fch (ptOf x1) (ptOf x2) r) (i := 0) (r := 23) B1
  have KK1 := KK0.trans K1 (allS (Or.inr (Nat.le_of_eq ht.symm)) all0)
  refine Run.viaS (pcJ := 59) (fun st => st = [.int (fch (ptOf x1) (ptOf x2) r 1), .int 1, .ref t]) ?_ ?_
  rotate_left
  · intro JJ
    refine Run.aload F d5_44 rfl rfl ?_
    refine Run.iconst F d5_46 (z := 1) rfl ?_
    refine Run.iconst F d5_47 (z := 1) rfl ?_
    refine Run.iloadN F d5_48 rfl ?_
    refine Run.icmp_ge F d5_49 (t := 57) rfl (xi := 1) rfl (i32_ti (by omega)) (fun q => ?_) (fun q => ?_)
    · refine Run.iload F d5_57 rfl ?_
      exact JJ _ (by rw [fch, if_neg (show ¬ 1 < r by omega), if_neg (by decide)]; try rfl)
    · refine Run.iload F d5_52 rfl ?_
      refine Run.goto F d5_54 (t := 59) rfl ?_
      exact JJ _ (by rw [fch, if_pos (show 1 < r by omega), if_neg (by decide)]; try rfl)
  rintro _ rfl
  refine Run.castore F A1 gt (by decide) (i := 1) rfl (by simp) (y := fch (ptOf x1) (ptOf x2) r 1) (chr_id (fch_rng ok1 ok2).1 (fch_rng ok1 ok2).2) d5_59 ?_
  intro h2 W2 K2 s2 B2
  have A2 := fillA (F := fch (ptOf x1) (ptOf x2) r) (i := 1) (r := 22) B2
  have KK2 := KK1.trans K2 (allS (Or.inr (Nat.le_of_eq ht.symm)) all0)
  refine Run.viaS (pcJ := 74) (fun st => st = [.int (fch (ptOf x1) (ptOf x2) r 2), .int 2, .ref t]) ?_ ?_
  rotate_left
  · intro JJ
    refine Run.aload F d5_60 rfl rfl ?_
    refine Run.iconst F d5_62 (z := 2) rfl ?_
    refine Run.iconst F d5_63 (z := 2) rfl ?_
    refine Run.iloadN F d5_64 rfl ?_
    refine Run.icmp_ge F d5_65 (t := 72) rfl (xi := 2) rfl (i32_ti (by omega)) (fun q => ?_) (fun q => ?_)
    · refine Run.iload F d5_72 rfl ?_
      exact JJ _ (by rw [fch, if_neg (show ¬ 2 < r by omega), if_pos (by decide)]; try rfl)
    · refine Run.iloadN F d5_68 rfl ?_
      refine Run.goto F d5_69 (t := 74) rfl ?_
      exact JJ _ (by rw [fch, if_pos (show 2 < r by omega), if_pos (by decide)]; try rfl)
  rintro _ rfl
  refine Run.castore F A2 gt (by decide) (i := 2) rfl (by simp) (y := fch (ptOf x1) (ptOf x2) r 2) (chr_id (fch_rng ok1 ok2).1 (fch_rng ok1 ok2).2) d5_74 ?_
  intro h3 W3 K3 s3 B3
  have A3 := fillA (F := fch (ptOf x1) (ptOf x2) r) (i := 2) (r := 21) B3
  have KK3 := KK2.trans K3 (allS (Or.inr (Nat.le_of_eq ht.symm)) all0)
  refine Run.viaS (pcJ := 90) (fun st => st = [.int (fch (ptOf x1) (ptOf x2) r 3), .int 3, .ref t]) ?_ ?_
  rotate_left
  · intro JJ
    refine Run.aload F d5_75 rfl rfl ?_
    refine Run.iconst F d5_77 (z := 3) rfl ?_
    refine Run.iconst F d5_78 (z := 3) rfl ?_
    refine Run.iloadN F d5_79 rfl ?_
    refine Run.icmp_ge F d5_80 (t := 88) rfl (xi := 3) rfl (i32_ti (by omega)) (fun q => ?_) (fun q => ?_)
    · refine Run.iload F d5_88 rfl ?_
      exact JJ _ (by rw [fch, if_neg (show ¬ 3 < r by omega), if_neg (by decide)]; try rfl)
    · refine Run.iload F d5_83 rfl ?_
      refine Run.goto F d5_85 (t := 90) rfl ?_
      exact JJ _ (by rw [fch, if_pos (show 3 < r by omega), if_neg (by decide)]; try rfl)
  rintro _ rfl
  refine Run.castore F A3 gt (by decide) (i := 3) rfl (by simp) (y := fch (ptOf x1) (ptOf x2) r 3) (chr_id (fch_rng ok1 ok2).1 (fch_rng ok1 ok2).2) d5_90 ?_
  intro h4 W4 K4 s4 B4
  have A4 := fillA (F := fch (ptOf x1) (ptOf x2) r) (i := 3) (r := 20) B4
  have KK4 := KK3.trans K4 (allS (Or.inr (Nat.le_of_eq ht.symm)) all0)
  refine Run.viaS (pcJ := 105) (fun st => st = [.int (fch (ptOf x1) (ptOf x2) r 4), .int 4, .ref t]) ?_ ?_
  rotate_left
  · intro JJ
    refine Run.aload F d5_91 rfl rfl ?_
    refine Run.iconst F d5_93 (z := 4) rfl ?_
    refine Run.iconst F d5_94 (z := 4) rfl ?_
    refine Run.iloadN F d5_95 rfl ?_
    refine Run.icmp_ge F d5_96 (t := 103) rfl (xi := 4) rfl (i32_ti (by omega)) (fun q => ?_) (fun q => ?_)
    · refine Run.iload F d5_103 rfl ?_
      exact JJ _ (by rw [fch, if_neg (show ¬ 4 < r by omega), if_pos (by decide)]; try rfl)
    · refine Run.iloadN F d5_99 rfl ?_
      refine Run.goto F d5_100 (t := 105) rfl ?_
      exact JJ _ (by rw [fch, if_pos (show 4 < r by omega), if_pos (by decide)]; try rfl)
  rintro _ rfl
  refine Run.castore F A4 gt (by decide) (i := 4) rfl (by simp) (y := fch (ptOf x1) (ptOf x2) r 4) (chr_id (fch_rng ok1 ok2).1 (fch_rng ok1 ok2).2) d5_105 ?_
  intro h5 W5 K5 s5 B5
  have A5 := fillA (F := fch (ptOf x1) (ptOf x2) r) (i := 4) (r := 19) B5
  have KK5 := KK4.trans K5 (allS (Or.inr (Nat.le_of_eq ht.symm)) all0)
  refine Run.viaS (pcJ := 121) (fun st => st = [.int (fch (ptOf x1) (ptOf x2) r 5), .int 5, .ref t]) ?_ ?_
  rotate_left
  · intro JJ
    refine Run.aload F d5_106 rfl rfl ?_
    refine Run.iconst F d5_108 (z := 5) rfl ?_
    refine Run.iconst F d5_109 (z := 5) rfl ?_
    refine Run.iloadN F d5_110 rfl ?_
    refine Run.icmp_ge F d5_111 (t := 119) rfl (xi := 5) rfl (i32_ti (by omega)) (fun q => ?_) (fun q => ?_)
    · refine Run.iload F d5_119 rfl ?_
      exact JJ _ (by rw [fch, if_neg (show ¬ 5 < r by omega), if_neg (by decide)]; try rfl)
    · refine Run.iload F d5_114 rfl ?_
      refine Run.goto F d5_116 (t := 121) rfl ?_
      exact JJ _ (by rw [fch, if_pos (show 5 < r by omega), if_neg (by decide)]; try rfl)
  rintro _ rfl
  refine Run.castore F A5 gt (by decide) (i := 5) rfl (by simp) (y := fch (ptOf x1) (ptOf x2) r 5) (chr_id (fch_rng ok1 ok2).1 (fch_rng ok1 ok2).2) d5_121 ?_
  intro h6 W6 K6 s6 B6
  have A6 := fillA (F := fch (ptOf x1) (ptOf x2) r) (i := 5) (r := 18) B6
  have KK6 := KK5.trans K6 (allS (Or.inr (Nat.le_of_eq ht.symm)) all0)
  refine Run.viaS (pcJ := 138) (fun st => st = [.int (fch (ptOf x1) (ptOf x2) r 6), .int 6, .ref t]) ?_ ?_
  rotate_left
  · intro JJ
    refine Run.aload F d5_122 rfl rfl ?_
    refine Run.bipush F d5_124 (z := 6) rfl ?_
    refine Run.bipush F d5_126 (z := 6) rfl ?_
    refine Run.iloadN F d5_128 rfl ?_
    refine Run.icmp_ge F d5_129 (t := 136) rfl (xi := 6) rfl (i32_ti (by omega)) (fun q => ?_) (fun q => ?_)
    · refine Run.iload F d5_136 rfl ?_
      exact JJ _ (by rw [fch, if_neg (show ¬ 6 < r by omega), if_pos (by decide)]; try rfl)
    · refine Run.iloadN F d5_132 rfl ?_
      refine Run.goto F d5_133 (t := 138) rfl ?_
      exact JJ _ (by rw [fch, if_pos (show 6 < r by omega), if_pos (by decide)]; try rfl)
  rintro _ rfl
  refine Run.castore F A6 gt (by decide) (i := 6) rfl (by simp) (y := fch (ptOf x1) (ptOf x2) r 6) (chr_id (fch_rng ok1 ok2).1 (fch_rng ok1 ok2).2) d5_138 ?_
  intro h7 W7 K7 s7 B7
  have A7 := fillA (F := fch (ptOf x1) (ptOf x2) r) (i := 6) (r := 17) B7
  have KK7 := KK6.trans K7 (allS (Or.inr (Nat.le_of_eq ht.symm)) all0)
  refine Run.viaS (pcJ := 156) (fun st => st = [.int (fch (ptOf x1) (ptOf x2) r 7), .int 7, .ref t]) ?_ ?_
  rotate_left
  · intro JJ
    refine Run.aload F d5_139 rfl rfl ?_
    refine Run.bipush F d5_141 (z := 7) rfl ?_
    refine Run.bipush F d5_143 (z := 7) rfl ?_
    refine Run.iloadN F d5_145 rfl ?_
    refine Run.icmp_ge F d5_146 (t := 154) rfl (xi := 7) rfl (i32_ti (by omega)) (fun q => ?_) (fun q => ?_)
    · refine Run.iload F d5_154 rfl ?_
      exact JJ _ (by rw [fch, if_neg (show ¬ 7 < r by omega), if_neg (by decide)]; try rfl)
    · refine Run.iload F d5_149 rfl ?_
      refine Run.goto F d5_151 (t := 156) rfl ?_
      exact JJ _ (by rw [fch, if_pos (show 7 < r by omega), if_neg (by decide)]; try rfl)
  rintro _ rfl
  refine Run.castore F A7 gt (by decide) (i := 7) rfl (by simp) (y := fch (ptOf x1) (ptOf x2) r 7) (chr_id (fch_rng ok1 ok2).1 (fch_rng ok1 ok2).2) d5_156 ?_
  intro h8 W8 K8 s8 B8
  have A8 := fillA (F := fch (ptOf x1) (ptOf x2) r) (i := 7) (r := 16) B8
  have KK8 := KK7.trans K8 (allS (Or.inr (Nat.le_of_eq ht.symm)) all0)
  refine Run.viaS (pcJ := 173) (fun st => st = [.int (fch (ptOf x1) (ptOf x2) r 8), .int 8, .ref t]) ?_ ?_
  rotate_left
  · intro JJ
    refine Run.aload F d5_157 rfl rfl ?_
    refine Run.bipush F d5_159 (z := 8) rfl ?_
    refine Run.bipush F d5_161 (z := 8) rfl ?_
    refine Run.iloadN F d5_163 rfl ?_
    refine Run.icmp_ge F d5_164 (t := 171) rfl (xi := 8) rfl (i32_ti (by omega)) (fun q => ?_) (fun q => ?_)
    · refine Run.iload F d5_171 rfl ?_
      exact JJ _ (by rw [fch, if_neg (show ¬ 8 < r by omega), if_pos (by decide)]; try rfl)
    · refine Run.iloadN F d5_167 rfl ?_
      refine Run.goto F d5_168 (t := 173) rfl ?_
      exact JJ _ (by rw [fch, if_pos (show 8 < r by omega), if_pos (by decide)]; try rfl)
  rintro _ rfl
  refine Run.castore F A8 gt (by decide) (i := 8) rfl (by simp) (y := fch (ptOf x1) (ptOf x2) r 8) (chr_id (fch_rng ok1 ok2).1 (fch_rng ok1 ok2).2) d5_173 ?_
  intro h9 W9 K9 s9 B9
  have A9 := fillA (F := fch (ptOf x1) (ptOf x2) r) (i := 8) (r := 15) B9
  have KK9 := KK8.trans K9 (allS (Or.inr (Nat.le_of_eq ht.symm)) all0)
  refine Run.viaS (pcJ := 191) (fun st => st = [.int (fch (ptOf x1) (ptOf x2) r 9), .int 9, .ref t]) ?_ ?_
  rotate_left
  · intro JJ
    refine Run.aload F d5_174 rfl rfl ?_
    refine Run.bipush F d5_176 (z := 9) rfl ?_
    refine Run.bipush F d5_178 (z := 9) rfl ?_
    refine Run.iloadN F d5_180 rfl ?_
    refine Run.icmp_ge F d5_181 (t := 189) rfl (xi := 9) rfl (i32_ti (by omega)) (fun q => ?_) (fun q => ?_)
    · refine Run.iload F d5_189 rfl ?_
      exact JJ _ (by rw [fch, if_neg (show ¬ 9 < r by omega), if_neg (by decide)]; try rfl)
    · refine Run.iload F d5_184 rfl ?_
      refine Run.goto F d5_186 (t := 191) rfl ?_
      exact JJ _ (by rw [fch, if_pos (show 9 < r by omega), if_neg (by decide)]; try rfl)
  rintro _ rfl
  refine Run.castore F A9 gt (by decide) (i := 9) rfl (by simp) (y := fch (ptOf x1) (ptOf x2) r 9) (chr_id (fch_rng ok1 ok2).1 (fch_rng ok1 ok2).2) d5_191 ?_
  intro h10 W10 K10 s10 B10
  have A10 := fillA (F := fch (ptOf x1) (ptOf x2) r) (i := 9) (r := 14) B10
  have KK10 := KK9.trans K10 (allS (Or.inr (Nat.le_of_eq ht.symm)) all0)
  refine Run.viaS (pcJ := 208) (fun st => st = [.int (fch (ptOf x1) (ptOf x2) r 10), .int 10, .ref t]) ?_ ?_
  rotate_left
  · intro JJ
    refine Run.aload F d5_192 rfl rfl ?_
    refine Run.bipush F d5_194 (z := 10) rfl ?_
    refine Run.bipush F d5_196 (z := 10) rfl ?_
    refine Run.iloadN F d5_198 rfl ?_
    refine Run.icmp_ge F d5_199 (t := 206) rfl (xi := 10) rfl (i32_ti (by omega)) (fun q => ?_) (fun q => ?_)
    · refine Run.iload F d5_206 rfl ?_
      exact JJ _ (by rw [fch, if_neg (show ¬ 10 < r by omega), if_pos (by decide)]; try rfl)
    · refine Run.iloadN F d5_202 rfl ?_
      refine Run.goto F d5_203 (t := 208) rfl ?_
      exact JJ _ (by rw [fch, if_pos (show 10 < r by omega), if_pos (by decide)]; try rfl)
  rintro _ rfl
  refine Run.castore F A10 gt (by decide) (i := 10) rfl (by simp) (y := fch (ptOf x1) (ptOf x2) r 10) (chr_id (fch_rng ok1 ok2).1 (fch_rng ok1 ok2).2) d5_208 ?_
  intro h11 W11 K11 s11 B11
  have A11 := fillA (F := fch (ptOf x1) (ptOf x2) r) (i := 10) (r := 13) B11
  have KK11 := KK10.trans K11 (allS (Or.inr (Nat.le_of_eq ht.symm)) all0)
  refine Run.viaS (pcJ := 226) (fun st => st = [.int (fch (ptOf x1) (ptOf x2) r 11), .int 11, .ref t]) ?_ ?_
  rotate_left
  · intro JJ
    refine Run.aload F d5_209 rfl rfl ?_
    refine Run.bipush F d5_211 (z := 11) rfl ?_
    refine Run.bipush F d5_213 (z := 11) rfl ?_
    refine Run.iloadN F d5_215 rfl ?_
    refine Run.icmp_ge F d5_216 (t := 224) rfl (xi := 11) rfl (i32_ti (by omega)) (fun q => ?_) (fun q => ?_)
    · refine Run.iload F d5_224 rfl ?_
      exact JJ _ (by rw [fch, if_neg (show ¬ 11 < r by omega), if_neg (by decide)]; try rfl)
    · refine Run.iload F d5_219 rfl ?_
      refine Run.goto F d5_221 (t := 226) rfl ?_
      exact JJ _ (by rw [fch, if_pos (show 11 < r by omega), if_neg (by decide)]; try rfl)
  rintro _ rfl
  refine Run.castore F A11 gt (by decide) (i := 11) rfl (by simp) (y := fch (ptOf x1) (ptOf x2) r 11) (chr_id (fch_rng ok1 ok2).1 (fch_rng ok1 ok2).2) d5_226 ?_
  intro h12 W12 K12 s12 B12
  have A12 := fillA (F := fch (ptOf x1) (ptOf x2) r) (i := 11) (r := 12) B12
  have KK12 := KK11.trans K12 (allS (Or.inr (Nat.le_of_eq ht.symm)) all0)
  refine Run.viaS (pcJ := 243) (fun st => st = [.int (fch (ptOf x1) (ptOf x2) r 12), .int 12, .ref t]) ?_ ?_
  rotate_left
  · intro JJ
    refine Run.aload F d5_227 rfl rfl ?_
    refine Run.bipush F d5_229 (z := 12) rfl ?_
    refine Run.bipush F d5_231 (z := 12) rfl ?_
    refine Run.iloadN F d5_233 rfl ?_
    refine Run.icmp_ge F d5_234 (t := 241) rfl (xi := 12) rfl (i32_ti (by omega)) (fun q => ?_) (fun q => ?_)
    · refine Run.iload F d5_241 rfl ?_
      exact JJ _ (by rw [fch, if_neg (show ¬ 12 < r by omega), if_pos (by decide)]; try rfl)
    · refine Run.iloadN F d5_237 rfl ?_
      refine Run.goto F d5_238 (t := 243) rfl ?_
      exact JJ _ (by rw [fch, if_pos (show 12 < r by omega), if_pos (by decide)]; try rfl)
  rintro _ rfl
  refine Run.castore F A12 gt (by decide) (i := 12) rfl (by simp) (y := fch (ptOf x1) (ptOf x2) r 12) (chr_id (fch_rng ok1 ok2).1 (fch_rng ok1 ok2).2) d5_243 ?_
  intro h13 W13 K13 s13 B13
  have A13 := fillA (F := fch (ptOf x1) (ptOf x2) r) (i := 12) (r := 11) B13
  have KK13 := KK12.trans K13 (allS (Or.inr (Nat.le_of_eq ht.symm)) all0)
  refine Run.viaS (pcJ := 261) (fun st => st = [.int (fch (ptOf x1) (ptOf x2) r 13), .int 13, .ref t]) ?_ ?_
  rotate_left
  · intro JJ
    refine Run.aload F d5_244 rfl rfl ?_
    refine Run.bipush F d5_246 (z := 13) rfl ?_
    refine Run.bipush F d5_248 (z := 13) rfl ?_
    refine Run.iloadN F d5_250 rfl ?_
    refine Run.icmp_ge F d5_251 (t := 259) rfl (xi := 13) rfl (i32_ti (by omega)) (fun q => ?_) (fun q => ?_)
    · refine Run.iload F d5_259 rfl ?_
      exact JJ _ (by rw [fch, if_neg (show ¬ 13 < r by omega), if_neg (by decide)]; try rfl)
    · refine Run.iload F d5_254 rfl ?_
      refine Run.goto F d5_256 (t := 261) rfl ?_
      exact JJ _ (by rw [fch, if_pos (show 13 < r by omega), if_neg (by decide)]; try rfl)
  rintro _ rfl
  refine Run.castore F A13 gt (by decide) (i := 13) rfl (by simp) (y := fch (ptOf x1) (ptOf x2) r 13) (chr_id (fch_rng ok1 ok2).1 (fch_rng ok1 ok2).2) d5_261 ?_
  intro h14 W14 K14 s14 B14
  have A14 := fillA (F := fch (ptOf x1) (ptOf x2) r) (i := 13) (r := 10) B14
  have KK14 := KK13.trans K14 (allS (Or.inr (Nat.le_of_eq ht.symm)) all0)
  refine Run.viaS (pcJ := 278) (fun st => st = [.int (fch (ptOf x1) (ptOf x2) r 14), .int 14, .ref t]) ?_ ?_
  rotate_left
  · intro JJ
    refine Run.aload F d5_262 rfl rfl ?_
    refine Run.bipush F d5_264 (z := 14) rfl ?_
    refine Run.bipush F d5_266 (z := 14) rfl ?_
    refine Run.iloadN F d5_268 rfl ?_
    refine Run.icmp_ge F d5_269 (t := 276) rfl (xi := 14) rfl (i32_ti (by omega)) (fun q => ?_) (fun q => ?_)
    · refine Run.iload F d5_276 rfl ?_
      exact JJ _ (by rw [fch, if_neg (show ¬ 14 < r by omega), if_pos (by decide)]; try rfl)
    · refine Run.iloadN F d5_272 rfl ?_
      refine Run.goto F d5_273 (t := 278) rfl ?_
      exact JJ _ (by rw [fch, if_pos (show 14 < r by omega), if_pos (by decide)]; try rfl)
  rintro _ rfl
  refine Run.castore F A14 gt (by decide) (i := 14) rfl (by simp) (y := fch (ptOf x1) (ptOf x2) r 14) (chr_id (fch_rng ok1 ok2).1 (fch_rng ok1 ok2).2) d5_278 ?_
  intro h15 W15 K15 s15 B15
  have A15 := fillA (F := fch (ptOf x1) (ptOf x2) r) (i := 14) (r := 9) B15
  have KK15 := KK14.trans K15 (allS (Or.inr (Nat.le_of_eq ht.symm)) all0)
  refine Run.viaS (pcJ := 296) (fun st => st = [.int (fch (ptOf x1) (ptOf x2) r 15), .int 15, .ref t]) ?_ ?_
  rotate_left
  · intro JJ
    refine Run.aload F d5_279 rfl rfl ?_
    refine Run.bipush F d5_281 (z := 15) rfl ?_
    refine Run.bipush F d5_283 (z := 15) rfl ?_
    refine Run.iloadN F d5_285 rfl ?_
    refine Run.icmp_ge F d5_286 (t := 294) rfl (xi := 15) rfl (i32_ti (by omega)) (fun q => ?_) (fun q => ?_)
    · refine Run.iload F d5_294 rfl ?_
      exact JJ _ (by rw [fch, if_neg (show ¬ 15 < r by omega), if_neg (by decide)]; try rfl)
    · refine Run.iload F d5_289 rfl ?_
      refine Run.goto F d5_291 (t := 296) rfl ?_
      exact JJ _ (by rw [fch, if_pos (show 15 < r by omega), if_neg (by decide)]; try rfl)
  rintro _ rfl
  refine Run.castore F A15 gt (by decide) (i := 15) rfl (by simp) (y := fch (ptOf x1) (ptOf x2) r 15) (chr_id (fch_rng ok1 ok2).1 (fch_rng ok1 ok2).2) d5_296 ?_
  intro h16 W16 K16 s16 B16
  have A16 := fillA (F := fch (ptOf x1) (ptOf x2) r) (i := 15) (r := 8) B16
  have KK16 := KK15.trans K16 (allS (Or.inr (Nat.le_of_eq ht.symm)) all0)
  refine Run.viaS (pcJ := 313) (fun st => st = [.int (fch (ptOf x1) (ptOf x2) r 16), .int 16, .ref t]) ?_ ?_
  rotate_left
  · intro JJ
    refine Run.aload F d5_297 rfl rfl ?_
    refine Run.bipush F d5_299 (z := 16) rfl ?_
    refine Run.bipush F d5_301 (z := 16) rfl ?_
    refine Run.iloadN F d5_303 rfl ?_
    refine Run.icmp_ge F d5_304 (t := 311) rfl (xi := 16) rfl (i32_ti (by omega)) (fun q => ?_) (fun q => ?_)
    · refine Run.iload F d5_311 rfl ?_
      exact JJ _ (by rw [fch, if_neg (show ¬ 16 < r by omega), if_pos (by decide)]; try rfl)
    · refine Run.iloadN F d5_307 rfl ?_
      refine Run.goto F d5_308 (t := 313) rfl ?_
      exact JJ _ (by rw [fch, if_pos (show 16 < r by omega), if_pos (by decide)]; try rfl)
  rintro _ rfl
  refine Run.castore F A16 gt (by decide) (i := 16) rfl (by simp) (y := fch (ptOf x1) (ptOf x2) r 16) (chr_id (fch_rng ok1 ok2).1 (fch_rng ok1 ok2).2) d5_313 ?_
  intro h17 W17 K17 s17 B17
  have A17 := fillA (F := fch (ptOf x1) (ptOf x2) r) (i := 16) (r := 7) B17
  have KK17 := KK16.trans K17 (allS (Or.inr (Nat.le_of_eq ht.symm)) all0)
  refine Run.viaS (pcJ := 331) (fun st => st = [.int (fch (ptOf x1) (ptOf x2) r 17), .int 17, .ref t]) ?_ ?_
  rotate_left
  · intro JJ
    refine Run.aload F d5_314 rfl rfl ?_
    refine Run.bipush F d5_316 (z := 17) rfl ?_
    refine Run.bipush F d5_318 (z := 17) rfl ?_
    refine Run.iloadN F d5_320 rfl ?_
    refine Run.icmp_ge F d5_321 (t := 329) rfl (xi := 17) rfl (i32_ti (by omega)) (fun q => ?_) (fun q => ?_)
    · refine Run.iload F d5_329 rfl ?_
      exact JJ _ (by rw [fch, if_neg (show ¬ 17 < r by omega), if_neg (by decide)]; try rfl)
    · refine Run.iload F d5_324 rfl ?_
      refine Run.goto F d5_326 (t := 331) rfl ?_
      exact JJ _ (by rw [fch, if_pos (show 17 < r by omega), if_neg (by decide)]; try rfl)
  rintro _ rfl
  refine Run.castore F A17 gt (by decide) (i := 17) rfl (by simp) (y := fch (ptOf x1) (ptOf x2) r 17) (chr_id (fch_rng ok1 ok2).1 (fch_rng ok1 ok2).2) d5_331 ?_
  intro h18 W18 K18 s18 B18
  have A18 := fillA (F := fch (ptOf x1) (ptOf x2) r) (i := 17) (r := 6) B18
  have KK18 := KK17.trans K18 (allS (Or.inr (Nat.le_of_eq ht.symm)) all0)
  refine Run.viaS (pcJ := 348) (fun st => st = [.int (fch (ptOf x1) (ptOf x2) r 18), .int 18, .ref t]) ?_ ?_
  rotate_left
  · intro JJ
    refine Run.aload F d5_332 rfl rfl ?_
    refine Run.bipush F d5_334 (z := 18) rfl ?_
    refine Run.bipush F d5_336 (z := 18) rfl ?_
    refine Run.iloadN F d5_338 rfl ?_
    refine Run.icmp_ge F d5_339 (t := 346) rfl (xi := 18) rfl (i32_ti (by omega)) (fun q => ?_) (fun q => ?_)
    · refine Run.iload F d5_346 rfl ?_
      exact JJ _ (by rw [fch, if_neg (show ¬ 18 < r by omega), if_pos (by decide)]; try rfl)
    · refine Run.iloadN F d5_342 rfl ?_
      refine Run.goto F d5_343 (t := 348) rfl ?_
      exact JJ _ (by rw [fch, if_pos (show 18 < r by omega), if_pos (by decide)]; try rfl)
  rintro _ rfl
  refine Run.castore F A18 gt (by decide) (i := 18) rfl (by simp) (y := fch (ptOf x1) (ptOf x2) r 18) (chr_id (fch_rng ok1 ok2).1 (fch_rng ok1 ok2).2) d5_348 ?_
  intro h19 W19 K19 s19 B19
  have A19 := fillA (F := fch (ptOf x1) (ptOf x2) r) (i := 18) (r := 5) B19
  have KK19 := KK18.trans K19 (allS (Or.inr (Nat.le_of_eq ht.symm)) all0)
  refine Run.viaS (pcJ := 366) (fun st => st = [.int (fch (ptOf x1) (ptOf x2) r 19), .int 19, .ref t]) ?_ ?_
  rotate_left
  · intro JJ
    refine Run.aload F d5_349 rfl rfl ?_
    refine Run.bipush F d5_351 (z := 19) rfl ?_
    refine Run.bipush F d5_353 (z := 19) rfl ?_
    refine Run.iloadN F d5_355 rfl ?_
    refine Run.icmp_ge F d5_356 (t := 364) rfl (xi := 19) rfl (i32_ti (by omega)) (fun q => ?_) (fun q => ?_)
    · refine Run.iload F d5_364 rfl ?_
      exact JJ _ (by rw [fch, if_neg (show ¬ 19 < r by omega), if_neg (by decide)]; try rfl)
    · refine Run.iload F d5_359 rfl ?_
      refine Run.goto F d5_361 (t := 366) rfl ?_
      exact JJ _ (by rw [fch, if_pos (show 19 < r by omega), if_neg (by decide)]; try rfl)
  rintro _ rfl
  refine Run.castore F A19 gt (by decide) (i := 19) rfl (by simp) (y := fch (ptOf x1) (ptOf x2) r 19) (chr_id (fch_rng ok1 ok2).1 (fch_rng ok1 ok2).2) d5_366 ?_
  intro h20 W20 K20 s20 B20
  have A20 := fillA (F := fch (ptOf x1) (ptOf x2) r) (i := 19) (r := 4) B20
  have KK20 := KK19.trans K20 (allS (Or.inr (Nat.le_of_eq ht.symm)) all0)
  refine Run.viaS (pcJ := 383) (fun st => st = [.int (fch (ptOf x1) (ptOf x2) r 20), .int 20, .ref t]) ?_ ?_
  rotate_left
  · intro JJ
    refine Run.aload F d5_367 rfl rfl ?_
    refine Run.bipush F d5_369 (z := 20) rfl ?_
    refine Run.bipush F d5_371 (z := 20) rfl ?_
    refine Run.iloadN F d5_373 rfl ?_
    refine Run.icmp_ge F d5_374 (t := 381) rfl (xi := 20) rfl (i32_ti (by omega)) (fun q => ?_) (fun q => ?_)
    · refine Run.iload F d5_381 rfl ?_
      exact JJ _ (by rw [fch, if_neg (show ¬ 20 < r by omega), if_pos (by decide)]; try rfl)
    · refine Run.iloadN F d5_377 rfl ?_
      refine Run.goto F d5_378 (t := 383) rfl ?_
      exact JJ _ (by rw [fch, if_pos (show 20 < r by omega), if_pos (by decide)]; try rfl)
  rintro _ rfl
  refine Run.castore F A20 gt (by decide) (i := 20) rfl (by simp) (y := fch (ptOf x1) (ptOf x2) r 20) (chr_id (fch_rng ok1 ok2).1 (fch_rng ok1 ok2).2) d5_383 ?_
  intro h21 W21 K21 s21 B21
  have A21 := fillA (F := fch (ptOf x1) (ptOf x2) r) (i := 20) (r := 3) B21
  have KK21 := KK20.trans K21 (allS (Or.inr (Nat.le_of_eq ht.symm)) all0)
  refine Run.viaS (pcJ := 401) (fun st => st = [.int (fch (ptOf x1) (ptOf x2) r 21), .int 21, .ref t]) ?_ ?_
  rotate_left
  · intro JJ
    refine Run.aload F d5_384 rfl rfl ?_
    refine Run.bipush F d5_386 (z := 21) rfl ?_
    refine Run.bipush F d5_388 (z := 21) rfl ?_
    refine Run.iloadN F d5_390 rfl ?_
    refine Run.icmp_ge F d5_391 (t := 399) rfl (xi := 21) rfl (i32_ti (by omega)) (fun q => ?_) (fun q => ?_)
    · refine Run.iload F d5_399 rfl ?_
      exact JJ _ (by rw [fch, if_neg (show ¬ 21 < r by omega), if_neg (by decide)]; try rfl)
    · refine Run.iload F d5_394 rfl ?_
      refine Run.goto F d5_396 (t := 401) rfl ?_
      exact JJ _ (by rw [fch, if_pos (show 21 < r by omega), if_neg (by decide)]; try rfl)
  rintro _ rfl
  refine Run.castore F A21 gt (by decide) (i := 21) rfl (by simp) (y := fch (ptOf x1) (ptOf x2) r 21) (chr_id (fch_rng ok1 ok2).1 (fch_rng ok1 ok2).2) d5_401 ?_
  intro h22 W22 K22 s22 B22
  have A22 := fillA (F := fch (ptOf x1) (ptOf x2) r) (i := 21) (r := 2) B22
  have KK22 := KK21.trans K22 (allS (Or.inr (Nat.le_of_eq ht.symm)) all0)
  refine Run.viaS (pcJ := 418) (fun st => st = [.int (fch (ptOf x1) (ptOf x2) r 22), .int 22, .ref t]) ?_ ?_
  rotate_left
  · intro JJ
    refine Run.aload F d5_402 rfl rfl ?_
    refine Run.bipush F d5_404 (z := 22) rfl ?_
    refine Run.bipush F d5_406 (z := 22) rfl ?_
    refine Run.iloadN F d5_408 rfl ?_
    refine Run.icmp_ge F d5_409 (t := 416) rfl (xi := 22) rfl (i32_ti (by omega)) (fun q => ?_) (fun q => ?_)
    · refine Run.iload F d5_416 rfl ?_
      exact JJ _ (by rw [fch, if_neg (show ¬ 22 < r by omega), if_pos (by decide)]; try rfl)
    · refine Run.iloadN F d5_412 rfl ?_
      refine Run.goto F d5_413 (t := 418) rfl ?_
      exact JJ _ (by rw [fch, if_pos (show 22 < r by omega), if_pos (by decide)]; try rfl)
  rintro _ rfl
  refine Run.castore F A22 gt (by decide) (i := 22) rfl (by simp) (y := fch (ptOf x1) (ptOf x2) r 22) (chr_id (fch_rng ok1 ok2).1 (fch_rng ok1 ok2).2) d5_418 ?_
  intro h23 W23 K23 s23 B23
  have A23 := fillA (F := fch (ptOf x1) (ptOf x2) r) (i := 22) (r := 1) B23
  have KK23 := KK22.trans K23 (allS (Or.inr (Nat.le_of_eq ht.symm)) all0)
  refine Run.viaS (pcJ := 436) (fun st => st = [.int (fch (ptOf x1) (ptOf x2) r 23), .int 23, .ref t]) ?_ ?_
  rotate_left
  · intro JJ
    refine Run.aload F d5_419 rfl rfl ?_
    refine Run.bipush F d5_421 (z := 23) rfl ?_
    refine Run.bipush F d5_423 (z := 23) rfl ?_
    refine Run.iloadN F d5_425 rfl ?_
    refine Run.icmp_ge F d5_426 (t := 434) rfl (xi := 23) rfl (i32_ti (by omega)) (fun q => ?_) (fun q => ?_)
    · refine Run.iload F d5_434 rfl ?_
      exact JJ _ (by rw [fch, if_neg (show ¬ 23 < r by omega), if_neg (by decide)]; try rfl)
    · refine Run.iload F d5_429 rfl ?_
      refine Run.goto F d5_431 (t := 436) rfl ?_
      exact JJ _ (by rw [fch, if_pos (show 23 < r by omega), if_neg (by decide)]; try rfl)
  rintro _ rfl
  refine Run.castore F A23 gt (by decide) (i := 23) rfl (by simp) (y := fch (ptOf x1) (ptOf x2) r 23) (chr_id (fch_rng ok1 ok2).1 (fch_rng ok1 ok2).2) d5_436 ?_
  intro h24 W24 K24 s24 B24
  have A24 := fillA (F := fch (ptOf x1) (ptOf x2) r) (i := 23) (r := 0) B24
  have KK24 := KK23.trans K24 (allS (Or.inr (Nat.le_of_eq ht.symm)) all0)
  refine Run.aload F d5_437 rfl rfl ?_
  have AE := A24
  rw [show List.replicate 0 (Value.int 0) = [] from rfl, List.append_nil] at AE
  exact Run.areturn F rfl rfl (by decide) (by decide) d5_439 ⟨t, rfl, KK24, Nat.le_of_eq ht.symm, AE, rfl⟩
theorem c_agrees (hw : HW Z a0) (x b t : Nat) (os vs : List Int32) (o c : Nat) {cz : Int32} (SC : sC Z cz) (hcz : cz.toInt ≠ 0) {sf : Value} (SF : sF Z sf) (hsf : sf.isRef = true) (UA : uA Z) (UH : uH Z) (UL : uL Z) (h : Heap) (Ls : Lits) (hO : Old Z n0 h) (S : Str Z h x b (coOf os) (byOf os)) (A : Av Z h t .char (vs.map Value.int)) (hos : ∀ c ∈ os, 0 ≤ c.toInt ∧ c.toInt < 65536) (hol : os.length < 2 ^ 30) (ho : o ≤ 100) (hc : c ≤ vs.length) (hvl : vs.length ≤ 24) (hm : ∀ i, i < c → os[o + i]? = vs[i]?) :
    Con l Z n0 (⟨"com/example/earnest_orm/earnestorm/mapping/IdentifiersIdentifierPinLaw", "agrees", "(Ljava/lang/String;I[CI)Z"⟩ : MethodName) method_12_code 4 (some .boolean) ⟨5, 0, 0, 66⟩ [.ref x, .int (Int32.ofNat o), .ref t, .int (Int32.ofNat c)] h Ls [] (RV fun w h' Ls' => w = .int 1 ∧ h = h' ∧ Ls = Ls') := by
  refine Con.of_run (plainFor_of_name pn11) hO ?_
  intro pX eX sX mX bX tX cX F hX
  refine ⟨[.val (.ref x), .val (.int (Int32.ofNat o)), .val (.ref t), .val (.int (Int32.ofNat c))], rfl, ?_⟩
  refine Run.viaS (pcJ := 15) (fun st => st = []) ?_ ?_
  rotate_left
  · intro JJ
    refine Run.iloadN F d90_0 rfl ?_
    refine Run.if_le F d90_1 (t := 15) rfl (i32_ti (by omega)) (fun _ => JJ _ rfl) (fun q => ?_)
    obtain ⟨c1, hc1⟩ : ∃ c1, vs[0]? = some c1 := ⟨_, List.getElem?_eq_getElem (by omega)⟩
    have hc2 : os[o + 0]? = some c1 := (hm 0 (by omega)).trans hc1
    refine Run.aloadN F d90_4 rfl rfl ?_
    refine Run.iloadN F d90_5 rfl ?_
    refine Run.callVirtual F (w407 hw) (w408 hw) (nfs (w410 hw)) (w410 hw) (w409 hw) (w23 hw) (w411 hw) S.1 (c_charAt l Z n0 a0 hw x b os (o + 0) c1 SC hcz SF hsf UA UH UL h Ls hO S hc2 hos hol) rfl pd40 rfl rfl rfl rfl (by decide) (by decide) rfl d90_6 ?_
    rintro _ _ _ ⟨_, rfl, rfl, rfl, rfl⟩ _ _
    refine Run.aloadN F d90_9 rfl rfl ?_
    refine Run.iconst F d90_10 (z := 0) rfl ?_
    refine Run.caload F A (by decide) (i := 0) rfl (mapInt_get hc1) d90_11 ?_
    refine Run.icmp_ne F d90_12 (t := 487) rfl rfl rfl (fun q => absurd rfl q) (fun _ => JJ _ rfl)
  rintro _ rfl
  refine Run.viaS (pcJ := 33) (fun st => st = []) ?_ ?_
  rotate_left
  · intro JJ
    refine Run.iloadN F d90_15 rfl ?_
    refine Run.iconst F d90_16 (z := 1) rfl ?_
    refine Run.icmp_le F d90_17 (t := 33) rfl (i32_ti (by omega)) (yi := 1) rfl (fun _ => JJ _ rfl) (fun q => ?_)
    obtain ⟨c1, hc1⟩ : ∃ c1, vs[1]? = some c1 := ⟨_, List.getElem?_eq_getElem (by omega)⟩
    have hc2 : os[o + 1]? = some c1 := (hm 1 (by omega)).trans hc1
    refine Run.aloadN F d90_20 rfl rfl ?_
    refine Run.iloadN F d90_21 rfl ?_
    refine Run.iconst F d90_22 (z := 1) rfl ?_
    refine Run.iadd F d90_23 ?_
    have eo : Int32.ofNat o + 1 = Int32.ofNat (o + 1) := i32_add (b := 1) (by omega)
    rw [eo]
    refine Run.callVirtual F (w407 hw) (w408 hw) (nfs (w410 hw)) (w410 hw) (w409 hw) (w23 hw) (w411 hw) S.1 (c_charAt l Z n0 a0 hw x b os (o + 1) c1 SC hcz SF hsf UA UH UL h Ls hO S hc2 hos hol) rfl pd40 rfl rfl rfl rfl (by decide) (by decide) rfl d90_24 ?_
    rintro _ _ _ ⟨_, rfl, rfl, rfl, rfl⟩ _ _
    refine Run.aloadN F d90_27 rfl rfl ?_
    refine Run.iconst F d90_28 (z := 1) rfl ?_
    refine Run.caload F A (by decide) (i := 1) rfl (mapInt_get hc1) d90_29 ?_
    refine Run.icmp_ne F d90_30 (t := 487) rfl rfl rfl (fun q => absurd rfl q) (fun _ => JJ _ rfl)
  rintro _ rfl
  refine Run.viaS (pcJ := 51) (fun st => st = []) ?_ ?_
  rotate_left
  · intro JJ
    refine Run.iloadN F d90_33 rfl ?_
    refine Run.iconst F d90_34 (z := 2) rfl ?_
    refine Run.icmp_le F d90_35 (t := 51) rfl (i32_ti (by omega)) (yi := 2) rfl (fun _ => JJ _ rfl) (fun q => ?_)
    obtain ⟨c1, hc1⟩ : ∃ c1, vs[2]? = some c1 := ⟨_, List.getElem?_eq_getElem (by omega)⟩
    have hc2 : os[o + 2]? = some c1 := (hm 2 (by omega)).trans hc1
    refine Run.aloadN F d90_38 rfl rfl ?_
    refine Run.iloadN F d90_39 rfl ?_
    refine Run.iconst F d90_40 (z := 2) rfl ?_
    refine Run.iadd F d90_41 ?_
    have eo : Int32.ofNat o + 2 = Int32.ofNat (o + 2) := i32_add (b := 2) (by omega)
    rw [eo]
    refine Run.callVirtual F (w407 hw) (w408 hw) (nfs (w410 hw)) (w410 hw) (w409 hw) (w23 hw) (w411 hw) S.1 (c_charAt l Z n0 a0 hw x b os (o + 2) c1 SC hcz SF hsf UA UH UL h Ls hO S hc2 hos hol) rfl pd40 rfl rfl rfl rfl (by decide) (by decide) rfl d90_42 ?_
    rintro _ _ _ ⟨_, rfl, rfl, rfl, rfl⟩ _ _
    refine Run.aloadN F d90_45 rfl rfl ?_
    refine Run.iconst F d90_46 (z := 2) rfl ?_
    refine Run.caload F A (by decide) (i := 2) rfl (mapInt_get hc1) d90_47 ?_
    refine Run.icmp_ne F d90_48 (t := 487) rfl rfl rfl (fun q => absurd rfl q) (fun _ => JJ _ rfl)
  rintro _ rfl
  refine Run.viaS (pcJ := 69) (fun st => st = []) ?_ ?_
  rotate_left
  · intro JJ
    refine Run.iloadN F d90_51 rfl ?_
    refine Run.iconst F d90_52 (z := 3) rfl ?_
    refine Run.icmp_le F d90_53 (t := 69) rfl (i32_ti (by omega)) (yi := 3) rfl (fun _ => JJ _ rfl) (fun q => ?_)
    obtain ⟨c1, hc1⟩ : ∃ c1, vs[3]? = some c1 := ⟨_, List.getElem?_eq_getElem (by omega)⟩
    have hc2 : os[o + 3]? = some c1 := (hm 3 (by omega)).trans hc1
    refine Run.aloadN F d90_56 rfl rfl ?_
    refine Run.iloadN F d90_57 rfl ?_
    refine Run.iconst F d90_58 (z := 3) rfl ?_
    refine Run.iadd F d90_59 ?_
    have eo : Int32.ofNat o + 3 = Int32.ofNat (o + 3) := i32_add (b := 3) (by omega)
    rw [eo]
    refine Run.callVirtual F (w407 hw) (w408 hw) (nfs (w410 hw)) (w410 hw) (w409 hw) (w23 hw) (w411 hw) S.1 (c_charAt l Z n0 a0 hw x b os (o + 3) c1 SC hcz SF hsf UA UH UL h Ls hO S hc2 hos hol) rfl pd40 rfl rfl rfl rfl (by decide) (by decide) rfl d90_60 ?_
    rintro _ _ _ ⟨_, rfl, rfl, rfl, rfl⟩ _ _
    refine Run.aloadN F d90_63 rfl rfl ?_
    refine Run.iconst F d90_64 (z := 3) rfl ?_
    refine Run.caload F A (by decide) (i := 3) rfl (mapInt_get hc1) d90_65 ?_
    refine Run.icmp_ne F d90_66 (t := 487) rfl rfl rfl (fun q => absurd rfl q) (fun _ => JJ _ rfl)
  rintro _ rfl
  refine Run.viaS (pcJ := 87) (fun st => st = []) ?_ ?_
  rotate_left
  · intro JJ
    refine Run.iloadN F d90_69 rfl ?_
    refine Run.iconst F d90_70 (z := 4) rfl ?_
    refine Run.icmp_le F d90_71 (t := 87) rfl (i32_ti (by omega)) (yi := 4) rfl (fun _ => JJ _ rfl) (fun q => ?_)
    obtain ⟨c1, hc1⟩ : ∃ c1, vs[4]? = some c1 := ⟨_, List.getElem?_eq_getElem (by omega)⟩
    have hc2 : os[o + 4]? = some c1 := (hm 4 (by omega)).trans hc1
    refine Run.aloadN F d90_74 rfl rfl ?_
    refine Run.iloadN F d90_75 rfl ?_
    refine Run.iconst F d90_76 (z := 4) rfl ?_
    refine Run.iadd F d90_77 ?_
    have eo : Int32.ofNat o + 4 = Int32.ofNat (o + 4) := i32_add (b := 4) (by omega)
    rw [eo]
    refine Run.callVirtual F (w407 hw) (w408 hw) (nfs (w410 hw)) (w410 hw) (w409 hw) (w23 hw) (w411 hw) S.1 (c_charAt l Z n0 a0 hw x b os (o + 4) c1 SC hcz SF hsf UA UH UL h Ls hO S hc2 hos hol) rfl pd40 rfl rfl rfl rfl (by decide) (by decide) rfl d90_78 ?_
    rintro _ _ _ ⟨_, rfl, rfl, rfl, rfl⟩ _ _
    refine Run.aloadN F d90_81 rfl rfl ?_
    refine Run.iconst F d90_82 (z := 4) rfl ?_
    refine Run.caload F A (by decide) (i := 4) rfl (mapInt_get hc1) d90_83 ?_
    refine Run.icmp_ne F d90_84 (t := 487) rfl rfl rfl (fun q => absurd rfl q) (fun _ => JJ _ rfl)
  rintro _ rfl
  refine Run.viaS (pcJ := 105) (fun st => st = []) ?_ ?_
  rotate_left
  · intro JJ
    refine Run.iloadN F d90_87 rfl ?_
    refine Run.iconst F d90_88 (z := 5) rfl ?_
    refine Run.icmp_le F d90_89 (t := 105) rfl (i32_ti (by omega)) (yi := 5) rfl (fun _ => JJ _ rfl) (fun q => ?_)
    obtain ⟨c1, hc1⟩ : ∃ c1, vs[5]? = some c1 := ⟨_, List.getElem?_eq_getElem (by omega)⟩
    have hc2 : os[o + 5]? = some c1 := (hm 5 (by omega)).trans hc1
    refine Run.aloadN F d90_92 rfl rfl ?_
    refine Run.iloadN F d90_93 rfl ?_
    refine Run.iconst F d90_94 (z := 5) rfl ?_
    refine Run.iadd F d90_95 ?_
    have eo : Int32.ofNat o + 5 = Int32.ofNat (o + 5) := i32_add (b := 5) (by omega)
    rw [eo]
    refine Run.callVirtual F (w407 hw) (w408 hw) (nfs (w410 hw)) (w410 hw) (w409 hw) (w23 hw) (w411 hw) S.1 (c_charAt l Z n0 a0 hw x b os (o + 5) c1 SC hcz SF hsf UA UH UL h Ls hO S hc2 hos hol) rfl pd40 rfl rfl rfl rfl (by decide) (by decide) rfl d90_96 ?_
    rintro _ _ _ ⟨_, rfl, rfl, rfl, rfl⟩ _ _
    refine Run.aloadN F d90_99 rfl rfl ?_
    refine Run.iconst F d90_100 (z := 5) rfl ?_
    refine Run.caload F A (by decide) (i := 5) rfl (mapInt_get hc1) d90_101 ?_
    refine Run.icmp_ne F d90_102 (t := 487) rfl rfl rfl (fun q => absurd rfl q) (fun _ => JJ _ rfl)
  rintro _ rfl
  refine Run.viaS (pcJ := 126) (fun st => st = []) ?_ ?_
  rotate_left
  · intro JJ
    refine Run.iloadN F d90_105 rfl ?_
    refine Run.bipush F d90_106 (z := 6) rfl ?_
    refine Run.icmp_le F d90_108 (t := 126) rfl (i32_ti (by omega)) (yi := 6) rfl (fun _ => JJ _ rfl) (fun q => ?_)
    obtain ⟨c1, hc1⟩ : ∃ c1, vs[6]? = some c1 := ⟨_, List.getElem?_eq_getElem (by omega)⟩
    have hc2 : os[o + 6]? = some c1 := (hm 6 (by omega)).trans hc1
    refine Run.aloadN F d90_111 rfl rfl ?_
    refine Run.iloadN F d90_112 rfl ?_
    refine Run.bipush F d90_113 (z := 6) rfl ?_
    refine Run.iadd F d90_115 ?_
    have eo : Int32.ofNat o + 6 = Int32.ofNat (o + 6) := i32_add (b := 6) (by omega)
    rw [eo]
    refine Run.callVirtual F (w407 hw) (w408 hw) (nfs (w410 hw)) (w410 hw) (w409 hw) (w23 hw) (w411 hw) S.1 (c_charAt l Z n0 a0 hw x b os (o + 6) c1 SC hcz SF hsf UA UH UL h Ls hO S hc2 hos hol) rfl pd40 rfl rfl rfl rfl (by decide) (by decide) rfl d90_116 ?_
    rintro _ _ _ ⟨_, rfl, rfl, rfl, rfl⟩ _ _
    refine Run.aloadN F d90_119 rfl rfl ?_
    refine Run.bipush F d90_120 (z := 6) rfl ?_
    refine Run.caload F A (by decide) (i := 6) rfl (mapInt_get hc1) d90_122 ?_
    refine Run.icmp_ne F d90_123 (t := 487) rfl rfl rfl (fun q => absurd rfl q) (fun _ => JJ _ rfl)
  rintro _ rfl
  refine Run.viaS (pcJ := 147) (fun st => st = []) ?_ ?_
  rotate_left
  · intro JJ
    refine Run.iloadN F d90_126 rfl ?_
    refine Run.bipush F d90_127 (z := 7) rfl ?_
    refine Run.icmp_le F d90_129 (t := 147) rfl (i32_ti (by omega)) (yi := 7) rfl (fun _ => JJ _ rfl) (fun q => ?_)
    obtain ⟨c1, hc1⟩ : ∃ c1, vs[7]? = some c1 := ⟨_, List.getElem?_eq_getElem (by omega)⟩
    have hc2 : os[o + 7]? = some c1 := (hm 7 (by omega)).trans hc1
    refine Run.aloadN F d90_132 rfl rfl ?_
    refine Run.iloadN F d90_133 rfl ?_
    refine Run.bipush F d90_134 (z := 7) rfl ?_
    refine Run.iadd F d90_136 ?_
    have eo : Int32.ofNat o + 7 = Int32.ofNat (o + 7) := i32_add (b := 7) (by omega)
    rw [eo]
    refine Run.callVirtual F (w407 hw) (w408 hw) (nfs (w410 hw)) (w410 hw) (w409 hw) (w23 hw) (w411 hw) S.1 (c_charAt l Z n0 a0 hw x b os (o + 7) c1 SC hcz SF hsf UA UH UL h Ls hO S hc2 hos hol) rfl pd40 rfl rfl rfl rfl (by decide) (by decide) rfl d90_137 ?_
    rintro _ _ _ ⟨_, rfl, rfl, rfl, rfl⟩ _ _
    refine Run.aloadN F d90_140 rfl rfl ?_
    refine Run.bipush F d90_141 (z := 7) rfl ?_
    refine Run.caload F A (by decide) (i := 7) rfl (mapInt_get hc1) d90_143 ?_
    refine Run.icmp_ne F d90_144 (t := 487) rfl rfl rfl (fun q => absurd rfl q) (fun _ => JJ _ rfl)
  rintro _ rfl
  refine Run.viaS (pcJ := 168) (fun st => st = []) ?_ ?_
  rotate_left
  · intro JJ
    refine Run.iloadN F d90_147 rfl ?_
    refine Run.bipush F d90_148 (z := 8) rfl ?_
    refine Run.icmp_le F d90_150 (t := 168) rfl (i32_ti (by omega)) (yi := 8) rfl (fun _ => JJ _ rfl) (fun q => ?_)
    obtain ⟨c1, hc1⟩ : ∃ c1, vs[8]? = some c1 := ⟨_, List.getElem?_eq_getElem (by omega)⟩
    have hc2 : os[o + 8]? = some c1 := (hm 8 (by omega)).trans hc1
    refine Run.aloadN F d90_153 rfl rfl ?_
    refine Run.iloadN F d90_154 rfl ?_
    refine Run.bipush F d90_155 (z := 8) rfl ?_
    refine Run.iadd F d90_157 ?_
    have eo : Int32.ofNat o + 8 = Int32.ofNat (o + 8) := i32_add (b := 8) (by omega)
    rw [eo]
    refine Run.callVirtual F (w407 hw) (w408 hw) (nfs (w410 hw)) (w410 hw) (w409 hw) (w23 hw) (w411 hw) S.1 (c_charAt l Z n0 a0 hw x b os (o + 8) c1 SC hcz SF hsf UA UH UL h Ls hO S hc2 hos hol) rfl pd40 rfl rfl rfl rfl (by decide) (by decide) rfl d90_158 ?_
    rintro _ _ _ ⟨_, rfl, rfl, rfl, rfl⟩ _ _
    refine Run.aloadN F d90_161 rfl rfl ?_
    refine Run.bipush F d90_162 (z := 8) rfl ?_
    refine Run.caload F A (by decide) (i := 8) rfl (mapInt_get hc1) d90_164 ?_
    refine Run.icmp_ne F d90_165 (t := 487) rfl rfl rfl (fun q => absurd rfl q) (fun _ => JJ _ rfl)
  rintro _ rfl
  refine Run.viaS (pcJ := 189) (fun st => st = []) ?_ ?_
  rotate_left
  · intro JJ
    refine Run.iloadN F d90_168 rfl ?_
    refine Run.bipush F d90_169 (z := 9) rfl ?_
    refine Run.icmp_le F d90_171 (t := 189) rfl (i32_ti (by omega)) (yi := 9) rfl (fun _ => JJ _ rfl) (fun q => ?_)
    obtain ⟨c1, hc1⟩ : ∃ c1, vs[9]? = some c1 := ⟨_, List.getElem?_eq_getElem (by omega)⟩
    have hc2 : os[o + 9]? = some c1 := (hm 9 (by omega)).trans hc1
    refine Run.aloadN F d90_174 rfl rfl ?_
    refine Run.iloadN F d90_175 rfl ?_
    refine Run.bipush F d90_176 (z := 9) rfl ?_
    refine Run.iadd F d90_178 ?_
    have eo : Int32.ofNat o + 9 = Int32.ofNat (o + 9) := i32_add (b := 9) (by omega)
    rw [eo]
    refine Run.callVirtual F (w407 hw) (w408 hw) (nfs (w410 hw)) (w410 hw) (w409 hw) (w23 hw) (w411 hw) S.1 (c_charAt l Z n0 a0 hw x b os (o + 9) c1 SC hcz SF hsf UA UH UL h Ls hO S hc2 hos hol) rfl pd40 rfl rfl rfl rfl (by decide) (by decide) rfl d90_179 ?_
    rintro _ _ _ ⟨_, rfl, rfl, rfl, rfl⟩ _ _
    refine Run.aloadN F d90_182 rfl rfl ?_
    refine Run.bipush F d90_183 (z := 9) rfl ?_
    refine Run.caload F A (by decide) (i := 9) rfl (mapInt_get hc1) d90_185 ?_
    refine Run.icmp_ne F d90_186 (t := 487) rfl rfl rfl (fun q => absurd rfl q) (fun _ => JJ _ rfl)
  rintro _ rfl
  refine Run.viaS (pcJ := 210) (fun st => st = []) ?_ ?_
  rotate_left
  · intro JJ
    refine Run.iloadN F d90_189 rfl ?_
    refine Run.bipush F d90_190 (z := 10) rfl ?_
    refine Run.icmp_le F d90_192 (t := 210) rfl (i32_ti (by omega)) (yi := 10) rfl (fun _ => JJ _ rfl) (fun q => ?_)
    obtain ⟨c1, hc1⟩ : ∃ c1, vs[10]? = some c1 := ⟨_, List.getElem?_eq_getElem (by omega)⟩
    have hc2 : os[o + 10]? = some c1 := (hm 10 (by omega)).trans hc1
    refine Run.aloadN F d90_195 rfl rfl ?_
    refine Run.iloadN F d90_196 rfl ?_
    refine Run.bipush F d90_197 (z := 10) rfl ?_
    refine Run.iadd F d90_199 ?_
    have eo : Int32.ofNat o + 10 = Int32.ofNat (o + 10) := i32_add (b := 10) (by omega)
    rw [eo]
    refine Run.callVirtual F (w407 hw) (w408 hw) (nfs (w410 hw)) (w410 hw) (w409 hw) (w23 hw) (w411 hw) S.1 (c_charAt l Z n0 a0 hw x b os (o + 10) c1 SC hcz SF hsf UA UH UL h Ls hO S hc2 hos hol) rfl pd40 rfl rfl rfl rfl (by decide) (by decide) rfl d90_200 ?_
    rintro _ _ _ ⟨_, rfl, rfl, rfl, rfl⟩ _ _
    refine Run.aloadN F d90_203 rfl rfl ?_
    refine Run.bipush F d90_204 (z := 10) rfl ?_
    refine Run.caload F A (by decide) (i := 10) rfl (mapInt_get hc1) d90_206 ?_
    refine Run.icmp_ne F d90_207 (t := 487) rfl rfl rfl (fun q => absurd rfl q) (fun _ => JJ _ rfl)
  rintro _ rfl
  refine Run.viaS (pcJ := 231) (fun st => st = []) ?_ ?_
  rotate_left
  · intro JJ
    refine Run.iloadN F d90_210 rfl ?_
    refine Run.bipush F d90_211 (z := 11) rfl ?_
    refine Run.icmp_le F d90_213 (t := 231) rfl (i32_ti (by omega)) (yi := 11) rfl (fun _ => JJ _ rfl) (fun q => ?_)
    obtain ⟨c1, hc1⟩ : ∃ c1, vs[11]? = some c1 := ⟨_, List.getElem?_eq_getElem (by omega)⟩
    have hc2 : os[o + 11]? = some c1 := (hm 11 (by omega)).trans hc1
    refine Run.aloadN F d90_216 rfl rfl ?_
    refine Run.iloadN F d90_217 rfl ?_
    refine Run.bipush F d90_218 (z := 11) rfl ?_
    refine Run.iadd F d90_220 ?_
    have eo : Int32.ofNat o + 11 = Int32.ofNat (o + 11) := i32_add (b := 11) (by omega)
    rw [eo]
    refine Run.callVirtual F (w407 hw) (w408 hw) (nfs (w410 hw)) (w410 hw) (w409 hw) (w23 hw) (w411 hw) S.1 (c_charAt l Z n0 a0 hw x b os (o + 11) c1 SC hcz SF hsf UA UH UL h Ls hO S hc2 hos hol) rfl pd40 rfl rfl rfl rfl (by decide) (by decide) rfl d90_221 ?_
    rintro _ _ _ ⟨_, rfl, rfl, rfl, rfl⟩ _ _
    refine Run.aloadN F d90_224 rfl rfl ?_
    refine Run.bipush F d90_225 (z := 11) rfl ?_
    refine Run.caload F A (by decide) (i := 11) rfl (mapInt_get hc1) d90_227 ?_
    refine Run.icmp_ne F d90_228 (t := 487) rfl rfl rfl (fun q => absurd rfl q) (fun _ => JJ _ rfl)
  rintro _ rfl
  refine Run.viaS (pcJ := 252) (fun st => st = []) ?_ ?_
  rotate_left
  · intro JJ
    refine Run.iloadN F d90_231 rfl ?_
    refine Run.bipush F d90_232 (z := 12) rfl ?_
    refine Run.icmp_le F d90_234 (t := 252) rfl (i32_ti (by omega)) (yi := 12) rfl (fun _ => JJ _ rfl) (fun q => ?_)
    obtain ⟨c1, hc1⟩ : ∃ c1, vs[12]? = some c1 := ⟨_, List.getElem?_eq_getElem (by omega)⟩
    have hc2 : os[o + 12]? = some c1 := (hm 12 (by omega)).trans hc1
    refine Run.aloadN F d90_237 rfl rfl ?_
    refine Run.iloadN F d90_238 rfl ?_
    refine Run.bipush F d90_239 (z := 12) rfl ?_
    refine Run.iadd F d90_241 ?_
    have eo : Int32.ofNat o + 12 = Int32.ofNat (o + 12) := i32_add (b := 12) (by omega)
    rw [eo]
    refine Run.callVirtual F (w407 hw) (w408 hw) (nfs (w410 hw)) (w410 hw) (w409 hw) (w23 hw) (w411 hw) S.1 (c_charAt l Z n0 a0 hw x b os (o + 12) c1 SC hcz SF hsf UA UH UL h Ls hO S hc2 hos hol) rfl pd40 rfl rfl rfl rfl (by decide) (by decide) rfl d90_242 ?_
    rintro _ _ _ ⟨_, rfl, rfl, rfl, rfl⟩ _ _
    refine Run.aloadN F d90_245 rfl rfl ?_
    refine Run.bipush F d90_246 (z := 12) rfl ?_
    refine Run.caload F A (by decide) (i := 12) rfl (mapInt_get hc1) d90_248 ?_
    refine Run.icmp_ne F d90_249 (t := 487) rfl rfl rfl (fun q => absurd rfl q) (fun _ => JJ _ rfl)
  rintro _ rfl
  refine Run.viaS (pcJ := 273) (fun st => st = []) ?_ ?_
  rotate_left
  · intro JJ
    refine Run.iloadN F d90_252 rfl ?_
    refine Run.bipush F d90_253 (z := 13) rfl ?_
    refine Run.icmp_le F d90_255 (t := 273) rfl (i32_ti (by omega)) (yi := 13) rfl (fun _ => JJ _ rfl) (fun q => ?_)
    obtain ⟨c1, hc1⟩ : ∃ c1, vs[13]? = some c1 := ⟨_, List.getElem?_eq_getElem (by omega)⟩
    have hc2 : os[o + 13]? = some c1 := (hm 13 (by omega)).trans hc1
    refine Run.aloadN F d90_258 rfl rfl ?_
    refine Run.iloadN F d90_259 rfl ?_
    refine Run.bipush F d90_260 (z := 13) rfl ?_
    refine Run.iadd F d90_262 ?_
    have eo : Int32.ofNat o + 13 = Int32.ofNat (o + 13) := i32_add (b := 13) (by omega)
    rw [eo]
    refine Run.callVirtual F (w407 hw) (w408 hw) (nfs (w410 hw)) (w410 hw) (w409 hw) (w23 hw) (w411 hw) S.1 (c_charAt l Z n0 a0 hw x b os (o + 13) c1 SC hcz SF hsf UA UH UL h Ls hO S hc2 hos hol) rfl pd40 rfl rfl rfl rfl (by decide) (by decide) rfl d90_263 ?_
    rintro _ _ _ ⟨_, rfl, rfl, rfl, rfl⟩ _ _
    refine Run.aloadN F d90_266 rfl rfl ?_
    refine Run.bipush F d90_267 (z := 13) rfl ?_
    refine Run.caload F A (by decide) (i := 13) rfl (mapInt_get hc1) d90_269 ?_
    refine Run.icmp_ne F d90_270 (t := 487) rfl rfl rfl (fun q => absurd rfl q) (fun _ => JJ _ rfl)
  rintro _ rfl
  refine Run.viaS (pcJ := 294) (fun st => st = []) ?_ ?_
  rotate_left
  · intro JJ
    refine Run.iloadN F d90_273 rfl ?_
    refine Run.bipush F d90_274 (z := 14) rfl ?_
    refine Run.icmp_le F d90_276 (t := 294) rfl (i32_ti (by omega)) (yi := 14) rfl (fun _ => JJ _ rfl) (fun q => ?_)
    obtain ⟨c1, hc1⟩ : ∃ c1, vs[14]? = some c1 := ⟨_, List.getElem?_eq_getElem (by omega)⟩
    have hc2 : os[o + 14]? = some c1 := (hm 14 (by omega)).trans hc1
    refine Run.aloadN F d90_279 rfl rfl ?_
    refine Run.iloadN F d90_280 rfl ?_
    refine Run.bipush F d90_281 (z := 14) rfl ?_
    refine Run.iadd F d90_283 ?_
    have eo : Int32.ofNat o + 14 = Int32.ofNat (o + 14) := i32_add (b := 14) (by omega)
    rw [eo]
    refine Run.callVirtual F (w407 hw) (w408 hw) (nfs (w410 hw)) (w410 hw) (w409 hw) (w23 hw) (w411 hw) S.1 (c_charAt l Z n0 a0 hw x b os (o + 14) c1 SC hcz SF hsf UA UH UL h Ls hO S hc2 hos hol) rfl pd40 rfl rfl rfl rfl (by decide) (by decide) rfl d90_284 ?_
    rintro _ _ _ ⟨_, rfl, rfl, rfl, rfl⟩ _ _
    refine Run.aloadN F d90_287 rfl rfl ?_
    refine Run.bipush F d90_288 (z := 14) rfl ?_
    refine Run.caload F A (by decide) (i := 14) rfl (mapInt_get hc1) d90_290 ?_
    refine Run.icmp_ne F d90_291 (t := 487) rfl rfl rfl (fun q => absurd rfl q) (fun _ => JJ _ rfl)
  rintro _ rfl
  refine Run.viaS (pcJ := 315) (fun st => st = []) ?_ ?_
  rotate_left
  · intro JJ
    refine Run.iloadN F d90_294 rfl ?_
    refine Run.bipush F d90_295 (z := 15) rfl ?_
    refine Run.icmp_le F d90_297 (t := 315) rfl (i32_ti (by omega)) (yi := 15) rfl (fun _ => JJ _ rfl) (fun q => ?_)
    obtain ⟨c1, hc1⟩ : ∃ c1, vs[15]? = some c1 := ⟨_, List.getElem?_eq_getElem (by omega)⟩
    have hc2 : os[o + 15]? = some c1 := (hm 15 (by omega)).trans hc1
    refine Run.aloadN F d90_300 rfl rfl ?_
    refine Run.iloadN F d90_301 rfl ?_
    refine Run.bipush F d90_302 (z := 15) rfl ?_
    refine Run.iadd F d90_304 ?_
    have eo : Int32.ofNat o + 15 = Int32.ofNat (o + 15) := i32_add (b := 15) (by omega)
    rw [eo]
    refine Run.callVirtual F (w407 hw) (w408 hw) (nfs (w410 hw)) (w410 hw) (w409 hw) (w23 hw) (w411 hw) S.1 (c_charAt l Z n0 a0 hw x b os (o + 15) c1 SC hcz SF hsf UA UH UL h Ls hO S hc2 hos hol) rfl pd40 rfl rfl rfl rfl (by decide) (by decide) rfl d90_305 ?_
    rintro _ _ _ ⟨_, rfl, rfl, rfl, rfl⟩ _ _
    refine Run.aloadN F d90_308 rfl rfl ?_
    refine Run.bipush F d90_309 (z := 15) rfl ?_
    refine Run.caload F A (by decide) (i := 15) rfl (mapInt_get hc1) d90_311 ?_
    refine Run.icmp_ne F d90_312 (t := 487) rfl rfl rfl (fun q => absurd rfl q) (fun _ => JJ _ rfl)
  rintro _ rfl
  refine Run.viaS (pcJ := 336) (fun st => st = []) ?_ ?_
  rotate_left
  · intro JJ
    refine Run.iloadN F d90_315 rfl ?_
    refine Run.bipush F d90_316 (z := 16) rfl ?_
    refine Run.icmp_le F d90_318 (t := 336) rfl (i32_ti (by omega)) (yi := 16) rfl (fun _ => JJ _ rfl) (fun q => ?_)
    obtain ⟨c1, hc1⟩ : ∃ c1, vs[16]? = some c1 := ⟨_, List.getElem?_eq_getElem (by omega)⟩
    have hc2 : os[o + 16]? = some c1 := (hm 16 (by omega)).trans hc1
    refine Run.aloadN F d90_321 rfl rfl ?_
    refine Run.iloadN F d90_322 rfl ?_
    refine Run.bipush F d90_323 (z := 16) rfl ?_
    refine Run.iadd F d90_325 ?_
    have eo : Int32.ofNat o + 16 = Int32.ofNat (o + 16) := i32_add (b := 16) (by omega)
    rw [eo]
    refine Run.callVirtual F (w407 hw) (w408 hw) (nfs (w410 hw)) (w410 hw) (w409 hw) (w23 hw) (w411 hw) S.1 (c_charAt l Z n0 a0 hw x b os (o + 16) c1 SC hcz SF hsf UA UH UL h Ls hO S hc2 hos hol) rfl pd40 rfl rfl rfl rfl (by decide) (by decide) rfl d90_326 ?_
    rintro _ _ _ ⟨_, rfl, rfl, rfl, rfl⟩ _ _
    refine Run.aloadN F d90_329 rfl rfl ?_
    refine Run.bipush F d90_330 (z := 16) rfl ?_
    refine Run.caload F A (by decide) (i := 16) rfl (mapInt_get hc1) d90_332 ?_
    refine Run.icmp_ne F d90_333 (t := 487) rfl rfl rfl (fun q => absurd rfl q) (fun _ => JJ _ rfl)
  rintro _ rfl
  refine Run.viaS (pcJ := 357) (fun st => st = []) ?_ ?_
  rotate_left
  · intro JJ
    refine Run.iloadN F d90_336 rfl ?_
    refine Run.bipush F d90_337 (z := 17) rfl ?_
    refine Run.icmp_le F d90_339 (t := 357) rfl (i32_ti (by omega)) (yi := 17) rfl (fun _ => JJ _ rfl) (fun q => ?_)
    obtain ⟨c1, hc1⟩ : ∃ c1, vs[17]? = some c1 := ⟨_, List.getElem?_eq_getElem (by omega)⟩
    have hc2 : os[o + 17]? = some c1 := (hm 17 (by omega)).trans hc1
    refine Run.aloadN F d90_342 rfl rfl ?_
    refine Run.iloadN F d90_343 rfl ?_
    refine Run.bipush F d90_344 (z := 17) rfl ?_
    refine Run.iadd F d90_346 ?_
    have eo : Int32.ofNat o + 17 = Int32.ofNat (o + 17) := i32_add (b := 17) (by omega)
    rw [eo]
    refine Run.callVirtual F (w407 hw) (w408 hw) (nfs (w410 hw)) (w410 hw) (w409 hw) (w23 hw) (w411 hw) S.1 (c_charAt l Z n0 a0 hw x b os (o + 17) c1 SC hcz SF hsf UA UH UL h Ls hO S hc2 hos hol) rfl pd40 rfl rfl rfl rfl (by decide) (by decide) rfl d90_347 ?_
    rintro _ _ _ ⟨_, rfl, rfl, rfl, rfl⟩ _ _
    refine Run.aloadN F d90_350 rfl rfl ?_
    refine Run.bipush F d90_351 (z := 17) rfl ?_
    refine Run.caload F A (by decide) (i := 17) rfl (mapInt_get hc1) d90_353 ?_
    refine Run.icmp_ne F d90_354 (t := 487) rfl rfl rfl (fun q => absurd rfl q) (fun _ => JJ _ rfl)
  rintro _ rfl
  refine Run.viaS (pcJ := 378) (fun st => st = []) ?_ ?_
  rotate_left
  · intro JJ
    refine Run.iloadN F d90_357 rfl ?_
    refine Run.bipush F d90_358 (z := 18) rfl ?_
    refine Run.icmp_le F d90_360 (t := 378) rfl (i32_ti (by omega)) (yi := 18) rfl (fun _ => JJ _ rfl) (fun q => ?_)
    obtain ⟨c1, hc1⟩ : ∃ c1, vs[18]? = some c1 := ⟨_, List.getElem?_eq_getElem (by omega)⟩
    have hc2 : os[o + 18]? = some c1 := (hm 18 (by omega)).trans hc1
    refine Run.aloadN F d90_363 rfl rfl ?_
    refine Run.iloadN F d90_364 rfl ?_
    refine Run.bipush F d90_365 (z := 18) rfl ?_
    refine Run.iadd F d90_367 ?_
    have eo : Int32.ofNat o + 18 = Int32.ofNat (o + 18) := i32_add (b := 18) (by omega)
    rw [eo]
    refine Run.callVirtual F (w407 hw) (w408 hw) (nfs (w410 hw)) (w410 hw) (w409 hw) (w23 hw) (w411 hw) S.1 (c_charAt l Z n0 a0 hw x b os (o + 18) c1 SC hcz SF hsf UA UH UL h Ls hO S hc2 hos hol) rfl pd40 rfl rfl rfl rfl (by decide) (by decide) rfl d90_368 ?_
    rintro _ _ _ ⟨_, rfl, rfl, rfl, rfl⟩ _ _
    refine Run.aloadN F d90_371 rfl rfl ?_
    refine Run.bipush F d90_372 (z := 18) rfl ?_
    refine Run.caload F A (by decide) (i := 18) rfl (mapInt_get hc1) d90_374 ?_
    refine Run.icmp_ne F d90_375 (t := 487) rfl rfl rfl (fun q => absurd rfl q) (fun _ => JJ _ rfl)
  rintro _ rfl
  refine Run.viaS (pcJ := 399) (fun st => st = []) ?_ ?_
  rotate_left
  · intro JJ
    refine Run.iloadN F d90_378 rfl ?_
    refine Run.bipush F d90_379 (z := 19) rfl ?_
    refine Run.icmp_le F d90_381 (t := 399) rfl (i32_ti (by omega)) (yi := 19) rfl (fun _ => JJ _ rfl) (fun q => ?_)
    obtain ⟨c1, hc1⟩ : ∃ c1, vs[19]? = some c1 := ⟨_, List.getElem?_eq_getElem (by omega)⟩
    have hc2 : os[o + 19]? = some c1 := (hm 19 (by omega)).trans hc1
    refine Run.aloadN F d90_384 rfl rfl ?_
    refine Run.iloadN F d90_385 rfl ?_
    refine Run.bipush F d90_386 (z := 19) rfl ?_
    refine Run.iadd F d90_388 ?_
    have eo : Int32.ofNat o + 19 = Int32.ofNat (o + 19) := i32_add (b := 19) (by omega)
    rw [eo]
    refine Run.callVirtual F (w407 hw) (w408 hw) (nfs (w410 hw)) (w410 hw) (w409 hw) (w23 hw) (w411 hw) S.1 (c_charAt l Z n0 a0 hw x b os (o + 19) c1 SC hcz SF hsf UA UH UL h Ls hO S hc2 hos hol) rfl pd40 rfl rfl rfl rfl (by decide) (by decide) rfl d90_389 ?_
    rintro _ _ _ ⟨_, rfl, rfl, rfl, rfl⟩ _ _
    refine Run.aloadN F d90_392 rfl rfl ?_
    refine Run.bipush F d90_393 (z := 19) rfl ?_
    refine Run.caload F A (by decide) (i := 19) rfl (mapInt_get hc1) d90_395 ?_
    refine Run.icmp_ne F d90_396 (t := 487) rfl rfl rfl (fun q => absurd rfl q) (fun _ => JJ _ rfl)
  rintro _ rfl
  refine Run.viaS (pcJ := 420) (fun st => st = []) ?_ ?_
  rotate_left
  · intro JJ
    refine Run.iloadN F d90_399 rfl ?_
    refine Run.bipush F d90_400 (z := 20) rfl ?_
    refine Run.icmp_le F d90_402 (t := 420) rfl (i32_ti (by omega)) (yi := 20) rfl (fun _ => JJ _ rfl) (fun q => ?_)
    obtain ⟨c1, hc1⟩ : ∃ c1, vs[20]? = some c1 := ⟨_, List.getElem?_eq_getElem (by omega)⟩
    have hc2 : os[o + 20]? = some c1 := (hm 20 (by omega)).trans hc1
    refine Run.aloadN F d90_405 rfl rfl ?_
    refine Run.iloadN F d90_406 rfl ?_
    refine Run.bipush F d90_407 (z := 20) rfl ?_
    refine Run.iadd F d90_409 ?_
    have eo : Int32.ofNat o + 20 = Int32.ofNat (o + 20) := i32_add (b := 20) (by omega)
    rw [eo]
    refine Run.callVirtual F (w407 hw) (w408 hw) (nfs (w410 hw)) (w410 hw) (w409 hw) (w23 hw) (w411 hw) S.1 (c_charAt l Z n0 a0 hw x b os (o + 20) c1 SC hcz SF hsf UA UH UL h Ls hO S hc2 hos hol) rfl pd40 rfl rfl rfl rfl (by decide) (by decide) rfl d90_410 ?_
    rintro _ _ _ ⟨_, rfl, rfl, rfl, rfl⟩ _ _
    refine Run.aloadN F d90_413 rfl rfl ?_
    refine Run.bipush F d90_414 (z := 20) rfl ?_
    refine Run.caload F A (by decide) (i := 20) rfl (mapInt_get hc1) d90_416 ?_
    refine Run.icmp_ne F d90_417 (t := 487) rfl rfl rfl (fun q => absurd rfl q) (fun _ => JJ _ rfl)
  rintro _ rfl
  refine Run.viaS (pcJ := 441) (fun st => st = []) ?_ ?_
  rotate_left
  · intro JJ
    refine Run.iloadN F d90_420 rfl ?_
    refine Run.bipush F d90_421 (z := 21) rfl ?_
    refine Run.icmp_le F d90_423 (t := 441) rfl (i32_ti (by omega)) (yi := 21) rfl (fun _ => JJ _ rfl) (fun q => ?_)
    obtain ⟨c1, hc1⟩ : ∃ c1, vs[21]? = some c1 := ⟨_, List.getElem?_eq_getElem (by omega)⟩
    have hc2 : os[o + 21]? = some c1 := (hm 21 (by omega)).trans hc1
    refine Run.aloadN F d90_426 rfl rfl ?_
    refine Run.iloadN F d90_427 rfl ?_
    refine Run.bipush F d90_428 (z := 21) rfl ?_
    refine Run.iadd F d90_430 ?_
    have eo : Int32.ofNat o + 21 = Int32.ofNat (o + 21) := i32_add (b := 21) (by omega)
    rw [eo]
    refine Run.callVirtual F (w407 hw) (w408 hw) (nfs (w410 hw)) (w410 hw) (w409 hw) (w23 hw) (w411 hw) S.1 (c_charAt l Z n0 a0 hw x b os (o + 21) c1 SC hcz SF hsf UA UH UL h Ls hO S hc2 hos hol) rfl pd40 rfl rfl rfl rfl (by decide) (by decide) rfl d90_431 ?_
    rintro _ _ _ ⟨_, rfl, rfl, rfl, rfl⟩ _ _
    refine Run.aloadN F d90_434 rfl rfl ?_
    refine Run.bipush F d90_435 (z := 21) rfl ?_
    refine Run.caload F A (by decide) (i := 21) rfl (mapInt_get hc1) d90_437 ?_
    refine Run.icmp_ne F d90_438 (t := 487) rfl rfl rfl (fun q => absurd rfl q) (fun _ => JJ _ rfl)
  rintro _ rfl
  refine Run.viaS (pcJ := 462) (fun st => st = []) ?_ ?_
  rotate_left
  · intro JJ
    refine Run.iloadN F d90_441 rfl ?_
    refine Run.bipush F d90_442 (z := 22) rfl ?_
    refine Run.icmp_le F d90_444 (t := 462) rfl (i32_ti (by omega)) (yi := 22) rfl (fun _ => JJ _ rfl) (fun q => ?_)
    obtain ⟨c1, hc1⟩ : ∃ c1, vs[22]? = some c1 := ⟨_, List.getElem?_eq_getElem (by omega)⟩
    have hc2 : os[o + 22]? = some c1 := (hm 22 (by omega)).trans hc1
    refine Run.aloadN F d90_447 rfl rfl ?_
    refine Run.iloadN F d90_448 rfl ?_
    refine Run.bipush F d90_449 (z := 22) rfl ?_
    refine Run.iadd F d90_451 ?_
    have eo : Int32.ofNat o + 22 = Int32.ofNat (o + 22) := i32_add (b := 22) (by omega)
    rw [eo]
    refine Run.callVirtual F (w407 hw) (w408 hw) (nfs (w410 hw)) (w410 hw) (w409 hw) (w23 hw) (w411 hw) S.1 (c_charAt l Z n0 a0 hw x b os (o + 22) c1 SC hcz SF hsf UA UH UL h Ls hO S hc2 hos hol) rfl pd40 rfl rfl rfl rfl (by decide) (by decide) rfl d90_452 ?_
    rintro _ _ _ ⟨_, rfl, rfl, rfl, rfl⟩ _ _
    refine Run.aloadN F d90_455 rfl rfl ?_
    refine Run.bipush F d90_456 (z := 22) rfl ?_
    refine Run.caload F A (by decide) (i := 22) rfl (mapInt_get hc1) d90_458 ?_
    refine Run.icmp_ne F d90_459 (t := 487) rfl rfl rfl (fun q => absurd rfl q) (fun _ => JJ _ rfl)
  rintro _ rfl
  refine Run.viaS (pcJ := 483) (fun st => st = []) ?_ ?_
  rotate_left
  · intro JJ
    refine Run.iloadN F d90_462 rfl ?_
    refine Run.bipush F d90_463 (z := 23) rfl ?_
    refine Run.icmp_le F d90_465 (t := 483) rfl (i32_ti (by omega)) (yi := 23) rfl (fun _ => JJ _ rfl) (fun q => ?_)
    obtain ⟨c1, hc1⟩ : ∃ c1, vs[23]? = some c1 := ⟨_, List.getElem?_eq_getElem (by omega)⟩
    have hc2 : os[o + 23]? = some c1 := (hm 23 (by omega)).trans hc1
    refine Run.aloadN F d90_468 rfl rfl ?_
    refine Run.iloadN F d90_469 rfl ?_
    refine Run.bipush F d90_470 (z := 23) rfl ?_
    refine Run.iadd F d90_472 ?_
    have eo : Int32.ofNat o + 23 = Int32.ofNat (o + 23) := i32_add (b := 23) (by omega)
    rw [eo]
    refine Run.callVirtual F (w407 hw) (w408 hw) (nfs (w410 hw)) (w410 hw) (w409 hw) (w23 hw) (w411 hw) S.1 (c_charAt l Z n0 a0 hw x b os (o + 23) c1 SC hcz SF hsf UA UH UL h Ls hO S hc2 hos hol) rfl pd40 rfl rfl rfl rfl (by decide) (by decide) rfl d90_473 ?_
    rintro _ _ _ ⟨_, rfl, rfl, rfl, rfl⟩ _ _
    refine Run.aloadN F d90_476 rfl rfl ?_
    refine Run.bipush F d90_477 (z := 23) rfl ?_
    refine Run.caload F A (by decide) (i := 23) rfl (mapInt_get hc1) d90_479 ?_
    refine Run.icmp_ne F d90_480 (t := 487) rfl rfl rfl (fun q => absurd rfl q) (fun _ => JJ _ rfl)
  rintro _ rfl
  refine Run.iconst F d90_483 (z := 1) rfl ?_
  refine Run.goto F d90_484 (t := 488) rfl ?_
  exact Run.ireturn F (by simp) rfl (by decide) (by decide) d90_488 ⟨rfl, rfl, rfl⟩
theorem c_law (hw : HW Z a0) (i0 i1 i2 : Int64) (i3 : Int32) {cz : Int32} (SC : sC Z cz) (hcz : cz.toInt ≠ 0) {sf : Value} (SF : sF Z sf) (hsf : sf.isRef = true) (UA : uA Z) (UH : uH Z) (UL : uL Z) {u8 : Nat} (S8a : Sta Z Z.heap "java/nio/charset/StandardCharsets" "UTF_8" "Ljava/nio/charset/Charset;" (.ref u8)) (S8b : Sta Z Z.heap "sun/nio/cs/UTF_8" "INSTANCE" "Lsun/nio/cs/UTF_8;" (.ref u8)) (wS : ∀ a ∈ Bundle.stringAtoms, a.before a0 Z = true) (hcw : Jvm.Lit.compactW.before a0 Z = true) (hh151 : Jvm.Lit.constHeld Z "java/lang/StringLatin1" 151) (hh295 : Jvm.Lit.constHeld Z "java/lang/StringUTF16" 295) (hh40 : Jvm.Lit.constHeld Z "com/example/earnest_orm/earnestorm/mapping/Identifiers" 40) (h : Heap) (Ls : Lits) (hO : Old Z n0 h) (hLs : Ls = some []) :
    Con l Z n0 x code maxLocals ret room_1 [.long i0, .long i1, .long i2, .int i3] h Ls tables_1 (RV fun v h' Ls' => v = .int 1) := by
  refine Con.of_run (plainFor_of_name pn11) hO ?_
  intro pX eX sX mX bX tX cX F hX
  refine ⟨[.val (.long i0), .second, .val (.long i1), .second, .val (.long i2), .second, .val (.int i3), .unset, .unset, .unset, .unset, .unset, .unset, .unset, .unset, .unset, .unset, .unset, .unset, .unset, .unset, .unset, .unset, .unset, .unset, .unset, .unset, .unset], by simp [entryFrame, mkF, argsToLocals, Value.category, maxLocals], ?_⟩
  subst hLs
  refine Run.lloadN F d0_0 rfl ?_
  refine Run.l2i F d0_1 ?_
  refine Run.istore F d0_2 rfl ?_
  dsimp only [List.set]
  refine Run.lloadN F d0_4 rfl ?_
  refine Run.bipush F d0_5 (z := 32) rfl ?_
  refine Run.lushr F d0_7 ?_
  refine Run.l2i F d0_8 ?_
  refine Run.istore F d0_9 rfl ?_
  dsimp only [List.set]
  refine Run.lloadN F d0_11 rfl ?_
  refine Run.l2i F d0_12 ?_
  refine Run.istore F d0_13 rfl ?_
  dsimp only [List.set]
  refine Run.lloadN F d0_15 rfl ?_
  refine Run.bipush F d0_16 (z := 32) rfl ?_
  refine Run.lushr F d0_18 ?_
  refine Run.l2i F d0_19 ?_
  refine Run.istore F d0_20 rfl ?_
  dsimp only [List.set]
  refine Run.lload F d0_22 rfl ?_
  refine Run.l2i F d0_24 ?_
  refine Run.istore F d0_25 rfl ?_
  dsimp only [List.set]
  refine Run.lload F d0_27 rfl ?_
  refine Run.bipush F d0_29 (z := 32) rfl ?_
  refine Run.lushr F d0_31 ?_
  refine Run.l2i F d0_32 ?_
  refine Run.istore F d0_33 rfl ?_
  dsimp only [List.set]
  generalize i0.toInt32 = f1
  generalize (XT.ushrL i0 32).toInt32 = f2
  generalize i1.toInt32 = g1
  generalize (XT.ushrL i1 32).toInt32 = g2
  generalize i2.toInt32 = l1
  generalize (XT.ushrL i2 32).toInt32 = l2
  obtain ⟨j1, hj1, ej1⟩ := rem2 (x := i3 &&& 255) (m := 7) (by have := and255 (i3); omega) (by decide) (by decide)
  have ej1' : (i3 &&& 255) % 7 * 2 = Int32.ofNat (2 * j1) := ej1
  refine Run.iload F d0_35 rfl ?_
  refine Run.sipush F d0_37 (z := 255) rfl ?_
  refine Run.iand F d0_40 ?_
  refine Run.bipush F d0_41 (z := 7) rfl ?_
  refine Run.irem F d0_43 (by decide) ?_
  refine Run.iconst F d0_44 (z := 2) rfl ?_
  refine Run.imul F d0_45 ?_
  rw [ej1']
  refine Run.istore F d0_46 rfl ?_
  dsimp only [List.set]
  obtain ⟨j2, hj2, ej2⟩ := rem2 (x := XT.ushr i3 8 &&& 255) (m := 7) (by have := and255 (XT.ushr i3 8); omega) (by decide) (by decide)
  have ej2' : (XT.ushr i3 8 &&& 255) % 7 * 2 = Int32.ofNat (2 * j2) := ej2
  refine Run.iload F d0_48 rfl ?_
  refine Run.bipush F d0_50 (z := 8) rfl ?_
  refine Run.iushr F d0_52 ?_
  refine Run.sipush F d0_53 (z := 255) rfl ?_
  refine Run.iand F d0_56 ?_
  refine Run.bipush F d0_57 (z := 7) rfl ?_
  refine Run.irem F d0_59 (by decide) ?_
  refine Run.iconst F d0_60 (z := 2) rfl ?_
  refine Run.imul F d0_61 ?_
  rw [ej2']
  refine Run.istore F d0_62 rfl ?_
  dsimp only [List.set]
  obtain ⟨j3, hj3, ej3⟩ := rem2 (x := XT.ushr i3 16 &&& 255) (m := 13) (by have := and255 (XT.ushr i3 16); omega) (by decide) (by decide)
  have ej3' : (XT.ushr i3 16 &&& 255) % 13 * 2 = Int32.ofNat (2 * j3) := ej3
  refine Run.iload F d0_64 rfl ?_
  refine Run.bipush F d0_66 (z := 16) rfl ?_
  refine Run.iushr F d0_68 ?_
  refine Run.sipush F d0_69 (z := 255) rfl ?_
  refine Run.iand F d0_72 ?_
  refine Run.bipush F d0_73 (z := 13) rfl ?_
  refine Run.irem F d0_75 (by decide) ?_
  refine Run.iconst F d0_76 (z := 2) rfl ?_
  refine Run.imul F d0_77 ?_
  rw [ej3']
  refine Run.istore F d0_78 rfl ?_
  dsimp only [List.set]
  have ok1 := (cp_ok f1).1
  have ok2 := (cp_ok f2).1
  have ok3 := (cp_ok g1).1
  have ok4 := (cp_ok g2).1
  have ok5 := (cp_ok l1).1
  have ok6 := (cp_ok l2).1
  refine Run.iload F d0_80 rfl ?_
  refine Run.iload F d0_82 rfl ?_
  refine Run.iload F d0_84 rfl ?_
  refine Run.callStatic F (w0 hw) (w1 hw) (w2 hw) (w3 hw) (c_fill12 l Z n0 a0 hw f1 f2 (2 * j1) h _ hO (by omega)) rfl pd53 rfl rfl rfl rfl (by decide) (by decide) rfl d0_86 ?_
  rintro _ hf1 _ ⟨_, rfl, t1, rfl, KF1, lt1, AF1, rfl⟩ OF1 _
  have AA1 : Av Z hf1 t1 .char ((uns (two (ptOf f1) (ptOf f2) (2 * j1) 12)).map Value.int) := by
    have e := fill_uns (p1 := ptOf f1) (p2 := ptOf f2) (j := j1) (s := 6) (by omega)
    rw [show (12 : Nat) = 2 * 6 from rfl, ← e, List.map_map]
    exact AF1
  have LL1 : (uns (two (ptOf f1) (ptOf f2) (2 * j1) 12)).length = 12 := two_len (s := 6) (by omega)
  have OK1 : ∀ p ∈ two (ptOf f1) (ptOf f2) (2 * j1) 12, okP p := two_ok ok1 ok2
  refine Run.astore F d0_89 rfl rfl ?_
  dsimp only [List.set]
  refine Run.iload F d0_91 rfl ?_
  refine Run.iload F d0_93 rfl ?_
  refine Run.iload F d0_95 rfl ?_
  refine Run.callStatic F (w0 hw) (w1 hw) (w2 hw) (w3 hw) (c_fill12 l Z n0 a0 hw g1 g2 (2 * j2) hf1 _ OF1 (by omega)) rfl pd53 rfl rfl rfl rfl (by decide) (by decide) rfl d0_97 ?_
  rintro _ hf2 _ ⟨_, rfl, t2, rfl, KF2, lt2, AF2, rfl⟩ OF2 _
  have AA2 : Av Z hf2 t2 .char ((uns (two (ptOf g1) (ptOf g2) (2 * j2) 12)).map Value.int) := by
    have e := fill_uns (p1 := ptOf g1) (p2 := ptOf g2) (j := j2) (s := 6) (by omega)
    rw [show (12 : Nat) = 2 * 6 from rfl, ← e, List.map_map]
    exact AF2
  have LL2 : (uns (two (ptOf g1) (ptOf g2) (2 * j2) 12)).length = 12 := two_len (s := 6) (by omega)
  have OK2 : ∀ p ∈ two (ptOf g1) (ptOf g2) (2 * j2) 12, okP p := two_ok ok3 ok4
  refine Run.astore F d0_100 rfl rfl ?_
  dsimp only [List.set]
  refine Run.iload F d0_102 rfl ?_
  refine Run.iload F d0_104 rfl ?_
  refine Run.iload F d0_106 rfl ?_
  refine Run.callStatic F (w18 hw) (w19 hw) (w2 hw) (w20 hw) (c_fill24 l Z n0 a0 hw l1 l2 (2 * j3) hf2 _ OF2 (by omega)) rfl pd53 rfl rfl rfl rfl (by decide) (by decide) rfl d0_108 ?_
  rintro _ hf3 _ ⟨_, rfl, t3, rfl, KF3, lt3, AF3, rfl⟩ OF3 _
  have AA3 : Av Z hf3 t3 .char ((uns (two (ptOf l1) (ptOf l2) (2 * j3) 24)).map Value.int) := by
    have e := fill_uns (p1 := ptOf l1) (p2 := ptOf l2) (j := j3) (s := 12) (by omega)
    rw [show (24 : Nat) = 2 * 12 from rfl, ← e, List.map_map]
    exact AF3
  have LL3 : (uns (two (ptOf l1) (ptOf l2) (2 * j3) 24)).length = 24 := two_len (s := 12) (by omega)
  have OK3 : ∀ p ∈ two (ptOf l1) (ptOf l2) (2 * j3) 24, okP p := two_ok ok5 ok6
  refine Run.astore F d0_111 rfl rfl ?_
  dsimp only [List.set]
  have AB1 := (AA1.keep KF2 nin0).keep KF3 nin0
  have AB2 := AA2.keep KF3 nin0
  have AB3 := AA3
  refine Run.new F (w21 hw) (w22 hw) (w23 hw) (by decide) (by decide) d0_113 ?_
  intro hN1 s1 hs1 KN1 ltN1 EN1 DN UN1
  have ON1 : Old Z n0 hN1 := OF3.keep KN1 all0
  have gs1 : n0 ≤ s1 := by rw [hs1, ← OF3.1]; exact OF3.2.1
  have Fv := DN (O := "java/lang/String") (f := "value") (ds := "[B") (ty := .array .byte) (Or.inr (w68 hw)) (by decide)
  have Fc := DN (O := "java/lang/String") (f := "coder") (ds := "B") (ty := .byte) (Or.inr (w66 hw)) (by decide)
  refine Run.dup F d0_116 rfl ?_
  refine Run.aload F d0_117 rfl rfl ?_
  refine Run.callInit F (w24 hw) (w25 hw) (w23 hw) (w26 hw) (c_newG l Z n0 a0 hw s1 t1 (uns (two (ptOf f1) (ptOf f2) (2 * j1) 12)) SC hcz UA UH UL hN1 _ ON1 EN1 Fv Fc gs1 (AB1.keep KN1 nin0) (by omega) (by omega) (uns_rng OK1)) rfl rfl pd54 rfl rfl rfl rfl (by decide) (by decide) rfl d0_119 ?_
  rintro _ hG1 _ ⟨rfl, b1, KG1, hb1, EB1, S1, rfl⟩ OG1 _
  show Run _ _ _ _ _ _ _ _ _ _ _ _ _ _ _ _ _ _ _ _ [Value.ref s1]
  have KX1 : Keep hf3 hG1 [] := KN1.trans KG1 (allS (Or.inr (Nat.le_of_eq hs1.symm)) all0)
  have AC1_1 := AB1.keep KX1 nin0
  have AC1_2 := AB2.keep KX1 nin0
  have AC1_3 := AB3.keep KX1 nin0
  refine Run.new F (w21 hw) (w22 hw) (w23 hw) (by decide) (by decide) d0_122 ?_
  intro hN2 s2 hs2 KN2 ltN2 EN2 DN UN2
  have ON2 : Old Z n0 hN2 := OG1.keep KN2 all0
  have gs2 : n0 ≤ s2 := by rw [hs2, ← OG1.1]; exact OG1.2.1
  have Fv := DN (O := "java/lang/String") (f := "value") (ds := "[B") (ty := .array .byte) (Or.inr (w68 hw)) (by decide)
  have Fc := DN (O := "java/lang/String") (f := "coder") (ds := "B") (ty := .byte) (Or.inr (w66 hw)) (by decide)
  refine Run.dup F d0_125 rfl ?_
  refine Run.aload F d0_126 rfl rfl ?_
  refine Run.callInit F (w24 hw) (w25 hw) (w23 hw) (w26 hw) (c_newG l Z n0 a0 hw s2 t2 (uns (two (ptOf g1) (ptOf g2) (2 * j2) 12)) SC hcz UA UH UL hN2 _ ON2 EN2 Fv Fc gs2 (AC1_2.keep KN2 nin0) (by omega) (by omega) (uns_rng OK2)) rfl rfl pd54 rfl rfl rfl rfl (by decide) (by decide) rfl d0_128 ?_
  rintro _ hG2 _ ⟨rfl, b2, KG2, hb2, EB2, S2, rfl⟩ OG2 _
  show Run _ _ _ _ _ _ _ _ _ _ _ _ _ _ _ _ _ _ _ _ [Value.ref s2, Value.ref s1]
  have KX2 : Keep hG1 hG2 [] := KN2.trans KG2 (allS (Or.inr (Nat.le_of_eq hs2.symm)) all0)
  have AC2_1 := AC1_1.keep KX2 nin0
  have AC2_2 := AC1_2.keep KX2 nin0
  have AC2_3 := AC1_3.keep KX2 nin0
  have SS2_1 := S1.keep KX2 nin0 nin0
  have EE2_1 := EB1.keep KX2
  refine Run.new F (w21 hw) (w22 hw) (w23 hw) (by decide) (by decide) d0_131 ?_
  intro hN3 s3 hs3 KN3 ltN3 EN3 DN UN3
  have ON3 : Old Z n0 hN3 := OG2.keep KN3 all0
  have gs3 : n0 ≤ s3 := by rw [hs3, ← OG2.1]; exact OG2.2.1
  have Fv := DN (O := "java/lang/String") (f := "value") (ds := "[B") (ty := .array .byte) (Or.inr (w68 hw)) (by decide)
  have Fc := DN (O := "java/lang/String") (f := "coder") (ds := "B") (ty := .byte) (Or.inr (w66 hw)) (by decide)
  refine Run.dup F d0_134 rfl ?_
  refine Run.aload F d0_135 rfl rfl ?_
  refine Run.callInit F (w24 hw) (w25 hw) (w23 hw) (w26 hw) (c_newG l Z n0 a0 hw s3 t3 (uns (two (ptOf l1) (ptOf l2) (2 * j3) 24)) SC hcz UA UH UL hN3 _ ON3 EN3 Fv Fc gs3 (AC2_3.keep KN3 nin0) (by omega) (by omega) (uns_rng OK3)) rfl rfl pd54 rfl rfl rfl rfl (by decide) (by decide) rfl d0_137 ?_
  rintro _ hG3 _ ⟨rfl, b3, KG3, hb3, EB3, S3, rfl⟩ OG3 _
  show Run _ _ _ _ _ _ _ _ _ _ _ _ _ _ _ _ _ _ _ _ [Value.ref s3, Value.ref s2, Value.ref s1]
  have KX3 : Keep hG2 hG3 [] := KN3.trans KG3 (allS (Or.inr (Nat.le_of_eq hs3.symm)) all0)
  have AC3_1 := AC2_1.keep KX3 nin0
  have AC3_2 := AC2_2.keep KX3 nin0
  have AC3_3 := AC2_3.keep KX3 nin0
  have SS3_1 := SS2_1.keep KX3 nin0 nin0
  have EE3_1 := EE2_1.keep KX3
  have SS3_2 := S2.keep KX3 nin0 nin0
  have EE3_2 := EB2.keep KX3
  refine Run.callStatic F (w69 hw) (w70 hw) (w71 hw) (w72 hw) (c_ident l Z n0 a0 hw s1 b1 s2 b2 s3 b3 (two (ptOf f1) (ptOf f2) (2 * j1) 12) (two (ptOf g1) (ptOf g2) (2 * j2) 12) (two (ptOf l1) (ptOf l2) (2 * j3) 24) SC hcz SF hsf UA UH UL S8a S8b wS hcw hh151 hh295 hh40 hG3 _ OG3 SS3_1 EE3_1 OK1 (by omega) SS3_2 EE3_2 OK2 (by omega) S3 EB3 OK3 (by omega) rfl) rfl pd55 rfl rfl rfl rfl (by decide) (by decide) rfl d0_140 ?_
  rintro _ hI LsI ⟨_, rfl, rr, rb, rfl, KI, SR⟩ OI _
  have AD1 := AC3_1.keep KI nin0
  have AD2 := AC3_2.keep KI nin0
  have AD3 := AC3_3.keep KI nin0
  refine Run.astore F d0_143 rfl rfl ?_
  dsimp only [List.set]
  refine Run.iload F d0_145 rfl ?_
  refine Run.iload F d0_147 rfl ?_
  refine Run.iload F d0_149 rfl ?_
  refine Run.bipush F d0_151 (z := 12) rfl ?_
  refine Run.callStatic F (w390 hw) (w391 hw) (w2 hw) (w392 hw) (c_bytes l Z n0 a0 hw f1 f2 j1 12 hI _ OI (by omega) (by decide)) rfl pd56 rfl rfl rfl rfl (by decide) (by decide) rfl d0_153 ?_
  rintro _ _ _ ⟨_, rfl, rfl, rfl, rfl⟩ _ _
  have qb1 := w8s_le (two (ptOf f1) (ptOf f2) (2 * j1) 12)
  refine Run.istore F d0_156 rfl ?_
  dsimp only [List.set]
  refine Run.iload F d0_158 rfl ?_
  refine Run.iload F d0_160 rfl ?_
  refine Run.iload F d0_162 rfl ?_
  refine Run.bipush F d0_164 (z := 12) rfl ?_
  refine Run.callStatic F (w390 hw) (w391 hw) (w2 hw) (w392 hw) (c_bytes l Z n0 a0 hw g1 g2 j2 12 hI _ OI (by omega) (by decide)) rfl pd56 rfl rfl rfl rfl (by decide) (by decide) rfl d0_166 ?_
  rintro _ _ _ ⟨_, rfl, rfl, rfl, rfl⟩ _ _
  have qb2 := w8s_le (two (ptOf g1) (ptOf g2) (2 * j2) 12)
  refine Run.istore F d0_169 rfl ?_
  dsimp only [List.set]
  refine Run.bipush F d0_171 (z := 61) rfl ?_
  refine Run.iload F d0_173 rfl ?_
  refine Run.iload F d0_175 rfl ?_
  refine Run.iload F d0_177 rfl ?_
  refine Run.bipush F d0_179 (z := 24) rfl ?_
  refine Run.callStatic F (w390 hw) (w391 hw) (w2 hw) (w392 hw) (c_bytes l Z n0 a0 hw l1 l2 j3 24 hI _ OI (by omega) (by decide)) rfl pd56 rfl rfl rfl rfl (by decide) (by decide) rfl d0_181 ?_
  rintro _ _ _ ⟨_, rfl, rfl, rfl, rfl⟩ _ _
  have qb3 := w8s_le (two (ptOf l1) (ptOf l2) (2 * j3) 24)
  obtain ⟨W1, hW1⟩ : ∃ W1 : Nat, w8s (two (ptOf f1) (ptOf f2) (2 * j1) 12) = W1 := ⟨_, rfl⟩
  obtain ⟨W2, hW2⟩ : ∃ W2 : Nat, w8s (two (ptOf g1) (ptOf g2) (2 * j2) 12) = W2 := ⟨_, rfl⟩
  obtain ⟨W3, hW3⟩ : ∃ W3 : Nat, w8s (two (ptOf l1) (ptOf l2) (2 * j3) 24) = W3 := ⟨_, rfl⟩
  rw [hW1, hW2, hW3] at SR
  rw [hW1] at qb1 ⊢
  rw [hW2] at qb2 ⊢
  rw [hW3] at qb3 ⊢
  refine Run.isub F d0_184 ?_
  have era : ((61 : Int32) - Int32.ofNat W3).toInt = 61 - (W3 : Nat) := by
    have c1 := c_isub (61 : Int32) (Int32.ofNat W3)
    have r1 := rng32 ((61 : Int32) - Int32.ofNat W3)
    have z1 : (61 : Int32).toInt = 61 := rfl
    rw [i32_ti (i := W3) (by omega), z1] at c1
    omega
  generalize (61 : Int32) - Int32.ofNat W3 = ro at era ⊢
  refine Run.istore F d0_185 rfl ?_
  dsimp only [List.set]
  refine Run.iload F d0_187 rfl ?_
  refine Run.iload F d0_189 rfl ?_
  refine Run.iadd F d0_191 ?_
  rw [i32_add (by omega)]
  refine Run.iload F d0_192 rfl ?_
  refine Run.isub F d0_194 ?_
  have eex : (Int32.ofNat (W1 + W2) - ro).toInt = (W1 : Nat) + (W2 : Nat) - (61 - (W3 : Nat)) := by
    have c1 := c_isub (Int32.ofNat (W1 + W2)) ro
    have r1 := rng32 (Int32.ofNat (W1 + W2) - ro)
    rw [i32_ti (i := W1 + W2) (by omega), era] at c1
    omega
  generalize Int32.ofNat (W1 + W2) - ro = ex at eex ⊢
  have ew1 := i32_ti (i := W1) (by omega)
  have ew2 := i32_ti (i := W2) (by omega)
  refine Run.istore F d0_195 rfl ?_
  dsimp only [List.set]
  refine Run.iload F d0_197 rfl ?_
  refine Run.via (pcJ := 274) (fun h' k n Ls' L st => ∃ pa pb : Int32, pa.toInt = finA (W1 : Nat) (W2 : Nat) (61 - (W3 : Nat)) ∧ pb.toInt = finB (W1 : Nat) (W2 : Nat) (61 - (W3 : Nat)) ∧ hI = h' ∧ k = 138 ∧ n = 3552 ∧ LsI = Ls' ∧ L = [.val (.long i0), .second, .val (.long i1), .second, .val (.long i2), .second, .val (.int i3), .val (.int f1), .val (.int f2), .val (.int g1), .val (.int g2), .val (.int l1), .val (.int l2), .val (.int (Int32.ofNat (2 * j1))), .val (.int (Int32.ofNat (2 * j2))), .val (.int (Int32.ofNat (2 * j3))), .val (.ref t1), .val (.ref t2), .val (.ref t3), .val (.ref rr), .val (.int (Int32.ofNat W1)), .val (.int (Int32.ofNat W2)), .val (.int ro), .val (.int ex), .val (.int pa), .val (.int pb), .unset, .unset] ∧ st = []) ?_ ?_
  · rintro _ _ _ _ _ _ ⟨pa, pb, hpa, hpb, rfl, rfl, rfl, rfl, rfl, rfl⟩
    refine Run.iload F d0_274 rfl ?_
    refine Run.iload F d0_276 rfl ?_
    refine Run.iload F d0_278 rfl ?_
    refine Run.bipush F d0_280 (z := 12) rfl ?_
    refine Run.iload F d0_282 rfl ?_
    refine Run.callStatic F (w399 hw) (w400 hw) (w2 hw) (w401 hw) (c_keep l Z n0 a0 hw f1 f2 j1 12 pa hI _ OI (by omega) (by decide)) rfl pd57 rfl rfl rfl rfl (by decide) (by decide) rfl d0_284 ?_
    rintro _ _ _ ⟨_, rfl, rfl, rfl, rfl⟩ _ _
    rw [hpa]
    refine Run.istore F d0_287 rfl ?_
    dsimp only [List.set]
    refine Run.iload F d0_289 rfl ?_
    refine Run.iload F d0_291 rfl ?_
    refine Run.iload F d0_293 rfl ?_
    refine Run.bipush F d0_295 (z := 12) rfl ?_
    refine Run.iload F d0_297 rfl ?_
    refine Run.callStatic F (w399 hw) (w400 hw) (w2 hw) (w401 hw) (c_keep l Z n0 a0 hw g1 g2 j2 12 pb hI _ OI (by omega) (by decide)) rfl pd57 rfl rfl rfl rfl (by decide) (by decide) rfl d0_299 ?_
    rintro _ _ _ ⟨_, rfl, rfl, rfl, rfl⟩ _ _
    rw [hpb]
    have cl1 := clip_len (finA (W1 : Nat) (W2 : Nat) (61 - (W3 : Nat))) (two (ptOf f1) (ptOf f2) (2 * j1) 12)
    have cl2 := clip_len (finB (W1 : Nat) (W2 : Nat) (61 - (W3 : Nat))) (two (ptOf g1) (ptOf g2) (2 * j2) 12)
    have ca1 : ∀ i, i < (uns (clip (finA (W1 : Nat) (W2 : Nat) (61 - (W3 : Nat))) (two (ptOf f1) (ptOf f2) (2 * j1) 12))).length → (uns (clip (finA (W1 : Nat) (W2 : Nat) (61 - (W3 : Nat))) (two (ptOf f1) (ptOf f2) (2 * j1) 12)))[i]? = (uns (two (ptOf f1) (ptOf f2) (2 * j1) 12))[i]? := fun i hi => clip_at hi
    have ca2 : ∀ i, i < (uns (clip (finB (W1 : Nat) (W2 : Nat) (61 - (W3 : Nat))) (two (ptOf g1) (ptOf g2) (2 * j2) 12))).length → (uns (clip (finB (W1 : Nat) (W2 : Nat) (61 - (W3 : Nat))) (two (ptOf g1) (ptOf g2) (2 * j2) 12)))[i]? = (uns (two (ptOf g1) (ptOf g2) (2 * j2) 12))[i]? := fun i hi => clip_at hi
    have rg1 : ∀ c ∈ (uns (clip (finA (W1 : Nat) (W2 : Nat) (61 - (W3 : Nat))) (two (ptOf f1) (ptOf f2) (2 * j1) 12))), 0 ≤ c.toInt ∧ c.toInt < 65536 := uns_rng fun q hq => by
      obtain ⟨rs, e⟩ := clip_pre (finA (W1 : Nat) (W2 : Nat) (61 - (W3 : Nat))) (two (ptOf f1) (ptOf f2) (2 * j1) 12)
      exact OK1 q (by rw [e]; exact List.mem_append_left _ hq)
    have rg2 : ∀ c ∈ (uns (clip (finB (W1 : Nat) (W2 : Nat) (61 - (W3 : Nat))) (two (ptOf g1) (ptOf g2) (2 * j2) 12))), 0 ≤ c.toInt ∧ c.toInt < 65536 := uns_rng fun q hq => by
      obtain ⟨rs, e⟩ := clip_pre (finB (W1 : Nat) (W2 : Nat) (61 - (W3 : Nat))) (two (ptOf g1) (ptOf g2) (2 * j2) 12)
      exact OK2 q (by rw [e]; exact List.mem_append_left _ hq)
    have rg3 := uns_rng OK3
    generalize (uns (clip (finA (W1 : Nat) (W2 : Nat) (61 - (W3 : Nat))) (two (ptOf f1) (ptOf f2) (2 * j1) 12))) = U1 at SR cl1 ca1 rg1 ⊢
    generalize (uns (clip (finB (W1 : Nat) (W2 : Nat) (61 - (W3 : Nat))) (two (ptOf g1) (ptOf g2) (2 * j2) 12))) = U2 at SR cl2 ca2 rg2 ⊢
    generalize uns (two (ptOf f1) (ptOf f2) (2 * j1) 12) = V1 at AD1 LL1 cl1 ca1
    generalize uns (two (ptOf g1) (ptOf g2) (2 * j2) 12) = V2 at AD2 LL2 cl2 ca2
    generalize uns (two (ptOf l1) (ptOf l2) (2 * j3) 24) = U3 at SR AD3 LL3 rg3
    have ol := os_len U1 U2 U3
    have rgo : ∀ c ∈ U1 ++ ([95] ++ (U2 ++ ([95] ++ U3))), 0 ≤ c.toInt ∧ c.toInt < 65536 := by
      intro c hc
      simp only [List.mem_append] at hc
      rcases hc with hc | hc | hc | hc | hc
      · exact rg1 c hc
      · exact us_r c hc
      · exact rg2 c hc
      · exact us_r c hc
      · exact rg3 c hc
    refine Run.istore F d0_302 rfl ?_
    dsimp only [List.set]
    refine Run.aload F d0_304 rfl rfl ?_
    refine Run.callVirtual F (w403 hw) (w167 hw) (nfs (w169 hw)) (w169 hw) (w168 hw) (w23 hw) (w170 hw) SR.1 (c_length l Z n0 a0 hw rr rb (coOf (U1 ++ ([95] ++ (U2 ++ ([95] ++ U3))))) (Int32.ofNat (U1 ++ ([95] ++ (U2 ++ ([95] ++ U3)))).length) (byOf (U1 ++ ([95] ++ (U2 ++ ([95] ++ U3))))) SC hcz hI _ OI SR (co8 _) (lenOf2 (by omega))) rfl pd14 rfl rfl rfl rfl (by decide) (by decide) rfl d0_306 ?_
    rintro _ _ _ ⟨_, rfl, rfl, rfl, rfl⟩ _ _
    refine Run.iload F d0_309 rfl ?_
    refine Run.iload F d0_311 rfl ?_
    refine Run.iadd F d0_313 ?_
    rw [i32_add (by omega)]
    refine Run.bipush F d0_314 (z := 26) rfl ?_
    refine Run.iadd F d0_316 ?_
    have e26 : Int32.ofNat (U1.length + U2.length) + 26 = Int32.ofNat (U1 ++ ([95] ++ (U2 ++ ([95] ++ U3)))).length := by
      rw [ol, show U1.length + U2.length + 2 + U3.length = U1.length + U2.length + 26 by omega]
      exact i32_add (b := 26) (by omega)
    rw [e26]
    refine Run.icmp_ne F d0_317 (t := 401) rfl rfl rfl (fun q => absurd rfl q) (fun _ => ?_)
    have e1 : Int32.ofNat U1.length + 1 = Int32.ofNat (U1.length + 1) := i32_add (b := 1) (by omega)
    have e3 : Int32.ofNat (U1.length + 1) + Int32.ofNat U2.length = Int32.ofNat (U1.length + 1 + U2.length) := i32_add (by omega)
    have e4 : Int32.ofNat U1.length + Int32.ofNat U2.length = Int32.ofNat (U1.length + U2.length) := i32_add (by omega)
    have e2 : Int32.ofNat (U1.length + U2.length) + 2 = Int32.ofNat (U1.length + U2.length + 2) := i32_add (b := 2) (by omega)
    refine Run.aload F d0_320 rfl rfl ?_
    refine Run.iconst F d0_322 (z := 0) rfl ?_
    refine Run.aload F d0_323 rfl rfl ?_
    refine Run.iload F d0_325 rfl ?_
    refine Run.callStatic F (w404 hw) (w405 hw) (w2 hw) (w406 hw) (c_agrees l Z n0 a0 hw rr rb t1 _ V1 (0) (U1.length) SC hcz SF hsf UA UH UL hI _ OI SR AD1 rgo (by omega) (by omega) (by omega) (by omega) (fun i hi => by rw [Nat.zero_add, os_at1 hi]; exact ca1 i hi)) rfl pd58 rfl rfl rfl rfl (by decide) (by decide) rfl d0_327 ?_
    rintro _ _ _ ⟨_, rfl, rfl, rfl, rfl⟩ _ _
    refine Run.ifNo F d0_330 rfl ?_
    refine Run.aload F d0_333 rfl rfl ?_
    refine Run.iload F d0_335 rfl ?_
    refine Run.callVirtual F (w407 hw) (w408 hw) (nfs (w410 hw)) (w410 hw) (w409 hw) (w23 hw) (w411 hw) SR.1 (c_charAt l Z n0 a0 hw rr rb _ U1.length 95 SC hcz SF hsf UA UH UL hI _ OI SR os_u1 rgo (by omega)) rfl pd40 rfl rfl rfl rfl (by decide) (by decide) rfl d0_337 ?_
    rintro _ _ _ ⟨_, rfl, rfl, rfl, rfl⟩ _ _
    refine Run.bipush F d0_340 (z := 95) rfl ?_
    refine Run.icmpNo F d0_342 rfl ?_
    refine Run.aload F d0_345 rfl rfl ?_
    refine Run.iload F d0_347 rfl ?_
    refine Run.iconst F d0_349 (z := 1) rfl ?_
    refine Run.iadd F d0_350 ?_
    refine Run.aload F d0_351 rfl rfl ?_
    refine Run.iload F d0_353 rfl ?_
    rw [e1]
    refine Run.callStatic F (w404 hw) (w405 hw) (w2 hw) (w406 hw) (c_agrees l Z n0 a0 hw rr rb t2 _ V2 (U1.length + 1) (U2.length) SC hcz SF hsf UA UH UL hI _ OI SR AD2 rgo (by omega) (by omega) (by omega) (by omega) (fun i hi => by rw [os_at2 hi]; exact ca2 i hi)) rfl pd58 rfl rfl rfl rfl (by decide) (by decide) rfl d0_355 ?_
    rintro _ _ _ ⟨_, rfl, rfl, rfl, rfl⟩ _ _
    refine Run.ifNo F d0_358 rfl ?_
    refine Run.aload F d0_361 rfl rfl ?_
    refine Run.iload F d0_363 rfl ?_
    refine Run.iconst F d0_365 (z := 1) rfl ?_
    refine Run.iadd F d0_366 ?_
    refine Run.iload F d0_367 rfl ?_
    rw [e1]
    refine Run.iadd F d0_369 ?_
    rw [e3]
    refine Run.callVirtual F (w407 hw) (w408 hw) (nfs (w410 hw)) (w410 hw) (w409 hw) (w23 hw) (w411 hw) SR.1 (c_charAt l Z n0 a0 hw rr rb _ (U1.length + 1 + U2.length) 95 SC hcz SF hsf UA UH UL hI _ OI SR os_u2 rgo (by omega)) rfl pd40 rfl rfl rfl rfl (by decide) (by decide) rfl d0_370 ?_
    rintro _ _ _ ⟨_, rfl, rfl, rfl, rfl⟩ _ _
    refine Run.bipush F d0_373 (z := 95) rfl ?_
    refine Run.icmpNo F d0_375 rfl ?_
    refine Run.aload F d0_378 rfl rfl ?_
    refine Run.iload F d0_380 rfl ?_
    refine Run.iload F d0_382 rfl ?_
    refine Run.iadd F d0_384 ?_
    rw [e4]
    refine Run.iconst F d0_385 (z := 2) rfl ?_
    refine Run.iadd F d0_386 ?_
    rw [e2]
    refine Run.aload F d0_387 rfl rfl ?_
    refine Run.bipush F d0_389 (z := 24) rfl ?_
    refine Run.callStatic F (w404 hw) (w405 hw) (w2 hw) (w406 hw) (c_agrees l Z n0 a0 hw rr rb t3 _ U3 (U1.length + U2.length + 2) 24 SC hcz SF hsf UA UH UL hI _ OI SR AD3 rgo (by omega) (by omega) (by omega) (by omega) (fun i hi => os_at3)) rfl pd58 rfl rfl rfl rfl (by decide) (by decide) rfl d0_391 ?_
    rintro _ _ _ ⟨_, rfl, rfl, rfl, rfl⟩ _ _
    refine Run.ifNo F d0_394 rfl ?_
    refine Run.iconst F d0_397 (z := 1) rfl ?_
    refine Run.goto F d0_398 (t := 402) rfl ?_
    exact Run.ireturn F (by simp) rfl (by decide) (by decide) d0_402 rfl
  · intro JJ
    refine Run.if_gt F d0_199 (t := 213) rfl eex (fun q => ?_) (fun q => ?_)
    rotate_left
    · refine Run.iload F d0_202 rfl ?_
      refine Run.istore F d0_204 rfl ?_
      dsimp only [List.set]
      refine Run.iload F d0_206 rfl ?_
      refine Run.istore F d0_208 rfl ?_
      dsimp only [List.set]
      refine Run.goto F d0_210 (t := 274) rfl ?_
      exact JJ _ _ _ _ _ _ ⟨Int32.ofNat W1, Int32.ofNat W2, by unfold finA; (repeat' split) <;> omega, by unfold finB; (repeat' split) <;> omega, rfl, rfl, rfl, rfl, rfl, rfl⟩
    refine Run.iload F d0_213 rfl ?_
    refine Run.iload F d0_215 rfl ?_
    refine Run.isub F d0_217 ?_
    have es1 := i32_subI (a := W1) (b := W2) (by omega) (by omega)
    refine Run.iload F d0_218 rfl ?_
    refine Run.icmp_lt F d0_220 (t := 237) rfl es1 eex (fun q2 => ?_) (fun q2 => ?_)
    rotate_left
    · have ca := c_isub (Int32.ofNat W1) ex
      have ra := rng32 (Int32.ofNat W1 - ex)
      rw [ew1, eex] at ca
      refine Run.iload F d0_223 rfl ?_
      refine Run.iload F d0_225 rfl ?_
      refine Run.isub F d0_227 ?_
      refine Run.istore F d0_228 rfl ?_
      dsimp only [List.set]
      refine Run.iload F d0_230 rfl ?_
      refine Run.istore F d0_232 rfl ?_
      dsimp only [List.set]
      refine Run.goto F d0_234 (t := 274) rfl ?_
      exact JJ _ _ _ _ _ _ ⟨Int32.ofNat W1 - ex, Int32.ofNat W2, by unfold finA; (repeat' split) <;> omega, by unfold finB; (repeat' split) <;> omega, rfl, rfl, rfl, rfl, rfl, rfl⟩
    refine Run.iload F d0_237 rfl ?_
    refine Run.iload F d0_239 rfl ?_
    refine Run.isub F d0_241 ?_
    have es2 := i32_subI (a := W2) (b := W1) (by omega) (by omega)
    refine Run.iload F d0_242 rfl ?_
    refine Run.icmp_lt F d0_244 (t := 261) rfl es2 eex (fun q3 => ?_) (fun q3 => ?_)
    rotate_left
    · have cb := c_isub (Int32.ofNat W2) ex
      have rb2 := rng32 (Int32.ofNat W2 - ex)
      rw [ew2, eex] at cb
      refine Run.iload F d0_247 rfl ?_
      refine Run.istore F d0_249 rfl ?_
      dsimp only [List.set]
      refine Run.iload F d0_251 rfl ?_
      refine Run.iload F d0_253 rfl ?_
      refine Run.isub F d0_255 ?_
      refine Run.istore F d0_256 rfl ?_
      dsimp only [List.set]
      refine Run.goto F d0_258 (t := 274) rfl ?_
      exact JJ _ _ _ _ _ _ ⟨Int32.ofNat W1, Int32.ofNat W2 - ex, by unfold finA; (repeat' split) <;> omega, by unfold finB; (repeat' split) <;> omega, rfl, rfl, rfl, rfl, rfl, rfl⟩
    have ch : (ro >>> ((1 : Int32) &&& 31)).toInt = ro.toInt / (2 ^ 1 : Nat) := c_ishr ro 1 1 (by decide)
    have p1 : ((2 ^ 1 : Nat) : Int) = 2 := by decide
    rw [p1, era] at ch
    have cr := c_isub ro (ro >>> ((1 : Int32) &&& 31))
    have rr2 := rng32 (ro - ro >>> ((1 : Int32) &&& 31))
    rw [era, ch] at cr
    refine Run.iload F d0_261 rfl ?_
    refine Run.iconst F d0_263 (z := 1) rfl ?_
    refine Run.ishr F d0_264 ?_
    refine Run.istore F d0_265 rfl ?_
    dsimp only [List.set]
    refine Run.iload F d0_267 rfl ?_
    refine Run.iload F d0_269 rfl ?_
    refine Run.isub F d0_271 ?_
    refine Run.istore F d0_272 rfl ?_
    dsimp only [List.set]
    exact JJ _ _ _ _ _ _ ⟨ro - ro >>> ((1 : Int32) &&& 31), ro >>> ((1 : Int32) &&& 31), by unfold finA; (repeat' split) <;> omega, by unfold finB; (repeat' split) <;> omega, rfl, rfl, rfl, rfl, rfl, rfl⟩
theorem comes_1 {Post : Tables → Env → Array Value → State → Outcome → State → Prop} (hpost : ∀ tb e args s v u, (limb_1_1.after args s (.returned v) u = true ∧ limb_1_2.after args s (.returned v) u = true ∧ True) → ReturnedEndW s (.returned v) u (Jvm.fieldLocs frame_1_writes args s ++ Jvm.arrayLocs frame_1_arrays args s ++ Jvm.staticLocs frame_1_statics s) 240 5248 → Post tb e args s (.returned v) u) :
    ArmFor flags0 classFile x code maxLocals ret World_1 tables_1 room_1 Calls_1 rest_1 Pre_1 Post := by
  intro l hfl _ _ p e ha hc hk s m args below hf hA hF happ hP
  obtain ⟨hcalls, hrest, hpre⟩ := hP
  obtain ⟨-, -, -, hnamed, -, -, -, hat⟩ := (Spec.applies_iff hf).mp happ
  obtain ⟨hg, hn⟩ := and_e (Cond.before_iff.mp (show (Jvm.Cond.and given_1 narrow_1).before args s = true from hpre))
  obtain ⟨h1, g0⟩ := and_e hg
  obtain ⟨k0, g1⟩ := and_e g0
  obtain ⟨k1, g2⟩ := and_e g1
  obtain ⟨k2, g3⟩ := and_e g2
  have k3 := g3
  obtain ⟨w_0, w_1, w_2, w_3, rfl⟩ : ∃ w_0 w_1 w_2 w_3 : Value, args = #[w_0, w_1, w_2, w_3] := by
    have hs : args.size = 4 := by simpa [Cond.value, given_1] using h1
    obtain ⟨L⟩ := args
    match L, hs with
    | [w_0, w_1, w_2, w_3], _ => exact ⟨w_0, w_1, w_2, w_3, rfl⟩
  have hw := fun d (hd : d ∈ tables_1) => atoms_spec (ws := Jvm.Cond.code x code maxLocals ret :: tables_1) hat d (List.mem_cons_of_mem _ hd)
  obtain ⟨hsets, hown0⟩ := atoms_of _ (rest_1_c_eq ▸ (show rest_1_c.before _ s = true from hrest))
  have hfit : Fit s := fun {y c} hc i hi => by
    obtain ⟨ha, rfl⟩ := Array.getElem?_eq_some_iff.mp hc
    have q := List.all_eq_true.mp ((Array.all_eq_true_iff_forall_mem.mp hF) _ (Array.getElem_mem ha)) i (List.mem_range.mpr hi)
    simpa [Array.getElem?_eq_getElem hi] using q
  obtain ⟨i0, e0⟩ := isL_v k0
  obtain rfl : w_0 = (.long i0) := Option.some.inj e0
  obtain ⟨i1, e1⟩ := isL_v k1
  obtain rfl : w_1 = (.long i1) := Option.some.inj e1
  obtain ⟨i2, e2⟩ := isL_v k2
  obtain rfl : w_2 = (.long i2) := Option.some.inj e2
  obtain ⟨i3, e3⟩ := is_v k3
  obtain rfl : w_3 = (.int i3) := Option.some.inj e3
  have n_cz := not_v (Cond.before_iff.mp (hsets _ (List.mem_of_getElem? (i := 2) rfl)))
  obtain ⟨cz, e_cz⟩ := is_v (Cond.before_iff.mp (hsets _ (List.mem_of_getElem? (i := 1) rfl)))
  have SC : Sta s s.heap "java/lang/String" "COMPACT_STRINGS" "Z" (.int cz) := Sta.start e_cz (Or.inl (hsets _ (List.mem_of_getElem? (i := 0) rfl)))
  have hcz0 : ¬ (cz = (0 : Int32)) := gotF (Cond.eq_ints e_cz (Term.int_eval (0))) n_cz
  have hcz : cz.toInt ≠ 0 := fun q => hcz0 (Int32.toInt_inj.mp q)
  obtain ⟨sf, e_sf, hsf⟩ := isR_v (Cond.before_iff.mp (hsets _ (List.mem_of_getElem? (i := 8) rfl)))
  have SF : Sta s s.heap "jdk/internal/util/Preconditions" "SIOOBE_FORMATTER" "Ljava/util/function/BiFunction;" sf := Sta.start e_sf (Or.inl (hsets _ (List.mem_of_getElem? (i := 7) rfl)))
  have UA : Sta s s.heap "java/lang/StringUTF16" "$assertionsDisabled" "Z" (.int 1) := Sta.start (static_int (Cond.before_iff.mp (hsets _ (List.mem_of_getElem? (i := 12) rfl)))) (Or.inl (hsets _ (List.mem_of_getElem? (i := 11) rfl)))
  have UH : Sta s s.heap "java/lang/StringUTF16" "HI_BYTE_SHIFT" "I" (.int 0) := Sta.start (static_int (Cond.before_iff.mp (hsets _ (List.mem_of_getElem? (i := 15) rfl)))) (Or.inl (hsets _ (List.mem_of_getElem? (i := 14) rfl)))
  have UL : Sta s s.heap "java/lang/StringUTF16" "LO_BYTE_SHIFT" "I" (.int 8) := Sta.start (static_int (Cond.before_iff.mp (hsets _ (List.mem_of_getElem? (i := 18) rfl)))) (Or.inl (hsets _ (List.mem_of_getElem? (i := 17) rfl)))
  have wS : ∀ a ∈ Bundle.stringAtoms, a.before _ s = true := fun a ha => by
    simp only [Bundle.stringAtoms, List.mem_cons, List.not_mem_nil, or_false] at ha
    rcases ha with rfl | rfl | rfl | rfl | rfl | rfl | rfl
    · exact (w23 hw)
    · exact (w22 hw)
    · exact (w39 hw)
    · exact (w68 hw)
    · exact (w66 hw)
    · exact (w332 hw)
    · exact (w333 hw)
  have hcw : Jvm.Lit.compactW.before _ s = true := (hsets _ (List.mem_of_getElem? (i := 2) rfl))
  have hh0 : Jvm.Lit.constHeld s "com/example/earnest_orm/earnestorm/mapping/Identifiers" 40 := hcalls.1 ("com/example/earnest_orm/earnestorm/mapping/Identifiers", 40) (by simp [consts_1])
  have hh1 : Jvm.Lit.constHeld s "java/lang/StringLatin1" 151 := hcalls.1 ("java/lang/StringLatin1", 151) (by simp [consts_1])
  have hh2 : Jvm.Lit.constHeld s "java/lang/StringUTF16" 295 := hcalls.1 ("java/lang/StringUTF16", 295) (by simp [consts_1])
  obtain ⟨u8, e_a⟩ := exa_v (Cond.before_iff.mp (hsets _ (List.mem_of_getElem? (i := 24) rfl)))
  obtain ⟨u8b, e_b⟩ := exa_v (Cond.before_iff.mp (hsets _ (List.mem_of_getElem? (i := 27) rfl)))
  have eab : u8b = u8 := by
    have q := gotT (eq_R e_a e_b rfl rfl) (Cond.before_iff.mp (hsets _ (List.mem_of_getElem? (i := 23) rfl)))
    exact (Value.ref.inj q).symm
  subst eab
  have S8a : Sta s s.heap "java/nio/charset/StandardCharsets" "UTF_8" "Ljava/nio/charset/Charset;" (.ref u8b) := Sta.start e_a (Or.inl (hsets _ (List.mem_of_getElem? (i := 20) rfl)))
  have S8b : Sta s s.heap "sun/nio/cs/UTF_8" "INSTANCE" "Lsun/nio/cs/UTF_8;" (.ref u8b) := Sta.start e_b (Or.inl (hsets _ (List.mem_of_getElem? (i := 22) rfl)))
  obtain ⟨n, o, r1, r2, r3, v, L, Ls, rfl, ⟨_, rfl, rfl⟩, hO, hI, N, hq⟩ := c_law l s s.heap.size _ hw i0 i1 i2 i3 SC hcz SF hsf UA UH UL S8a S8b wS hcw hh1 hh2 hh0 s.heap (some []) (Old.start s) rfl p e ha hc hk s m _ below hf ((Spec.applies_iff_loose hf).mp happ).1 ⟨rfl, State.Warmed39.refl s, rfl, Itn.start s⟩ trivial
  refine ⟨n, _, r1, r2, r3, hpost _ _ _ _ _ _ ⟨Cond.after_iff.mpr rfl, Cond.after_iff.mpr (eq_i res_at (Term.int_eval (1)) rfl), trivial⟩ ⟨hq.1, hq.2.1, hq.2.2.1, (hq.2.2.2.sift fun y hy => Or.inr (N y hy)).mono (by decide) (by decide)⟩⟩
theorem main_1_1 : Claimed_1_1 := comes_1 fun _ _ _ _ _ _ h hF => ⟨h.1, hF⟩
theorem main_1_2 : Claimed_1_2 := comes_1 fun _ _ _ _ _ _ h hF => ⟨h.2.1, hF⟩
end Jvm.Pilot.@@N@@
namespace Jvm.Pilot.@@N@@
open Jvm Jvm.ClassFile Sem Op Lib Jvm.Free Jvm.Stand Jvm.Pilot.@@N@@.Jvm.D
set_option maxRecDepth 65536
/-! MADE BY PROGRAM (witnessworld.py) out of the Statement's table words and the real class files: 33 classes; the members and pool entries that the words name. The judged class is class 1, her method 1. -/
namespace start1
open Jvm.ClassFile
def u (s : String) : CpInfo := .utf8 (stringToUtf16 s)
/-- a pool by its gaps: so many unusable entries, then the entry; so many at the end -/
def gap : Nat → List CpInfo → List CpInfo
  | 0, r => r
  | n + 1, r => .unusable :: gap n r
def poolList (es : List (Nat × CpInfo)) (last : Nat) : List CpInfo := es.foldr (fun e r => gap e.1 (e.2 :: r)) (gap last [])
def pool (es : List (Nat × CpInfo)) (last : Nat) : Array CpInfo := ⟨poolList es last⟩
def fileOf (pool : Array CpInfo) (this : Nat) (attrs : Array Attribute := #[]) (ms : Array MethodInfo := #[]) (fl : Nat := 33) (sup : Nat := 0) (ifs : Array Nat := #[]) (fds : Array FieldInfo := #[]) : ClassFile where
  minorVersion := 0
  majorVersion := 65
  constantPool := pool
  accessFlags := fl
  thisClass := this
  superClass := sup
  interfaces := ifs
  fields := fds
  methods := ms
  attributes := attrs
def plain (name : String) (sup : Option ClassId) : Class where
  name := name
  kind := .ordinary
  loader := none
  accessFlags := 33
  super := sup
  interfaces := #[]
  cf := none
  fields := #[]
  methods := #[]
  instanceTypes := #[]
  staticTypes := #[]
  resolved := #[]
  callSites := []
  init := .initialized
  statics := none
  mirror := none

def pool0 : Array CpInfo := pool [(5, u "<init>"), (0, u "()V"), (1, .class_ 10), (1, u "java/lang/Object"), (85, u "clone"), (0, u "()Ljava/lang/Object;")] 26

def k0c0 : Code := { maxStack := 0, maxLocals := 1, code := object_method_1_code, exceptionTable := #[], attributes := #[] }
def k0m0 : Method := { name := "<init>", desc := "()V", sig := { parameters := [], returnType := none }, accessFlags := 1, code := some k0c0 }
def k0m1 : Method := { name := "clone", desc := "()Ljava/lang/Object;", sig := { parameters := [], returnType := some (.object "java/lang/Object") }, accessFlags := 260, code := none }
/-- java/lang/Object -/
def k0 : Class := { plain "java/lang/Object" none with
  accessFlags := 33
  interfaces := #[]
  cf := some (fileOf pool0 8 #[] #[⟨1, 5, 6, #[]⟩, ⟨260, 96, 97, #[]⟩] 33 0 #[] #[])
  fields := #[]
  methods := #[k0m0, k0m1]
  instanceTypes := #[]
  staticTypes := #[]
  resolved := Array.replicate 124 none
  statics := none }

def pool1 : Array CpInfo := pool [(2, .class_ 4), (1, u "java/lang/Object"), (0, u "<init>"), (0, u "()V"), (0, .methodref 8 9), (0, .class_ 10), (0, .nameAndType 11 12), (0, u "com/example/earnest_orm/earnestorm/mapping/IdentifiersIdentifierPinLaw"), (0, u "fill12"), (0, u "(III)[C"), (0, .methodref 8 14), (0, .nameAndType 15 12), (0, u "fill24"), (0, .class_ 17), (0, u "java/lang/String"), (0, .methodref 16 19), (0, .nameAndType 5 20), (0, u "([C)V"), (0, .methodref 22 23), (0, .class_ 24), (0, .nameAndType 25 26), (0, u "com/example/earnest_orm/earnestorm/mapping/Identifiers"), (0, u "identifier"), (0, u "(Ljava/lang/String;Ljava/lang/String;Ljava/lang/String;)Ljava/lang/String;"), (0, .methodref 8 28), (0, .nameAndType 29 30), (0, u "bytes"), (0, u "(IIII)I"), (0, .methodref 8 32), (0, .nameAndType 33 34), (0, u "keep"), (0, u "(IIIII)I"), (0, .methodref 16 36), (0, .nameAndType 37 38), (0, u "length"), (0, u "()I"), (0, .methodref 8 40), (0, .nameAndType 41 42), (0, u "agrees"), (0, u "(Ljava/lang/String;I[CI)Z"), (0, .methodref 16 44), (0, .nameAndType 45 46), (0, u "charAt"), (0, u "(I)C"), (0, .integer 61440), (0, .integer 55296), (0, .integer 65536), (0, .integer 1048576), (0, .methodref 8 52), (0, .nameAndType 53 54), (0, u "codePoint"), (0, u "(I)I"), (0, .integer 56320), (0, .methodref 8 57), (0, .nameAndType 58 54), (0, u "units"), (0, .methodref 8 60), (0, .nameAndType 61 54), (0, u "width"), (0, .methodref 63 64), (0, .class_ 65), (0, .nameAndType 66 67), (0, u "java/lang/Math"), (0, u "min"), (0, u "(II)I"), (0, .methodref 8 69), (0, .nameAndType 70 46), (0, u "even"), (0, .methodref 8 72), (0, .nameAndType 73 46), (0, u "odd"), (2, u "law"), (0, u "(JJJI)Z")] 5

def k1m0 : Method := { name := "<init>", desc := "()V", sig := { parameters := [], returnType := none }, accessFlags := 2, code := none }
def k1c1 : Code := { maxStack := 5, maxLocals := 28, code := code, exceptionTable := #[], attributes := #[] }
def k1m1 : Method := { name := "law", desc := "(JJJI)Z", sig := { parameters := [.long, .long, .long, .int], returnType := some .boolean }, accessFlags := 9, code := some k1c1 }
def k1c2 : Code := { maxStack := 3, maxLocals := 4, code := method_3_code, exceptionTable := #[], attributes := #[] }
def k1m2 : Method := { name := "codePoint", desc := "(I)I", sig := { parameters := [.int], returnType := some .int }, accessFlags := 10, code := some k1c2 }
def k1c3 : Code := { maxStack := 2, maxLocals := 1, code := method_4_code, exceptionTable := #[], attributes := #[] }
def k1m3 : Method := { name := "width", desc := "(I)I", sig := { parameters := [.int], returnType := some .int }, accessFlags := 10, code := some k1c3 }
def k1c4 : Code := { maxStack := 2, maxLocals := 1, code := method_5_code, exceptionTable := #[], attributes := #[] }
def k1m4 : Method := { name := "units", desc := "(I)I", sig := { parameters := [.int], returnType := some .int }, accessFlags := 10, code := some k1c4 }
def k1c5 : Code := { maxStack := 3, maxLocals := 2, code := method_6_code, exceptionTable := #[], attributes := #[] }
def k1m5 : Method := { name := "even", desc := "(I)C", sig := { parameters := [.int], returnType := some .char }, accessFlags := 10, code := some k1c5 }
def k1c6 : Code := { maxStack := 3, maxLocals := 2, code := method_7_code, exceptionTable := #[], attributes := #[] }
def k1m6 : Method := { name := "odd", desc := "(I)C", sig := { parameters := [.int], returnType := some .char }, accessFlags := 10, code := some k1c6 }
def k1c7 : Code := { maxStack := 3, maxLocals := 4, code := method_8_code, exceptionTable := #[], attributes := #[] }
def k1m7 : Method := { name := "bytes", desc := "(IIII)I", sig := { parameters := [.int, .int, .int, .int], returnType := some .int }, accessFlags := 10, code := some k1c7 }
def k1c8 : Code := { maxStack := 5, maxLocals := 6, code := method_9_code, exceptionTable := #[], attributes := #[] }
def k1m8 : Method := { name := "keep", desc := "(IIIII)I", sig := { parameters := [.int, .int, .int, .int, .int], returnType := some .int }, accessFlags := 10, code := some k1c8 }
def k1c9 : Code := { maxStack := 4, maxLocals := 8, code := method_10_code, exceptionTable := #[], attributes := #[] }
def k1m9 : Method := { name := "fill12", desc := "(III)[C", sig := { parameters := [.int, .int, .int], returnType := some (.array .char) }, accessFlags := 10, code := some k1c9 }
def k1c10 : Code := { maxStack := 4, maxLocals := 8, code := method_11_code, exceptionTable := #[], attributes := #[] }
def k1m10 : Method := { name := "fill24", desc := "(III)[C", sig := { parameters := [.int, .int, .int], returnType := some (.array .char) }, accessFlags := 10, code := some k1c10 }
def k1c11 : Code := { maxStack := 3, maxLocals := 4, code := method_12_code, exceptionTable := #[], attributes := #[] }
def k1m11 : Method := { name := "agrees", desc := "(Ljava/lang/String;I[CI)Z", sig := { parameters := [(.object "java/lang/String"), .int, (.array .char), .int], returnType := some .boolean }, accessFlags := 10, code := some k1c11 }
/-- com/example/earnest_orm/earnestorm/mapping/IdentifiersIdentifierPinLaw -/
def k1 : Class := { plain "com/example/earnest_orm/earnestorm/mapping/IdentifiersIdentifierPinLaw" (some 0) with
  accessFlags := 49
  interfaces := #[]
  cf := some (fileOf pool1 8 #[] #[⟨2, 5, 6, #[]⟩, ⟨9, 76, 77, #[]⟩, ⟨10, 53, 54, #[]⟩, ⟨10, 61, 54, #[]⟩, ⟨10, 58, 54, #[]⟩, ⟨10, 70, 46, #[]⟩, ⟨10, 73, 46, #[]⟩, ⟨10, 29, 30, #[]⟩, ⟨10, 33, 34, #[]⟩, ⟨10, 11, 12, #[]⟩, ⟨10, 15, 12, #[]⟩, ⟨10, 41, 42, #[]⟩] 49 2 #[] #[])
  fields := #[]
  methods := #[k1m0, k1m1, k1m2, k1m3, k1m4, k1m5, k1m6, k1m7, k1m8, k1m9, k1m10, k1m11]
  instanceTypes := #[]
  staticTypes := #[]
  resolved := Array.replicate 83 none
  statics := none }

def pool2 : Array CpInfo := pool [(1, .class_ 2), (0, u "java/io/Serializable"), (0, .class_ 4), (0, u "java/lang/Object")] 2

/-- java/io/Serializable -/
def k2 : Class := { plain "java/io/Serializable" (some 0) with
  accessFlags := 1537
  interfaces := #[]
  cf := some (fileOf pool2 1 #[] #[] 1537 3 #[] #[])
  fields := #[]
  methods := #[]
  instanceTypes := #[]
  staticTypes := #[]
  resolved := Array.replicate 7 none
  statics := none }

def pool3 : Array CpInfo := pool [(1, .class_ 2), (0, u "java/lang/Comparable"), (0, .class_ 4), (0, u "java/lang/Object")] 7

/-- java/lang/Comparable -/
def k3 : Class := { plain "java/lang/Comparable" (some 0) with
  accessFlags := 1537
  interfaces := #[]
  cf := some (fileOf pool3 1 #[] #[] 1537 3 #[] #[])
  fields := #[]
  methods := #[]
  instanceTypes := #[]
  staticTypes := #[]
  resolved := Array.replicate 12 none
  statics := none }

def pool4 : Array CpInfo := pool [(2, .class_ 4), (1, u "java/lang/CharSequence"), (42, .class_ 48), (0, u "java/lang/CharSequence$1CodePointIterator"), (10, .class_ 60), (0, u "java/lang/CharSequence$1CharIterator"), (5, .class_ 67), (0, u "java/lang/Object")] 63

/-- java/lang/CharSequence -/
def k4 : Class := { plain "java/lang/CharSequence" (some 0) with
  accessFlags := 1537
  interfaces := #[]
  cf := some (fileOf pool4 2 #[.nestMembers #[47, 59]] #[] 1537 66 #[] #[])
  fields := #[]
  methods := #[]
  instanceTypes := #[]
  staticTypes := #[]
  resolved := Array.replicate 131 none
  statics := none }

def pool5 : Array CpInfo := pool [(1, .class_ 2), (0, u "java/lang/constant/Constable"), (0, .class_ 4), (0, u "java/lang/Object")] 6

/-- java/lang/constant/Constable -/
def k5 : Class := { plain "java/lang/constant/Constable" (some 0) with
  accessFlags := 1537
  interfaces := #[]
  cf := some (fileOf pool5 1 #[] #[] 1537 3 #[] #[])
  fields := #[]
  methods := #[]
  instanceTypes := #[]
  staticTypes := #[]
  resolved := Array.replicate 11 none
  statics := none }

def pool6 : Array CpInfo := pool [(1, .class_ 2), (0, u "java/lang/constant/ConstantDesc"), (0, .class_ 4), (0, u "java/lang/Object")] 32

/-- java/lang/constant/ConstantDesc -/
def k6 : Class := { plain "java/lang/constant/ConstantDesc" (some 0) with
  accessFlags := 1537
  interfaces := #[]
  cf := some (fileOf pool6 1 #[] #[] 1537 3 #[] #[])
  fields := #[]
  methods := #[]
  instanceTypes := #[]
  staticTypes := #[]
  resolved := Array.replicate 37 none
  statics := none }

def pool7 : Array CpInfo := pool [(1, .methodref 2 3), (0, .class_ 4), (0, .nameAndType 5 6), (0, u "java/lang/Object"), (0, u "<init>"), (0, u "()V"), (2, .fieldref 10 11), (0, .class_ 12), (0, .nameAndType 13 14), (0, u "java/lang/String"), (0, u "value"), (0, u "[B"), (0, .fieldref 10 16), (0, .nameAndType 17 18), (0, u "coder"), (0, u "B"), (2, u "hash"), (0, u "I"), (2, u "hashIsZero"), (0, u "Z"), (0, .methodref 10 28), (0, .nameAndType 5 29), (0, u "([CIILjava/lang/Void;)V"), (6, u "checkBoundsOffCount"), (0, u "(III)I"), (0, .fieldref 10 39), (0, .nameAndType 40 26), (0, u "COMPACT_STRINGS"), (1, .class_ 44), (1, u "java/lang/StringUTF16"), (0, u "compress"), (1, .methodref 42 48), (0, .nameAndType 49 50), (0, u "coderFromArrayLen"), (0, u "([BI)B"), (2, u "toBytes"), (0, .methodref 55 56), (0, .class_ 57), (0, .nameAndType 58 59), (0, u "java/util/Arrays"), (0, u "copyOfRange"), (0, u "([BII)[B"), (0, .methodref 42 61), (0, .nameAndType 62 63), (0, u "newBytesFor"), (0, u "(I)[B"), (22, .fieldref 87 88), (0, .class_ 89), (0, .nameAndType 90 91), (0, u "sun/nio/cs/UTF_8"), (0, u "INSTANCE"), (0, u "Lsun/nio/cs/UTF_8;"), (1, .class_ 95), (1, u "java/lang/StringCoding"), (1, u "([BII)I"), (4, .methodref 55 103), (0, .nameAndType 104 105), (0, u "copyOf"), (0, u "([BI)[B"), (0, .methodref 107 108), (0, .class_ 109), (0, .nameAndType 110 111), (0, u "java/lang/StringLatin1"), (0, u "inflate"), (0, u "([BI[BII)V"), (16, .methodref 93 129), (0, .nameAndType 130 131), (0, u "hasNegatives"), (0, u "([BII)Z"), (10, u "()Z"), (34, .methodref 42 178), (0, .nameAndType 45 179), (0, u "([CII)[B"), (13, .class_ 195), (1, u "java/lang/System"), (13, .methodref 10 210), (0, .nameAndType 5 211), (0, u "([BB)V"), (0, .methodref 193 213), (0, .nameAndType 214 215), (0, u "arraycopy"), (0, u "(Ljava/lang/Object;ILjava/lang/Object;II)V"), (36, .methodref 10 253), (0, .nameAndType 254 255), (0, u "encodeUTF8"), (0, u "(B[BZ)[B"), (23, .methodref 280 281), (0, .class_ 14), (0, .nameAndType 282 283), (0, u "clone"), (0, u "()Ljava/lang/Object;"), (33, u "encode"), (16, u "()I"), (0, .methodref 10 336), (0, .nameAndType 17 337), (0, u "()B"), (2, u "()[B"), (19, .methodref 42 361), (0, .nameAndType 362 363), (0, u "getChar"), (0, u "([BI)C"), (0, .methodref 365 366), (0, .class_ 367), (0, .nameAndType 368 369), (0, u "java/lang/Character"), (0, u "isHighSurrogate"), (0, u "(C)Z"), (0, .methodref 365 371), (0, .nameAndType 372 369), (0, u "isLowSurrogate"), (15, u "(I)Z"), (2, u "(II)V"), (12, .methodref 365 405), (0, .nameAndType 406 369), (0, u "isSurrogate"), (11, .methodref 365 419), (0, .nameAndType 420 388), (0, u "isSupplementaryCodePoint"), (6, u "(I)C"), (45, .methodref 10 474), (0, .nameAndType 475 476), (0, u "encodeUTF8_UTF16"), (0, u "([BZ)[B"), (0, .methodref 365 478), (0, .nameAndType 479 480), (0, u "toCodePoint"), (0, u "(CC)I"), (8, .methodref 10 490), (0, .nameAndType 5 491), (0, u "(Ljava/lang/AbstractStringBuilder;Ljava/lang/Void;)V"), (0, .methodref 10 493), (0, .nameAndType 494 142), (0, u "isLatin1"), (0, .methodref 107 496), (0, .nameAndType 497 363), (0, u "charAt"), (0, .methodref 42 496), (0, .methodref 10 500), (0, .nameAndType 501 391), (0, u "checkIndex"), (0, .methodref 42 503), (0, .nameAndType 504 97), (0, u "codePointAt"), (0, .methodref 10 506), (0, .nameAndType 507 334), (0, u "length"), (5, u "checkFromToIndex"), (7, .methodref 10 522), (0, .nameAndType 523 524), (0, u "checkBoundsBeginEnd"), (0, u "(III)V"), (7, u "getBytes"), (2, .methodref 10 536), (0, .nameAndType 317 537), (0, u "(Ljava/nio/charset/Charset;B[B)[B"), (11, .methodref 550 506), (0, .class_ 551), (0, u "java/lang/AbstractStringBuilder"), (0, .methodref 550 553), (0, .nameAndType 554 340), (0, u "getValue"), (20, .class_ 576), (0, u "java/lang/CharSequence"), (22, u "CASE_INSENSITIVE_ORDER"), (0, u "Ljava/util/Comparator;"), (82, u "substring"), (0, u "(II)Ljava/lang/String;"), (0, .methodref 107 686), (0, .nameAndType 687 688), (0, u "newString"), (0, u "([BII)Ljava/lang/String;"), (0, .methodref 42 686), (75, u "(I)I"), (55, u "([BIB)V"), (70, u "(I)Ljava/lang/String;"), (117, u "([C)V"), (6, u "canEncode"), (0, .methodref 107 1019), (0, .nameAndType 53 1020), (0, u "(C)[B"), (0, .methodref 42 1019), (25, .methodref 550 493), (0, .fieldref 550 1049), (0, .nameAndType 1050 26), (0, u "maybeLatin1"), (2, .fieldref 1054 1055), (0, .class_ 1056), (0, .nameAndType 1057 1058), (0, u "jdk/internal/util/Preconditions"), (0, u "SIOOBE_FORMATTER"), (0, u "Ljava/util/function/BiFunction;"), (0, .methodref 1054 1060), (0, .nameAndType 501 1061), (0, u "(IILjava/util/function/BiFunction;)I"), (0, .methodref 1054 1063), (0, .nameAndType 513 1064), (0, u "(IIILjava/util/function/BiFunction;)I"), (0, .methodref 1054 1066), (0, .nameAndType 1067 1064), (0, u "checkFromIndexSize"), (0, .methodref 107 1069), (0, .nameAndType 1017 388), (0, .methodref 365 1071), (0, .nameAndType 1072 388), (0, u "isBmpCodePoint"), (0, .methodref 42 1074), (0, .nameAndType 1075 63), (0, u "toBytesSupplementary"), (25, u "serialPersistentFields"), (0, u "[Ljava/io/ObjectStreamField;"), (0, .class_ 1104), (0, u "java/lang/String$CaseInsensitiveComparator"), (1, .class_ 1107), (0, u "java/io/Serializable"), (0, .class_ 1109), (0, u "java/lang/Comparable"), (0, .class_ 1111), (0, u "java/lang/constant/Constable"), (0, .class_ 1113), (0, u "java/lang/constant/ConstantDesc"), (2, u "serialVersionUID"), (0, u "J"), (3, u "REPL"), (0, u "C"), (2, u "LATIN1"), (1, u "UTF16"), (105, u "(Ljava/lang/StringBuilder;)V"), (11, u "(Ljava/nio/charset/Charset;)[B"), (148, u "valueOfCodePoint")] 56

def k7m0 : Method := { name := "<init>", desc := "()V", sig := { parameters := [], returnType := none }, accessFlags := 1, code := none }
def k7c1 : Code := { maxStack := 5, maxLocals := 2, code := jdk_42_method_3_code, exceptionTable := #[], attributes := #[] }
def k7m1 : Method := { name := "<init>", desc := "([C)V", sig := { parameters := [(.array .char)], returnType := none }, accessFlags := 1, code := some k7c1 }
def k7c2 : Code := { maxStack := 4, maxLocals := 3, code := jdk_42_method_18_code, exceptionTable := #[], attributes := #[] }
def k7m2 : Method := { name := "encode", desc := "(Ljava/nio/charset/Charset;B[B)[B", sig := { parameters := [(.object "java/nio/charset/Charset"), .byte, (.array .byte)], returnType := some (.array .byte) }, accessFlags := 10, code := some k7c2 }
def k7c3 : Code := { maxStack := 5, maxLocals := 9, code := jdk_42_method_46_code, exceptionTable := #[], attributes := #[] }
def k7m3 : Method := { name := "encodeUTF8", desc := "(B[BZ)[B", sig := { parameters := [.byte, (.array .byte), .boolean], returnType := some (.array .byte) }, accessFlags := 10, code := some k7c3 }
def k7c4 : Code := { maxStack := 5, maxLocals := 9, code := jdk_42_method_47_code, exceptionTable := #[], attributes := #[] }
def k7m4 : Method := { name := "encodeUTF8_UTF16", desc := "([BZ)[B", sig := { parameters := [(.array .byte), .boolean], returnType := some (.array .byte) }, accessFlags := 10, code := some k7c4 }
def k7c5 : Code := { maxStack := 3, maxLocals := 2, code := jdk_42_method_53_code, exceptionTable := #[], attributes := #[] }
def k7m5 : Method := { name := "<init>", desc := "(Ljava/lang/StringBuilder;)V", sig := { parameters := [(.object "java/lang/StringBuilder")], returnType := none }, accessFlags := 1, code := some k7c5 }
def k7c6 : Code := { maxStack := 2, maxLocals := 1, code := jdk_42_method_54_code, exceptionTable := #[], attributes := #[] }
def k7m6 : Method := { name := "length", desc := "()I", sig := { parameters := [], returnType := some .int }, accessFlags := 1, code := some k7c6 }
def k7c7 : Code := { maxStack := 2, maxLocals := 2, code := jdk_42_method_56_code, exceptionTable := #[], attributes := #[] }
def k7m7 : Method := { name := "charAt", desc := "(I)C", sig := { parameters := [.int], returnType := some .char }, accessFlags := 1, code := some k7c7 }
def k7c8 : Code := { maxStack := 3, maxLocals := 3, code := jdk_42_method_57_code, exceptionTable := #[], attributes := #[] }
def k7m8 : Method := { name := "codePointAt", desc := "(I)I", sig := { parameters := [.int], returnType := some .int }, accessFlags := 1, code := some k7c8 }
def k7c9 : Code := { maxStack := 3, maxLocals := 2, code := jdk_42_method_64_code, exceptionTable := #[], attributes := #[] }
def k7m9 : Method := { name := "getBytes", desc := "(Ljava/nio/charset/Charset;)[B", sig := { parameters := [(.object "java/nio/charset/Charset")], returnType := some (.array .byte) }, accessFlags := 1, code := some k7c9 }
def k7c10 : Code := { maxStack := 3, maxLocals := 5, code := jdk_42_method_92_code, exceptionTable := #[], attributes := #[] }
def k7m10 : Method := { name := "substring", desc := "(II)Ljava/lang/String;", sig := { parameters := [.int, .int], returnType := some (.object "java/lang/String") }, accessFlags := 1, code := some k7c10 }
def k7c11 : Code := { maxStack := 5, maxLocals := 4, code := jdk_42_method_147_code, exceptionTable := #[], attributes := #[] }
def k7m11 : Method := { name := "getBytes", desc := "([BIB)V", sig := { parameters := [(.array .byte), .int, .byte], returnType := none }, accessFlags := 0, code := some k7c11 }
def k7c12 : Code := { maxStack := 4, maxLocals := 6, code := jdk_42_method_149_code, exceptionTable := #[], attributes := #[] }
def k7m12 : Method := { name := "<init>", desc := "([CIILjava/lang/Void;)V", sig := { parameters := [(.array .char), .int, .int, (.object "java/lang/Void")], returnType := none }, accessFlags := 2, code := some k7c12 }
def k7c13 : Code := { maxStack := 5, maxLocals := 5, code := jdk_42_method_150_code, exceptionTable := #[], attributes := #[] }
def k7m13 : Method := { name := "<init>", desc := "(Ljava/lang/AbstractStringBuilder;Ljava/lang/Void;)V", sig := { parameters := [(.object "java/lang/AbstractStringBuilder"), (.object "java/lang/Void")], returnType := none }, accessFlags := 0, code := some k7c13 }
def k7c14 : Code := { maxStack := 2, maxLocals := 3, code := jdk_42_method_151_code, exceptionTable := #[], attributes := #[] }
def k7m14 : Method := { name := "<init>", desc := "([BB)V", sig := { parameters := [(.array .byte), .byte], returnType := none }, accessFlags := 0, code := some k7c14 }
def k7c15 : Code := { maxStack := 1, maxLocals := 1, code := jdk_42_method_152_code, exceptionTable := #[], attributes := #[] }
def k7m15 : Method := { name := "coder", desc := "()B", sig := { parameters := [], returnType := some .byte }, accessFlags := 0, code := some k7c15 }
def k7c16 : Code := { maxStack := 1, maxLocals := 1, code := jdk_42_method_154_code, exceptionTable := #[], attributes := #[] }
def k7m16 : Method := { name := "isLatin1", desc := "()Z", sig := { parameters := [], returnType := some .boolean }, accessFlags := 0, code := some k7c16 }
def k7c17 : Code := { maxStack := 3, maxLocals := 2, code := jdk_42_method_155_code, exceptionTable := #[], attributes := #[] }
def k7m17 : Method := { name := "checkIndex", desc := "(II)V", sig := { parameters := [.int, .int], returnType := none }, accessFlags := 8, code := some k7c17 }
def k7c18 : Code := { maxStack := 4, maxLocals := 3, code := jdk_42_method_157_code, exceptionTable := #[], attributes := #[] }
def k7m18 : Method := { name := "checkBoundsOffCount", desc := "(III)I", sig := { parameters := [.int, .int, .int], returnType := some .int }, accessFlags := 8, code := some k7c18 }
def k7c19 : Code := { maxStack := 4, maxLocals := 3, code := jdk_42_method_158_code, exceptionTable := #[], attributes := #[] }
def k7m19 : Method := { name := "checkBoundsBeginEnd", desc := "(III)V", sig := { parameters := [.int, .int, .int], returnType := none }, accessFlags := 8, code := some k7c19 }
def k7c20 : Code := { maxStack := 7, maxLocals := 1, code := jdk_42_method_159_code, exceptionTable := #[], attributes := #[] }
def k7m20 : Method := { name := "valueOfCodePoint", desc := "(I)Ljava/lang/String;", sig := { parameters := [.int], returnType := some (.object "java/lang/String") }, accessFlags := 8, code := some k7c20 }
/-- java/lang/String -/
def k7 : Class := { plain "java/lang/String" (some 0) with
  accessFlags := 49
  interfaces := #[2, 3, 4, 5, 6]
  cf := some (fileOf pool7 10 #[.nestMembers #[1103]] #[⟨1, 5, 6, #[]⟩, ⟨1, 5, 1010, #[]⟩, ⟨10, 317, 537, #[]⟩, ⟨10, 254, 255, #[]⟩, ⟨10, 475, 476, #[]⟩, ⟨1, 5, 1233, #[]⟩, ⟨1, 507, 334, #[]⟩, ⟨1, 497, 427, #[]⟩, ⟨1, 504, 765, #[]⟩, ⟨1, 532, 1245, #[]⟩, ⟨1, 683, 684, #[]⟩, ⟨0, 532, 821, #[]⟩, ⟨2, 5, 29, #[]⟩, ⟨0, 5, 491, #[]⟩, ⟨0, 5, 211, #[]⟩, ⟨0, 17, 337, #[]⟩, ⟨0, 494, 142, #[]⟩, ⟨8, 501, 391, #[]⟩, ⟨8, 36, 37, #[]⟩, ⟨8, 523, 524, #[]⟩, ⟨8, 1394, 892, #[]⟩] 49 2 #[1106, 1108, 575, 1110, 1112] #[⟨18, 13, 14, #[]⟩, ⟨18, 17, 18, #[]⟩, ⟨2, 21, 22, #[]⟩, ⟨2, 25, 26, #[]⟩, ⟨26, 1116, 1117, #[]⟩, ⟨24, 40, 26, #[]⟩, ⟨26, 1101, 1102, #[]⟩, ⟨26, 1121, 1122, #[]⟩, ⟨25, 599, 600, #[]⟩, ⟨24, 1125, 18, #[]⟩, ⟨24, 1127, 18, #[]⟩])
  fields := #[⟨"value", (.array .byte), 18, 0, 0⟩, ⟨"coder", .byte, 18, 1, 0⟩, ⟨"hash", .int, 2, 2, 0⟩, ⟨"hashIsZero", .boolean, 2, 3, 0⟩, ⟨"serialVersionUID", .long, 26, 0, 0⟩, ⟨"COMPACT_STRINGS", .boolean, 24, 1, 0⟩, ⟨"serialPersistentFields", (.array (.object "java/io/ObjectStreamField")), 26, 2, 0⟩, ⟨"REPL", .char, 26, 3, 0⟩, ⟨"CASE_INSENSITIVE_ORDER", (.object "java/util/Comparator"), 25, 4, 0⟩, ⟨"LATIN1", .byte, 24, 5, 0⟩, ⟨"UTF16", .byte, 24, 6, 0⟩]
  methods := #[k7m0, k7m1, k7m2, k7m3, k7m4, k7m5, k7m6, k7m7, k7m8, k7m9, k7m10, k7m11, k7m12, k7m13, k7m14, k7m15, k7m16, k7m17, k7m18, k7m19, k7m20]
  instanceTypes := #[(.array .byte), .byte, .int, .boolean]
  staticTypes := #[.long, .boolean, (.array (.object "java/io/ObjectStreamField")), .char, (.object "java/util/Comparator"), .byte, .byte]
  resolved := Array.replicate 1451 none
  statics := some 0 }

def pool8 : Array CpInfo := pool [(3, .class_ 4), (0, u "java/lang/String"), (1, .class_ 8), (1, u "java/lang/Object"), (0, u "<init>"), (0, u "()V"), (0, .methodref 12 13), (0, .class_ 14), (0, .nameAndType 15 16), (0, u "java/lang/StringUTF16"), (0, u "newBytesLength"), (0, u "(I)I"), (3, .integer 1073741823), (23, .fieldref 12 45), (0, .nameAndType 46 47), (0, u "$assertionsDisabled"), (0, u "Z"), (0, .methodref 12 49), (0, .nameAndType 50 51), (0, u "length"), (0, u "([B)I"), (7, .fieldref 12 60), (0, .nameAndType 61 62), (0, u "HI_BYTE_SHIFT"), (0, u "I"), (0, .fieldref 12 64), (0, .nameAndType 65 62), (0, u "LO_BYTE_SHIFT"), (1, .methodref 12 68), (0, .nameAndType 69 70), (0, u "checkIndex"), (0, u "(I[B)V"), (0, .methodref 12 72), (0, .nameAndType 73 74), (0, u "getChar"), (0, u "([BI)C"), (0, .methodref 76 77), (0, .class_ 78), (0, .nameAndType 79 80), (0, u "java/lang/Character"), (0, u "isHighSurrogate"), (0, u "(C)Z"), (0, .methodref 76 82), (0, .nameAndType 83 80), (0, u "isLowSurrogate"), (0, .methodref 76 85), (0, .nameAndType 86 87), (0, u "toCodePoint"), (0, u "(CC)I"), (0, .methodref 12 89), (0, .nameAndType 90 91), (0, u "codePointAt"), (0, u "([BIIZ)I"), (7, u "(II[B)V"), (7, .methodref 12 108), (0, .nameAndType 109 110), (0, u "newBytesFor"), (0, u "(I)[B"), (0, .methodref 12 112), (0, .nameAndType 113 114), (0, u "putChar"), (0, u "([BII)V"), (0, .methodref 12 116), (0, .nameAndType 117 118), (0, u "compress"), (0, u "([CI[BII)I"), (0, .methodref 12 120), (0, .nameAndType 121 122), (0, u "toBytes"), (0, u "([CII)[B"), (0, .methodref 12 124), (0, .nameAndType 117 125), (0, u "([BI[BII)I"), (0, .methodref 127 128), (0, .class_ 129), (0, .nameAndType 130 131), (0, u "java/util/Arrays"), (0, u "copyOfRange"), (0, u "([BII)[B"), (8, u "inflate"), (0, u "([BI[BII)V"), (15, .methodref 76 158), (0, .nameAndType 159 160), (0, u "highSurrogate"), (0, u "(I)C"), (0, .methodref 76 162), (0, .nameAndType 163 160), (0, u "lowSurrogate"), (9, .methodref 12 174), (0, .nameAndType 175 99), (0, u "checkBoundsOffCount"), (74, u "([BII)I"), (0, .fieldref 3 252), (0, .nameAndType 253 47), (0, u "COMPACT_STRINGS"), (3, .methodref 12 258), (0, .nameAndType 117 131), (0, .methodref 12 260), (0, .nameAndType 261 262), (0, u "coderFromArrayLen"), (0, u "([BI)B"), (0, .methodref 3 264), (0, .nameAndType 9 265), (0, u "([BB)V"), (15, u "(III)I"), (13, .string 296), (0, u ""), (30, u "newString"), (0, u "([BII)Ljava/lang/String;"), (40, .class_ 371), (1, u "java/lang/StringUTF16$LinesSpliterator"), (20, u "charAt"), (21, .methodref 3 415), (0, .nameAndType 69 416), (0, u "(II)V"), (2, .methodref 3 420), (0, .nameAndType 175 281), (9, u "MAX_LENGTH"), (44, u "(C)[B"), (1, u "toBytesSupplementary"), (149, .class_ 628), (0, u "java/lang/StringUTF16$CodePointsSpliterator"), (0, .class_ 630), (0, u "java/lang/StringUTF16$CharsSpliterator")] 4

def k8m0 : Method := { name := "<init>", desc := "()V", sig := { parameters := [], returnType := none }, accessFlags := 0, code := none }
def k8c1 : Code := { maxStack := 1, maxLocals := 1, code := jdk_52_method_2_code, exceptionTable := #[], attributes := #[] }
def k8m1 : Method := { name := "newBytesFor", desc := "(I)[B", sig := { parameters := [.int], returnType := some (.array .byte) }, accessFlags := 9, code := some k8c1 }
def k8c2 : Code := { maxStack := 4, maxLocals := 1, code := jdk_52_method_3_code, exceptionTable := #[], attributes := #[] }
def k8m2 : Method := { name := "newBytesLength", desc := "(I)I", sig := { parameters := [.int], returnType := some .int }, accessFlags := 9, code := some k8c2 }
def k8c3 : Code := { maxStack := 4, maxLocals := 3, code := jdk_52_method_4_code, exceptionTable := #[], attributes := #[] }
def k8m3 : Method := { name := "putChar", desc := "([BII)V", sig := { parameters := [(.array .byte), .int, .int], returnType := none }, accessFlags := 8, code := some k8c3 }
def k8c4 : Code := { maxStack := 3, maxLocals := 2, code := jdk_52_method_5_code, exceptionTable := #[], attributes := #[] }
def k8m4 : Method := { name := "getChar", desc := "([BI)C", sig := { parameters := [(.array .byte), .int], returnType := some .char }, accessFlags := 8, code := some k8c4 }
def k8c5 : Code := { maxStack := 2, maxLocals := 1, code := jdk_52_method_6_code, exceptionTable := #[], attributes := #[] }
def k8m5 : Method := { name := "length", desc := "([B)I", sig := { parameters := [(.array .byte)], returnType := some .int }, accessFlags := 9, code := some k8c5 }
def k8c6 : Code := { maxStack := 2, maxLocals := 6, code := jdk_52_method_7_code, exceptionTable := #[], attributes := #[] }
def k8m6 : Method := { name := "codePointAt", desc := "([BIIZ)I", sig := { parameters := [(.array .byte), .int, .int, .boolean], returnType := some .int }, accessFlags := 10, code := some k8c6 }
def k8c7 : Code := { maxStack := 4, maxLocals := 3, code := jdk_52_method_8_code, exceptionTable := #[], attributes := #[] }
def k8m7 : Method := { name := "codePointAt", desc := "([BII)I", sig := { parameters := [(.array .byte), .int, .int], returnType := some .int }, accessFlags := 9, code := some k8c7 }
def k8c8 : Code := { maxStack := 4, maxLocals := 5, code := jdk_52_method_14_code, exceptionTable := #[], attributes := #[] }
def k8m8 : Method := { name := "toBytes", desc := "([CII)[B", sig := { parameters := [(.array .char), .int, .int], returnType := some (.array .byte) }, accessFlags := 9, code := some k8c8 }
def k8c9 : Code := { maxStack := 2, maxLocals := 2, code := jdk_52_method_15_code, exceptionTable := #[], attributes := #[] }
def k8m9 : Method := { name := "coderFromArrayLen", desc := "([BI)B", sig := { parameters := [(.array .byte), .int], returnType := some .byte }, accessFlags := 8, code := some k8c9 }
def k8c10 : Code := { maxStack := 5, maxLocals := 6, code := jdk_52_method_16_code, exceptionTable := #[], attributes := #[] }
def k8m10 : Method := { name := "compress", desc := "([CII)[B", sig := { parameters := [(.array .char), .int, .int], returnType := some (.array .byte) }, accessFlags := 9, code := some k8c10 }
def k8c11 : Code := { maxStack := 5, maxLocals := 6, code := jdk_52_method_17_code, exceptionTable := #[], attributes := #[] }
def k8m11 : Method := { name := "compress", desc := "([BII)[B", sig := { parameters := [(.array .byte), .int, .int], returnType := some (.array .byte) }, accessFlags := 9, code := some k8c11 }
def k8c12 : Code := { maxStack := 3, maxLocals := 7, code := jdk_52_method_21_code, exceptionTable := #[], attributes := #[] }
def k8m12 : Method := { name := "compress", desc := "([CI[BII)I", sig := { parameters := [(.array .char), .int, (.array .byte), .int, .int], returnType := some .int }, accessFlags := 9, code := some k8c12 }
def k8c13 : Code := { maxStack := 3, maxLocals := 7, code := jdk_52_method_22_code, exceptionTable := #[], attributes := #[] }
def k8m13 : Method := { name := "compress", desc := "([BI[BII)I", sig := { parameters := [(.array .byte), .int, (.array .byte), .int, .int], returnType := some .int }, accessFlags := 9, code := some k8c13 }
def k8c14 : Code := { maxStack := 3, maxLocals := 2, code := jdk_52_method_24_code, exceptionTable := #[], attributes := #[] }
def k8m14 : Method := { name := "toBytes", desc := "(C)[B", sig := { parameters := [.char], returnType := some (.array .byte) }, accessFlags := 9, code := some k8c14 }
def k8c15 : Code := { maxStack := 3, maxLocals := 2, code := jdk_52_method_25_code, exceptionTable := #[], attributes := #[] }
def k8m15 : Method := { name := "toBytesSupplementary", desc := "(I)[B", sig := { parameters := [.int], returnType := some (.array .byte) }, accessFlags := 8, code := some k8c15 }
def k8c16 : Code := { maxStack := 6, maxLocals := 5, code := jdk_52_method_69_code, exceptionTable := #[], attributes := #[] }
def k8m16 : Method := { name := "newString", desc := "([BII)Ljava/lang/String;", sig := { parameters := [(.array .byte), .int, .int], returnType := some (.object "java/lang/String") }, accessFlags := 9, code := some k8c16 }
def k8c17 : Code := { maxStack := 2, maxLocals := 2, code := jdk_52_method_83_code, exceptionTable := #[], attributes := #[] }
def k8m17 : Method := { name := "charAt", desc := "([BI)C", sig := { parameters := [(.array .byte), .int], returnType := some .char }, accessFlags := 9, code := some k8c17 }
def k8c18 : Code := { maxStack := 4, maxLocals := 6, code := jdk_52_method_86_code, exceptionTable := #[], attributes := #[] }
def k8m18 : Method := { name := "inflate", desc := "([BI[BII)V", sig := { parameters := [(.array .byte), .int, (.array .byte), .int, .int], returnType := none }, accessFlags := 9, code := some k8c18 }
def k8c19 : Code := { maxStack := 2, maxLocals := 2, code := jdk_52_method_91_code, exceptionTable := #[], attributes := #[] }
def k8m19 : Method := { name := "checkIndex", desc := "(I[B)V", sig := { parameters := [.int, (.array .byte)], returnType := none }, accessFlags := 9, code := some k8c19 }
def k8c20 : Code := { maxStack := 3, maxLocals := 3, code := jdk_52_method_94_code, exceptionTable := #[], attributes := #[] }
def k8m20 : Method := { name := "checkBoundsOffCount", desc := "(II[B)V", sig := { parameters := [.int, .int, (.array .byte)], returnType := none }, accessFlags := 9, code := some k8c20 }
/-- java/lang/StringUTF16 -/
def k8 : Class := { plain "java/lang/StringUTF16" (some 0) with
  accessFlags := 48
  interfaces := #[]
  cf := some (fileOf pool8 12 #[.nestMembers #[627, 629, 369]] #[⟨0, 9, 10, #[]⟩, ⟨9, 109, 110, #[]⟩, ⟨9, 15, 16, #[]⟩, ⟨8, 113, 114, #[]⟩, ⟨8, 73, 74, #[]⟩, ⟨9, 50, 51, #[]⟩, ⟨10, 90, 91, #[]⟩, ⟨9, 90, 250, #[]⟩, ⟨9, 121, 122, #[]⟩, ⟨8, 261, 262, #[]⟩, ⟨9, 117, 122, #[]⟩, ⟨9, 117, 131, #[]⟩, ⟨9, 117, 118, #[]⟩, ⟨9, 117, 125, #[]⟩, ⟨9, 121, 475, #[]⟩, ⟨8, 477, 110, #[]⟩, ⟨9, 327, 328, #[]⟩, ⟨9, 392, 74, #[]⟩, ⟨9, 140, 141, #[]⟩, ⟨9, 69, 70, #[]⟩, ⟨9, 175, 99, #[]⟩] 48 6 #[] #[⟨26, 61, 62, #[]⟩, ⟨26, 65, 62, #[]⟩, ⟨24, 430, 62, #[]⟩, ⟨4120, 46, 47, #[]⟩])
  fields := #[⟨"HI_BYTE_SHIFT", .int, 26, 0, 0⟩, ⟨"LO_BYTE_SHIFT", .int, 26, 1, 0⟩, ⟨"MAX_LENGTH", .int, 24, 2, 0⟩, ⟨"$assertionsDisabled", .boolean, 4120, 3, 0⟩]
  methods := #[k8m0, k8m1, k8m2, k8m3, k8m4, k8m5, k8m6, k8m7, k8m8, k8m9, k8m10, k8m11, k8m12, k8m13, k8m14, k8m15, k8m16, k8m17, k8m18, k8m19, k8m20]
  instanceTypes := #[]
  staticTypes := #[.int, .int, .int, .boolean]
  resolved := Array.replicate 635 none
  statics := some 1 }

def pool9 : Array CpInfo := pool [(2, .class_ 4), (0, .nameAndType 5 6), (0, u "java/lang/Object"), (0, u "<init>"), (0, u "()V"), (7, .class_ 16), (1, u "java/lang/String"), (2, .class_ 20), (0, u "com/example/earnest_orm/earnestorm/mapping/Identifiers"), (0, .methodref 19 22), (0, .nameAndType 23 24), (0, u "clipped"), (0, u "(Ljava/lang/String;I)Ljava/lang/String;"), (8, .class_ 34), (0, u "java/lang/StringBuilder"), (0, .methodref 33 3), (0, .methodref 33 37), (0, .nameAndType 38 39), (0, u "append"), (0, u "(Ljava/lang/String;)Ljava/lang/StringBuilder;"), (0, .string 41), (0, u "_"), (0, .methodref 33 43), (0, .nameAndType 44 45), (0, u "toString"), (0, u "()Ljava/lang/String;"), (0, .methodref 19 47), (0, .nameAndType 48 49), (0, u "utf8Length"), (0, u "(Ljava/lang/String;)I"), (3, .fieldref 54 55), (0, .class_ 56), (0, .nameAndType 57 58), (0, u "java/nio/charset/StandardCharsets"), (0, u "UTF_8"), (0, u "Ljava/nio/charset/Charset;"), (0, .methodref 14 60), (0, .nameAndType 61 62), (0, u "getBytes"), (0, u "(Ljava/nio/charset/Charset;)[B"), (22, u "identifier"), (0, u "(Ljava/lang/String;Ljava/lang/String;Ljava/lang/String;)Ljava/lang/String;"), (0, .methodref 14 88), (0, .nameAndType 89 90), (0, u "length"), (0, u "()I"), (0, .methodref 14 92), (0, .nameAndType 93 94), (0, u "codePointAt"), (0, u "(I)I"), (0, .methodref 96 97), (0, .class_ 98), (0, .nameAndType 44 99), (0, u "java/lang/Character"), (0, u "(I)Ljava/lang/String;"), (0, .methodref 96 101), (0, .nameAndType 102 94), (0, u "charCount"), (0, .methodref 14 104), (0, .nameAndType 105 106), (0, u "substring"), (0, u "(II)Ljava/lang/String;"), (0, u "IDENTIFIER_BYTES"), (0, u "I")] 11

def k9m0 : Method := { name := "<init>", desc := "()V", sig := { parameters := [], returnType := none }, accessFlags := 2, code := none }
def k9c1 : Code := { maxStack := 3, maxLocals := 6, code := prog_5_method_5_code, exceptionTable := #[], attributes := #[] }
def k9m1 : Method := { name := "identifier", desc := "(Ljava/lang/String;Ljava/lang/String;Ljava/lang/String;)Ljava/lang/String;", sig := { parameters := [(.object "java/lang/String"), (.object "java/lang/String"), (.object "java/lang/String")], returnType := some (.object "java/lang/String") }, accessFlags := 9, code := some k9c1 }
def k9c2 : Code := { maxStack := 3, maxLocals := 5, code := prog_5_method_6_code, exceptionTable := #[], attributes := #[] }
def k9m2 : Method := { name := "clipped", desc := "(Ljava/lang/String;I)Ljava/lang/String;", sig := { parameters := [(.object "java/lang/String"), .int], returnType := some (.object "java/lang/String") }, accessFlags := 10, code := some k9c2 }
def k9c3 : Code := { maxStack := 2, maxLocals := 1, code := prog_5_method_7_code, exceptionTable := #[], attributes := #[] }
def k9m3 : Method := { name := "utf8Length", desc := "(Ljava/lang/String;)I", sig := { parameters := [(.object "java/lang/String")], returnType := some .int }, accessFlags := 10, code := some k9c3 }
/-- com/example/earnest_orm/earnestorm/mapping/Identifiers -/
def k9 : Class := { plain "com/example/earnest_orm/earnestorm/mapping/Identifiers" (some 0) with
  accessFlags := 33
  interfaces := #[]
  cf := some (fileOf pool9 19 #[] #[⟨2, 5, 6, #[]⟩, ⟨9, 85, 86, #[]⟩, ⟨10, 23, 24, #[]⟩, ⟨10, 48, 49, #[]⟩] 33 2 #[] #[⟨25, 107, 108, #[]⟩])
  fields := #[⟨"IDENTIFIER_BYTES", .int, 25, 0, 0⟩]
  methods := #[k9m0, k9m1, k9m2, k9m3]
  instanceTypes := #[]
  staticTypes := #[.int]
  resolved := Array.replicate 120 none
  statics := none }

def pool10 : Array CpInfo := pool [(2, .class_ 4), (1, u "java/lang/Object"), (0, u "<init>"), (0, u "()V"), (14, .class_ 23), (1, u "java/nio/charset/StandardCharsets"), (0, u "US_ASCII"), (0, u "Ljava/nio/charset/Charset;"), (7, u "ISO_8859_1"), (7, u "UTF_8"), (5, u "UTF_16BE"), (5, u "UTF_16LE"), (5, u "UTF_16")] 8

def k10m0 : Method := { name := "<init>", desc := "()V", sig := { parameters := [], returnType := none }, accessFlags := 2, code := none }
/-- java/nio/charset/StandardCharsets -/
def k10 : Class := { plain "java/nio/charset/StandardCharsets" (some 0) with
  accessFlags := 49
  interfaces := #[]
  cf := some (fileOf pool10 21 #[] #[⟨2, 5, 6, #[]⟩] 49 2 #[] #[⟨25, 24, 25, #[]⟩, ⟨25, 33, 25, #[]⟩, ⟨25, 41, 25, #[]⟩, ⟨25, 47, 25, #[]⟩, ⟨25, 53, 25, #[]⟩, ⟨25, 59, 25, #[]⟩])
  fields := #[⟨"US_ASCII", (.object "java/nio/charset/Charset"), 25, 0, 0⟩, ⟨"ISO_8859_1", (.object "java/nio/charset/Charset"), 25, 1, 0⟩, ⟨"UTF_8", (.object "java/nio/charset/Charset"), 25, 2, 0⟩, ⟨"UTF_16BE", (.object "java/nio/charset/Charset"), 25, 3, 0⟩, ⟨"UTF_16LE", (.object "java/nio/charset/Charset"), 25, 4, 0⟩, ⟨"UTF_16", (.object "java/nio/charset/Charset"), 25, 5, 0⟩]
  methods := #[k10m0]
  instanceTypes := #[]
  staticTypes := #[(.object "java/nio/charset/Charset"), (.object "java/nio/charset/Charset"), (.object "java/nio/charset/Charset"), (.object "java/nio/charset/Charset"), (.object "java/nio/charset/Charset"), (.object "java/nio/charset/Charset")]
  resolved := Array.replicate 68 none
  statics := some 2 }

def pool11 : Array CpInfo := pool [(18, .class_ 20), (1, u "java/nio/charset/Charset"), (0, u "cache1"), (0, u "[Ljava/lang/Object;"), (2, u "cache2"), (0, .class_ 27), (0, u "java/lang/Object"), (0, .class_ 29), (0, u "java/nio/charset/Charset$1"), (4, .class_ 36), (1, u "java/nio/charset/Charset$ThreadTrackHolder"), (21, .class_ 59), (0, u "java/nio/charset/Charset$2"), (11, .class_ 73), (1, u "java/nio/charset/Charset$ExtendedProviderHolder"), (22, u "standardProvider"), (0, u "Ljava/nio/charset/spi/CharsetProvider;"), (29, u "name"), (7, .class_ 136), (0, u "java/nio/charset/Charset$3"), (5, u "defaultCharset"), (0, u "Ljava/nio/charset/Charset;"), (14, u "zeroAliases"), (0, u "[Ljava/lang/String;"), (29, u "Ljava/lang/String;"), (2, u "aliases"), (2, u "aliasSet"), (0, u "Ljava/util/Set;"), (82, .class_ 280), (0, u "java/lang/Comparable"), (84, .class_ 366), (0, u "java/nio/charset/Charset$ExtendedProviderHolder$1")] 3

/-- java/nio/charset/Charset -/
def k11 : Class := { plain "java/nio/charset/Charset" (some 0) with
  accessFlags := 1057
  interfaces := #[3]
  cf := some (fileOf pool11 18 #[.nestMembers #[71, 365, 34, 135, 58, 28]] #[] 1057 26 #[279] #[⟨26, 96, 97, #[]⟩, ⟨26, 158, 159, #[]⟩, ⟨74, 21, 22, #[]⟩, ⟨74, 25, 22, #[]⟩, ⟨10, 142, 143, #[]⟩, ⟨18, 127, 189, #[]⟩, ⟨18, 192, 159, #[]⟩, ⟨2, 195, 196, #[]⟩])
  fields := #[⟨"standardProvider", (.object "java/nio/charset/spi/CharsetProvider"), 26, 0, 0⟩, ⟨"zeroAliases", (.array (.object "java/lang/String")), 26, 1, 0⟩, ⟨"cache1", (.array (.object "java/lang/Object")), 74, 2, 0⟩, ⟨"cache2", (.array (.object "java/lang/Object")), 74, 3, 0⟩, ⟨"defaultCharset", (.object "java/nio/charset/Charset"), 10, 4, 0⟩, ⟨"name", (.object "java/lang/String"), 18, 0, 0⟩, ⟨"aliases", (.array (.object "java/lang/String")), 18, 1, 0⟩, ⟨"aliasSet", (.object "java/util/Set"), 2, 2, 0⟩]
  methods := #[]
  instanceTypes := #[(.object "java/lang/String"), (.array (.object "java/lang/String")), (.object "java/util/Set")]
  staticTypes := #[(.object "java/nio/charset/spi/CharsetProvider"), (.array (.object "java/lang/String")), (.array (.object "java/lang/Object")), (.array (.object "java/lang/Object")), (.object "java/nio/charset/Charset")]
  resolved := Array.replicate 370 none
  statics := none }

def pool12 : Array CpInfo := pool [(1, .class_ 2), (0, u "sun/nio/cs/HistoricallyNamedCharset"), (0, .class_ 4), (0, u "java/lang/Object")] 4

/-- sun/nio/cs/HistoricallyNamedCharset -/
def k12 : Class := { plain "sun/nio/cs/HistoricallyNamedCharset" (some 0) with
  accessFlags := 1537
  interfaces := #[]
  cf := some (fileOf pool12 1 #[] #[] 1537 3 #[] #[])
  fields := #[]
  methods := #[]
  instanceTypes := #[]
  staticTypes := #[]
  resolved := Array.replicate 9 none
  statics := none }

def pool13 : Array CpInfo := pool [(2, .class_ 4), (1, u "java/nio/charset/Charset"), (130, .class_ 136), (0, u "sun/nio/cs/Unicode"), (0, .class_ 138), (0, u "sun/nio/cs/HistoricallyNamedCharset")] 15

/-- sun/nio/cs/Unicode -/
def k13 : Class := { plain "sun/nio/cs/Unicode" (some 11) with
  accessFlags := 1056
  interfaces := #[12]
  cf := some (fileOf pool13 135 #[] #[] 1056 2 #[137] #[])
  fields := #[]
  methods := #[]
  instanceTypes := #[(.object "java/lang/String"), (.array (.object "java/lang/String")), (.object "java/util/Set")]
  staticTypes := #[]
  resolved := Array.replicate 154 none
  statics := none }

def pool14 : Array CpInfo := pool [(10, .class_ 12), (1, u "sun/nio/cs/Unicode"), (0, u "<init>"), (3, .class_ 18), (0, u "sun/nio/cs/UTF_8$Decoder"), (3, .class_ 23), (0, u "sun/nio/cs/UTF_8$Encoder"), (15, .class_ 40), (0, u "sun/nio/cs/UTF_8"), (2, u "()V"), (2, u "INSTANCE"), (0, u "Lsun/nio/cs/UTF_8;"), (8, u "JLA"), (0, u "Ljdk/internal/access/JavaLangAccess;")] 26

def k14m0 : Method := { name := "<init>", desc := "()V", sig := { parameters := [], returnType := none }, accessFlags := 1, code := none }
/-- sun/nio/cs/UTF_8 -/
def k14 : Class := { plain "sun/nio/cs/UTF_8" (some 13) with
  accessFlags := 49
  interfaces := #[]
  cf := some (fileOf pool14 39 #[.nestMembers #[22, 17]] #[⟨1, 13, 43, #[]⟩] 49 10 #[] #[⟨25, 46, 47, #[]⟩, ⟨26, 56, 57, #[]⟩])
  fields := #[⟨"INSTANCE", (.object "sun/nio/cs/UTF_8"), 25, 0, 0⟩, ⟨"JLA", (.object "jdk/internal/access/JavaLangAccess"), 26, 1, 0⟩]
  methods := #[k14m0]
  instanceTypes := #[(.object "java/lang/String"), (.array (.object "java/lang/String")), (.object "java/util/Set")]
  staticTypes := #[(.object "sun/nio/cs/UTF_8"), (.object "jdk/internal/access/JavaLangAccess")]
  resolved := Array.replicate 84 none
  statics := some 3 }

def pool15 : Array CpInfo := pool [(1, .class_ 2), (0, u "java/lang/Character"), (18, u "value"), (0, u "C"), (19, .class_ 44), (1, u "java/lang/Object"), (3, .class_ 50), (1, u "java/lang/Character$CharacterCache"), (14, .class_ 67), (1, u "java/lang/String"), (1, .methodref 65 70), (0, .nameAndType 71 72), (0, u "valueOfCodePoint"), (0, u "(I)Ljava/lang/String;"), (0, .integer 65536), (0, .integer 1114112), (0, .integer 55296), (0, .integer 56320), (0, .integer 57344), (2, u "isHighSurrogate"), (0, u "(C)Z"), (2, u "isLowSurrogate"), (0, .integer 4238353408), (5, u "(I)C"), (6, u "toCodePoint"), (0, u "(CC)I"), (10, .integer 55232), (2, u "isBmpCodePoint"), (0, u "(I)Z"), (20, u "lowSurrogate"), (2, u "highSurrogate"), (35, u "(I)I"), (109, u "$assertionsDisabled"), (0, u "Z"), (21, .class_ 309), (1, u "java/lang/Character$UnicodeBlock"), (6, u "toString"), (66, u "TYPE"), (0, u "Ljava/lang/Class;"), (0, .class_ 386), (0, u "java/io/Serializable"), (0, .class_ 388), (0, u "java/lang/Comparable"), (0, .class_ 390), (0, u "java/lang/constant/Constable"), (0, u "MIN_RADIX"), (0, u "I"), (2, u "MAX_RADIX"), (1, u "MIN_VALUE"), (1, u "MAX_VALUE"), (3, u "UNASSIGNED"), (0, u "B"), (0, u "UPPERCASE_LETTER"), (1, u "LOWERCASE_LETTER"), (0, u "TITLECASE_LETTER"), (1, u "MODIFIER_LETTER"), (1, u "OTHER_LETTER"), (1, u "NON_SPACING_MARK"), (1, u "ENCLOSING_MARK"), (1, u "COMBINING_SPACING_MARK"), (1, u "DECIMAL_DIGIT_NUMBER"), (1, u "LETTER_NUMBER"), (1, u "OTHER_NUMBER"), (1, u "SPACE_SEPARATOR"), (1, u "LINE_SEPARATOR"), (1, u "PARAGRAPH_SEPARATOR"), (1, u "CONTROL"), (1, u "FORMAT"), (1, u "PRIVATE_USE"), (1, u "SURROGATE"), (1, u "DASH_PUNCTUATION"), (1, u "START_PUNCTUATION"), (1, u "END_PUNCTUATION"), (1, u "CONNECTOR_PUNCTUATION"), (1, u "OTHER_PUNCTUATION"), (1, u "MATH_SYMBOL"), (1, u "CURRENCY_SYMBOL"), (1, u "MODIFIER_SYMBOL"), (1, u "OTHER_SYMBOL"), (1, u "INITIAL_QUOTE_PUNCTUATION"), (1, u "FINAL_QUOTE_PUNCTUATION"), (1, u "ERROR"), (1, u "DIRECTIONALITY_UNDEFINED"), (0, u "DIRECTIONALITY_LEFT_TO_RIGHT"), (0, u "DIRECTIONALITY_RIGHT_TO_LEFT"), (0, u "DIRECTIONALITY_RIGHT_TO_LEFT_ARABIC"), (0, u "DIRECTIONALITY_EUROPEAN_NUMBER"), (0, u "DIRECTIONALITY_EUROPEAN_NUMBER_SEPARATOR"), (0, u "DIRECTIONALITY_EUROPEAN_NUMBER_TERMINATOR"), (0, u "DIRECTIONALITY_ARABIC_NUMBER"), (0, u "DIRECTIONALITY_COMMON_NUMBER_SEPARATOR"), (0, u "DIRECTIONALITY_NONSPACING_MARK"), (0, u "DIRECTIONALITY_BOUNDARY_NEUTRAL"), (0, u "DIRECTIONALITY_PARAGRAPH_SEPARATOR"), (0, u "DIRECTIONALITY_SEGMENT_SEPARATOR"), (0, u "DIRECTIONALITY_WHITESPACE"), (0, u "DIRECTIONALITY_OTHER_NEUTRALS"), (0, u "DIRECTIONALITY_LEFT_TO_RIGHT_EMBEDDING"), (0, u "DIRECTIONALITY_LEFT_TO_RIGHT_OVERRIDE"), (0, u "DIRECTIONALITY_RIGHT_TO_LEFT_EMBEDDING"), (0, u "DIRECTIONALITY_RIGHT_TO_LEFT_OVERRIDE"), (1, u "DIRECTIONALITY_POP_DIRECTIONAL_FORMAT"), (0, u "DIRECTIONALITY_LEFT_TO_RIGHT_ISOLATE"), (0, u "DIRECTIONALITY_RIGHT_TO_LEFT_ISOLATE"), (0, u "DIRECTIONALITY_FIRST_STRONG_ISOLATE"), (0, u "DIRECTIONALITY_POP_DIRECTIONAL_ISOLATE"), (0, u "MIN_HIGH_SURROGATE"), (0, u "MAX_HIGH_SURROGATE"), (1, u "MIN_LOW_SURROGATE"), (0, u "MAX_LOW_SURROGATE"), (1, u "MIN_SURROGATE"), (0, u "MAX_SURROGATE"), (0, u "MIN_SUPPLEMENTARY_CODE_POINT"), (0, u "MIN_CODE_POINT"), (0, u "MAX_CODE_POINT"), (1, u "serialVersionUID"), (0, u "J"), (2, u "SIZE"), (0, u "BYTES"), (22, u "isSupplementaryCodePoint"), (1, u "isSurrogate"), (4, u "charCount"), (58, .class_ 596), (0, u "java/lang/Character$UnicodeScript"), (0, .class_ 598), (0, u "java/lang/Character$Subset")] 5

def k15c0 : Code := { maxStack := 1, maxLocals := 1, code := jdk_89_method_10_code, exceptionTable := #[], attributes := #[] }
def k15m0 : Method := { name := "toString", desc := "(I)Ljava/lang/String;", sig := { parameters := [.int], returnType := some (.object "java/lang/String") }, accessFlags := 9, code := some k15c0 }
def k15c1 : Code := { maxStack := 2, maxLocals := 1, code := jdk_89_method_12_code, exceptionTable := #[], attributes := #[] }
def k15m1 : Method := { name := "isBmpCodePoint", desc := "(I)Z", sig := { parameters := [.int], returnType := some .boolean }, accessFlags := 9, code := some k15c1 }
def k15c2 : Code := { maxStack := 2, maxLocals := 1, code := jdk_89_method_13_code, exceptionTable := #[], attributes := #[] }
def k15m2 : Method := { name := "isSupplementaryCodePoint", desc := "(I)Z", sig := { parameters := [.int], returnType := some .boolean }, accessFlags := 9, code := some k15c2 }
def k15c3 : Code := { maxStack := 2, maxLocals := 1, code := jdk_89_method_14_code, exceptionTable := #[], attributes := #[] }
def k15m3 : Method := { name := "isHighSurrogate", desc := "(C)Z", sig := { parameters := [.char], returnType := some .boolean }, accessFlags := 9, code := some k15c3 }
def k15c4 : Code := { maxStack := 2, maxLocals := 1, code := jdk_89_method_15_code, exceptionTable := #[], attributes := #[] }
def k15m4 : Method := { name := "isLowSurrogate", desc := "(C)Z", sig := { parameters := [.char], returnType := some .boolean }, accessFlags := 9, code := some k15c4 }
def k15c5 : Code := { maxStack := 2, maxLocals := 1, code := jdk_89_method_16_code, exceptionTable := #[], attributes := #[] }
def k15m5 : Method := { name := "isSurrogate", desc := "(C)Z", sig := { parameters := [.char], returnType := some .boolean }, accessFlags := 9, code := some k15c5 }
def k15c6 : Code := { maxStack := 2, maxLocals := 1, code := jdk_89_method_18_code, exceptionTable := #[], attributes := #[] }
def k15m6 : Method := { name := "charCount", desc := "(I)I", sig := { parameters := [.int], returnType := some .int }, accessFlags := 9, code := some k15c6 }
def k15c7 : Code := { maxStack := 2, maxLocals := 2, code := jdk_89_method_19_code, exceptionTable := #[], attributes := #[] }
def k15m7 : Method := { name := "toCodePoint", desc := "(CC)I", sig := { parameters := [.char, .char], returnType := some .int }, accessFlags := 9, code := some k15c7 }
def k15c8 : Code := { maxStack := 2, maxLocals := 1, code := jdk_89_method_28_code, exceptionTable := #[], attributes := #[] }
def k15m8 : Method := { name := "highSurrogate", desc := "(I)C", sig := { parameters := [.int], returnType := some .char }, accessFlags := 9, code := some k15c8 }
def k15c9 : Code := { maxStack := 2, maxLocals := 1, code := jdk_89_method_29_code, exceptionTable := #[], attributes := #[] }
def k15m9 : Method := { name := "lowSurrogate", desc := "(I)C", sig := { parameters := [.int], returnType := some .char }, accessFlags := 9, code := some k15c9 }
/-- java/lang/Character -/
def k15 : Class := { plain "java/lang/Character" (some 0) with
  accessFlags := 49
  interfaces := #[2, 3, 5]
  cf := some (fileOf pool15 1 #[.nestMembers #[48, 595, 307, 597]] #[⟨9, 316, 72, #[]⟩, ⟨9, 113, 114, #[]⟩, ⟨9, 529, 114, #[]⟩, ⟨9, 80, 81, #[]⟩, ⟨9, 84, 81, #[]⟩, ⟨9, 531, 81, #[]⟩, ⟨9, 536, 174, #[]⟩, ⟨9, 98, 99, #[]⟩, ⟨9, 138, 91, #[]⟩, ⟨9, 135, 91, #[]⟩] 49 42 #[385, 387, 389] #[⟨25, 391, 392, #[]⟩, ⟨25, 395, 392, #[]⟩, ⟨25, 397, 22, #[]⟩, ⟨25, 399, 22, #[]⟩, ⟨25, 383, 384, #[]⟩, ⟨25, 403, 404, #[]⟩, ⟨25, 405, 404, #[]⟩, ⟨25, 407, 404, #[]⟩, ⟨25, 408, 404, #[]⟩, ⟨25, 410, 404, #[]⟩, ⟨25, 412, 404, #[]⟩, ⟨25, 414, 404, #[]⟩, ⟨25, 416, 404, #[]⟩, ⟨25, 418, 404, #[]⟩, ⟨25, 420, 404, #[]⟩, ⟨25, 422, 404, #[]⟩, ⟨25, 424, 404, #[]⟩, ⟨25, 426, 404, #[]⟩, ⟨25, 428, 404, #[]⟩, ⟨25, 430, 404, #[]⟩, ⟨25, 432, 404, #[]⟩, ⟨25, 434, 404, #[]⟩, ⟨25, 436, 404, #[]⟩, ⟨25, 438, 404, #[]⟩, ⟨25, 440, 404, #[]⟩, ⟨25, 442, 404, #[]⟩, ⟨25, 444, 404, #[]⟩, ⟨25, 446, 404, #[]⟩, ⟨25, 448, 404, #[]⟩, ⟨25, 450, 404, #[]⟩, ⟨25, 452, 404, #[]⟩, ⟨25, 454, 404, #[]⟩, ⟨25, 456, 404, #[]⟩, ⟨25, 458, 404, #[]⟩, ⟨25, 460, 404, #[]⟩, ⟨24, 462, 392, #[]⟩, ⟨25, 464, 404, #[]⟩, ⟨25, 465, 404, #[]⟩, ⟨25, 466, 404, #[]⟩, ⟨25, 467, 404, #[]⟩, ⟨25, 468, 404, #[]⟩, ⟨25, 469, 404, #[]⟩, ⟨25, 470, 404, #[]⟩, ⟨25, 471, 404, #[]⟩, ⟨25, 472, 404, #[]⟩, ⟨25, 473, 404, #[]⟩, ⟨25, 474, 404, #[]⟩, ⟨25, 475, 404, #[]⟩, ⟨25, 476, 404, #[]⟩, ⟨25, 477, 404, #[]⟩, ⟨25, 478, 404, #[]⟩, ⟨25, 479, 404, #[]⟩, ⟨25, 480, 404, #[]⟩, ⟨25, 481, 404, #[]⟩, ⟨25, 482, 404, #[]⟩, ⟨25, 484, 404, #[]⟩, ⟨25, 485, 404, #[]⟩, ⟨25, 486, 404, #[]⟩, ⟨25, 487, 404, #[]⟩, ⟨25, 488, 404, #[]⟩, ⟨25, 489, 22, #[]⟩, ⟨25, 490, 22, #[]⟩, ⟨25, 492, 22, #[]⟩, ⟨25, 493, 22, #[]⟩, ⟨25, 495, 22, #[]⟩, ⟨25, 496, 22, #[]⟩, ⟨25, 497, 392, #[]⟩, ⟨25, 498, 392, #[]⟩, ⟨25, 499, 392, #[]⟩, ⟨18, 21, 22, #[]⟩, ⟨26, 501, 502, #[]⟩, ⟨25, 505, 392, #[]⟩, ⟨25, 506, 392, #[]⟩, ⟨4120, 284, 285, #[]⟩])
  fields := #[⟨"MIN_RADIX", .int, 25, 0, 0⟩, ⟨"MAX_RADIX", .int, 25, 1, 0⟩, ⟨"MIN_VALUE", .char, 25, 2, 0⟩, ⟨"MAX_VALUE", .char, 25, 3, 0⟩, ⟨"TYPE", (.object "java/lang/Class"), 25, 4, 0⟩, ⟨"UNASSIGNED", .byte, 25, 5, 0⟩, ⟨"UPPERCASE_LETTER", .byte, 25, 6, 0⟩, ⟨"LOWERCASE_LETTER", .byte, 25, 7, 0⟩, ⟨"TITLECASE_LETTER", .byte, 25, 8, 0⟩, ⟨"MODIFIER_LETTER", .byte, 25, 9, 0⟩, ⟨"OTHER_LETTER", .byte, 25, 10, 0⟩, ⟨"NON_SPACING_MARK", .byte, 25, 11, 0⟩, ⟨"ENCLOSING_MARK", .byte, 25, 12, 0⟩, ⟨"COMBINING_SPACING_MARK", .byte, 25, 13, 0⟩, ⟨"DECIMAL_DIGIT_NUMBER", .byte, 25, 14, 0⟩, ⟨"LETTER_NUMBER", .byte, 25, 15, 0⟩, ⟨"OTHER_NUMBER", .byte, 25, 16, 0⟩, ⟨"SPACE_SEPARATOR", .byte, 25, 17, 0⟩, ⟨"LINE_SEPARATOR", .byte, 25, 18, 0⟩, ⟨"PARAGRAPH_SEPARATOR", .byte, 25, 19, 0⟩, ⟨"CONTROL", .byte, 25, 20, 0⟩, ⟨"FORMAT", .byte, 25, 21, 0⟩, ⟨"PRIVATE_USE", .byte, 25, 22, 0⟩, ⟨"SURROGATE", .byte, 25, 23, 0⟩, ⟨"DASH_PUNCTUATION", .byte, 25, 24, 0⟩, ⟨"START_PUNCTUATION", .byte, 25, 25, 0⟩, ⟨"END_PUNCTUATION", .byte, 25, 26, 0⟩, ⟨"CONNECTOR_PUNCTUATION", .byte, 25, 27, 0⟩, ⟨"OTHER_PUNCTUATION", .byte, 25, 28, 0⟩, ⟨"MATH_SYMBOL", .byte, 25, 29, 0⟩, ⟨"CURRENCY_SYMBOL", .byte, 25, 30, 0⟩, ⟨"MODIFIER_SYMBOL", .byte, 25, 31, 0⟩, ⟨"OTHER_SYMBOL", .byte, 25, 32, 0⟩, ⟨"INITIAL_QUOTE_PUNCTUATION", .byte, 25, 33, 0⟩, ⟨"FINAL_QUOTE_PUNCTUATION", .byte, 25, 34, 0⟩, ⟨"ERROR", .int, 24, 35, 0⟩, ⟨"DIRECTIONALITY_UNDEFINED", .byte, 25, 36, 0⟩, ⟨"DIRECTIONALITY_LEFT_TO_RIGHT", .byte, 25, 37, 0⟩, ⟨"DIRECTIONALITY_RIGHT_TO_LEFT", .byte, 25, 38, 0⟩, ⟨"DIRECTIONALITY_RIGHT_TO_LEFT_ARABIC", .byte, 25, 39, 0⟩, ⟨"DIRECTIONALITY_EUROPEAN_NUMBER", .byte, 25, 40, 0⟩, ⟨"DIRECTIONALITY_EUROPEAN_NUMBER_SEPARATOR", .byte, 25, 41, 0⟩, ⟨"DIRECTIONALITY_EUROPEAN_NUMBER_TERMINATOR", .byte, 25, 42, 0⟩, ⟨"DIRECTIONALITY_ARABIC_NUMBER", .byte, 25, 43, 0⟩, ⟨"DIRECTIONALITY_COMMON_NUMBER_SEPARATOR", .byte, 25, 44, 0⟩, ⟨"DIRECTIONALITY_NONSPACING_MARK", .byte, 25, 45, 0⟩, ⟨"DIRECTIONALITY_BOUNDARY_NEUTRAL", .byte, 25, 46, 0⟩, ⟨"DIRECTIONALITY_PARAGRAPH_SEPARATOR", .byte, 25, 47, 0⟩, ⟨"DIRECTIONALITY_SEGMENT_SEPARATOR", .byte, 25, 48, 0⟩, ⟨"DIRECTIONALITY_WHITESPACE", .byte, 25, 49, 0⟩, ⟨"DIRECTIONALITY_OTHER_NEUTRALS", .byte, 25, 50, 0⟩, ⟨"DIRECTIONALITY_LEFT_TO_RIGHT_EMBEDDING", .byte, 25, 51, 0⟩, ⟨"DIRECTIONALITY_LEFT_TO_RIGHT_OVERRIDE", .byte, 25, 52, 0⟩, ⟨"DIRECTIONALITY_RIGHT_TO_LEFT_EMBEDDING", .byte, 25, 53, 0⟩, ⟨"DIRECTIONALITY_RIGHT_TO_LEFT_OVERRIDE", .byte, 25, 54, 0⟩, ⟨"DIRECTIONALITY_POP_DIRECTIONAL_FORMAT", .byte, 25, 55, 0⟩, ⟨"DIRECTIONALITY_LEFT_TO_RIGHT_ISOLATE", .byte, 25, 56, 0⟩, ⟨"DIRECTIONALITY_RIGHT_TO_LEFT_ISOLATE", .byte, 25, 57, 0⟩, ⟨"DIRECTIONALITY_FIRST_STRONG_ISOLATE", .byte, 25, 58, 0⟩, ⟨"DIRECTIONALITY_POP_DIRECTIONAL_ISOLATE", .byte, 25, 59, 0⟩, ⟨"MIN_HIGH_SURROGATE", .char, 25, 60, 0⟩, ⟨"MAX_HIGH_SURROGATE", .char, 25, 61, 0⟩, ⟨"MIN_LOW_SURROGATE", .char, 25, 62, 0⟩, ⟨"MAX_LOW_SURROGATE", .char, 25, 63, 0⟩, ⟨"MIN_SURROGATE", .char, 25, 64, 0⟩, ⟨"MAX_SURROGATE", .char, 25, 65, 0⟩, ⟨"MIN_SUPPLEMENTARY_CODE_POINT", .int, 25, 66, 0⟩, ⟨"MIN_CODE_POINT", .int, 25, 67, 0⟩, ⟨"MAX_CODE_POINT", .int, 25, 68, 0⟩, ⟨"value", .char, 18, 0, 0⟩, ⟨"serialVersionUID", .long, 26, 69, 0⟩, ⟨"SIZE", .int, 25, 70, 0⟩, ⟨"BYTES", .int, 25, 71, 0⟩, ⟨"$assertionsDisabled", .boolean, 4120, 72, 0⟩]
  methods := #[k15m0, k15m1, k15m2, k15m3, k15m4, k15m5, k15m6, k15m7, k15m8, k15m9]
  instanceTypes := #[.char]
  staticTypes := #[.int, .int, .char, .char, (.object "java/lang/Class"), .byte, .byte, .byte, .byte, .byte, .byte, .byte, .byte, .byte, .byte, .byte, .byte, .byte, .byte, .byte, .byte, .byte, .byte, .byte, .byte, .byte, .byte, .byte, .byte, .byte, .byte, .byte, .byte, .byte, .byte, .int, .byte, .byte, .byte, .byte, .byte, .byte, .byte, .byte, .byte, .byte, .byte, .byte, .byte, .byte, .byte, .byte, .byte, .byte, .byte, .byte, .byte, .byte, .byte, .byte, .char, .char, .char, .char, .char, .char, .int, .int, .int, .long, .int, .int, .boolean]
  resolved := Array.replicate 604 none
  statics := none }

def pool16 : Array CpInfo := pool [(2, .class_ 4), (1, u "java/lang/Object"), (0, u "<init>"), (0, u "()V"), (7, .class_ 16), (1, u "java/util/Arrays"), (57, .class_ 76), (1, u "java/util/Arrays$NaturalOrder"), (32, u "()Ljava/lang/Object;"), (3, .class_ 115), (1, u "java/util/Arrays$LegacyMergeSort"), (1, u "Z"), (10, .nameAndType 129 109), (0, u "clone"), (9, u "copyOfRange"), (10, .methodref 151 152), (0, .class_ 153), (0, .nameAndType 154 155), (0, u "java/lang/System"), (0, u "arraycopy"), (0, u "(Ljava/lang/Object;ILjava/lang/Object;II)V"), (146, u "copyOf"), (1, .methodref 305 306), (0, .class_ 307), (0, .nameAndType 308 309), (0, u "java/lang/Math"), (0, u "min"), (0, u "(II)I"), (0, .methodref 311 128), (0, .class_ 312), (0, u "[B"), (26, .methodref 14 340), (0, .nameAndType 341 342), (0, u "copyOfRangeByte"), (0, u "([BII)[B"), (0, .methodref 14 344), (0, .nameAndType 345 346), (0, u "checkLength"), (0, u "(II)V"), (28, .class_ 376), (0, u "java/util/Arrays$ArrayList"), (68, u "$assertionsDisabled"), (269, u "MIN_ARRAY_SORT_GRAN"), (0, u "I"), (2, u "INSERTIONSORT_THRESHOLD"), (149, u "([BI)[B"), (105, .class_ 976), (0, u "java/util/Arrays$ArrayItr")] 52

def k16m0 : Method := { name := "<init>", desc := "()V", sig := { parameters := [], returnType := none }, accessFlags := 2, code := none }
def k16c1 : Code := { maxStack := 6, maxLocals := 3, code := jdk_65_method_121_code, exceptionTable := #[], attributes := #[] }
def k16m1 : Method := { name := "copyOf", desc := "([BI)[B", sig := { parameters := [(.array .byte), .int], returnType := some (.array .byte) }, accessFlags := 9, code := some k16c1 }
def k16c2 : Code := { maxStack := 4, maxLocals := 2, code := jdk_65_method_131_code, exceptionTable := #[], attributes := #[] }
def k16m2 : Method := { name := "checkLength", desc := "(II)V", sig := { parameters := [.int, .int], returnType := none }, accessFlags := 10, code := some k16c2 }
def k16c3 : Code := { maxStack := 3, maxLocals := 3, code := jdk_65_method_132_code, exceptionTable := #[], attributes := #[] }
def k16m3 : Method := { name := "copyOfRange", desc := "([BII)[B", sig := { parameters := [(.array .byte), .int, .int], returnType := some (.array .byte) }, accessFlags := 9, code := some k16c3 }
def k16c4 : Code := { maxStack := 6, maxLocals := 5, code := jdk_65_method_133_code, exceptionTable := #[], attributes := #[] }
def k16m4 : Method := { name := "copyOfRangeByte", desc := "([BII)[B", sig := { parameters := [(.array .byte), .int, .int], returnType := some (.array .byte) }, accessFlags := 10, code := some k16c4 }
/-- java/util/Arrays -/
def k16 : Class := { plain "java/util/Arrays" (some 0) with
  accessFlags := 49
  interfaces := #[]
  cf := some (fileOf pool16 14 #[.nestMembers #[975, 375, 113, 74]] #[⟨2, 5, 6, #[]⟩, ⟨9, 302, 869, #[]⟩, ⟨10, 345, 346, #[]⟩, ⟨9, 139, 342, #[]⟩, ⟨10, 341, 342, #[]⟩] 49 2 #[] #[⟨26, 715, 716, #[]⟩, ⟨26, 719, 716, #[]⟩, ⟨4120, 445, 117, #[]⟩])
  fields := #[⟨"MIN_ARRAY_SORT_GRAN", .int, 26, 0, 0⟩, ⟨"INSERTIONSORT_THRESHOLD", .int, 26, 1, 0⟩, ⟨"$assertionsDisabled", .boolean, 4120, 2, 0⟩]
  methods := #[k16m0, k16m1, k16m2, k16m3, k16m4]
  instanceTypes := #[]
  staticTypes := #[.int, .int, .boolean]
  resolved := Array.replicate 1029 none
  statics := none }

def pool17 : Array CpInfo := pool [(1, .class_ 2), (0, u "java/lang/Math"), (1, .class_ 6), (1, u "java/lang/Object"), (0, u "<init>"), (0, u "()V"), (89, .class_ 100), (1, u "java/lang/Math$RandomNumberGeneratorHolder"), (71, u "negativeZeroFloatBits"), (0, u "J"), (2, u "negativeZeroDoubleBits"), (21, u "max"), (2, u "min"), (43, u "$assertionsDisabled"), (0, u "Z"), (88, u "(II)I"), (2, u "twoToTheDoubleScaleDown"), (0, u "D"), (4, u "twoToTheDoubleScaleUp"), (9, u "E"), (3, u "PI"), (2, u "TAU"), (2, u "DEGREES_TO_RADIANS"), (0, u "RADIANS_TO_DEGREES")] 94

def k17m0 : Method := { name := "<init>", desc := "()V", sig := { parameters := [], returnType := none }, accessFlags := 2, code := none }
def k17c1 : Code := { maxStack := 2, maxLocals := 2, code := jdk_29_method_65_code, exceptionTable := #[], attributes := #[] }
def k17m1 : Method := { name := "max", desc := "(II)I", sig := { parameters := [.int, .int], returnType := some .int }, accessFlags := 9, code := some k17c1 }
def k17c2 : Code := { maxStack := 2, maxLocals := 2, code := jdk_29_method_69_code, exceptionTable := #[], attributes := #[] }
def k17m2 : Method := { name := "min", desc := "(II)I", sig := { parameters := [.int, .int], returnType := some .int }, accessFlags := 9, code := some k17c2 }
/-- java/lang/Math -/
def k17 : Class := { plain "java/lang/Math" (some 0) with
  accessFlags := 49
  interfaces := #[]
  cf := some (fileOf pool17 1 #[.nestMembers #[98]] #[⟨2, 7, 8, #[]⟩, ⟨9, 198, 335, #[]⟩, ⟨9, 201, 335, #[]⟩] 49 4 #[] #[⟨25, 354, 339, #[]⟩, ⟨25, 358, 339, #[]⟩, ⟨25, 361, 339, #[]⟩, ⟨26, 364, 339, #[]⟩, ⟨26, 365, 339, #[]⟩, ⟨26, 172, 173, #[]⟩, ⟨26, 176, 173, #[]⟩, ⟨8, 344, 339, #[]⟩, ⟨8, 338, 339, #[]⟩, ⟨4120, 245, 246, #[]⟩])
  fields := #[⟨"E", .double, 25, 0, 0⟩, ⟨"PI", .double, 25, 1, 0⟩, ⟨"TAU", .double, 25, 2, 0⟩, ⟨"DEGREES_TO_RADIANS", .double, 26, 3, 0⟩, ⟨"RADIANS_TO_DEGREES", .double, 26, 4, 0⟩, ⟨"negativeZeroFloatBits", .long, 26, 5, 0⟩, ⟨"negativeZeroDoubleBits", .long, 26, 6, 0⟩, ⟨"twoToTheDoubleScaleUp", .double, 8, 7, 0⟩, ⟨"twoToTheDoubleScaleDown", .double, 8, 8, 0⟩, ⟨"$assertionsDisabled", .boolean, 4120, 9, 0⟩]
  methods := #[k17m0, k17m1, k17m2]
  instanceTypes := #[]
  staticTypes := #[.double, .double, .double, .double, .double, .long, .long, .double, .double, .boolean]
  resolved := Array.replicate 460 none
  statics := none }

def pool18 : Array CpInfo := pool [(2, .class_ 4), (1, u "java/lang/Object"), (0, u "<init>"), (0, u "()V"), (1, .class_ 10), (1, u "java/lang/System"), (0, u "allowSecurityManager"), (0, u "I"), (16, u "cons"), (0, u "Ljava/io/Console;"), (77, .class_ 110), (1, u "java/lang/System$CallersHolder"), (43, u "initialErrStream"), (0, u "Ljava/io/PrintStream;"), (19, u "security"), (0, u "Ljava/lang/SecurityManager;"), (31, .class_ 209), (0, u "java/lang/System$1"), (7, u "props"), (0, u "Ljava/util/Properties;"), (2, u "lineSeparator"), (0, u "Ljava/lang/String;"), (96, .class_ 321), (1, u "java/lang/System$LoggerFinder"), (5, .class_ 328), (0, u "java/lang/System$Logger"), (67, u "err"), (2, u "out"), (91, u "notSupportedJnuEncoding"), (15, u "in"), (17, u "initialIn"), (0, u "Ljava/io/InputStream;"), (35, u "bootLayer"), (0, u "Ljava/lang/ModuleLayer;"), (99, .class_ 664), (0, u "java/lang/System$2"), (9, u "NEVER"), (2, u "MAYBE"), (49, u "arraycopy"), (0, u "(Ljava/lang/Object;ILjava/lang/Object;II)V"), (72, .class_ 802), (0, u "java/lang/System$Logger$Level")] 31

def k18m0 : Method := { name := "<init>", desc := "()V", sig := { parameters := [], returnType := none }, accessFlags := 2, code := none }
def k18m1 : Method := { name := "arraycopy", desc := "(Ljava/lang/Object;ILjava/lang/Object;II)V", sig := { parameters := [(.object "java/lang/Object"), .int, (.object "java/lang/Object"), .int, .int], returnType := none }, accessFlags := 265, code := none }
/-- java/lang/System -/
def k18 : Class := { plain "java/lang/System" (some 0) with
  accessFlags := 49
  interfaces := #[]
  cf := some (fileOf pool18 8 #[.nestMembers #[319, 327, 801, 108, 663, 208]] #[⟨2, 5, 6, #[]⟩, ⟨265, 727, 728, #[]⟩] 49 2 #[] #[⟨25, 507, 526, #[]⟩, ⟨25, 399, 155, #[]⟩, ⟨25, 396, 155, #[]⟩, ⟨10, 525, 526, #[]⟩, ⟨26, 674, 12, #[]⟩, ⟨26, 677, 12, #[]⟩, ⟨10, 11, 12, #[]⟩, ⟨74, 175, 176, #[]⟩, ⟨10, 491, 222, #[]⟩, ⟨74, 29, 30, #[]⟩, ⟨74, 154, 155, #[]⟩, ⟨10, 217, 218, #[]⟩, ⟨10, 221, 222, #[]⟩, ⟨8, 562, 563, #[]⟩])
  fields := #[⟨"in", (.object "java/io/InputStream"), 25, 0, 0⟩, ⟨"out", (.object "java/io/PrintStream"), 25, 1, 0⟩, ⟨"err", (.object "java/io/PrintStream"), 25, 2, 0⟩, ⟨"initialIn", (.object "java/io/InputStream"), 10, 3, 0⟩, ⟨"NEVER", .int, 26, 4, 0⟩, ⟨"MAYBE", .int, 26, 5, 0⟩, ⟨"allowSecurityManager", .int, 10, 6, 0⟩, ⟨"security", (.object "java/lang/SecurityManager"), 74, 7, 0⟩, ⟨"notSupportedJnuEncoding", (.object "java/lang/String"), 10, 8, 0⟩, ⟨"cons", (.object "java/io/Console"), 74, 9, 0⟩, ⟨"initialErrStream", (.object "java/io/PrintStream"), 74, 10, 0⟩, ⟨"props", (.object "java/util/Properties"), 10, 11, 0⟩, ⟨"lineSeparator", (.object "java/lang/String"), 10, 12, 0⟩, ⟨"bootLayer", (.object "java/lang/ModuleLayer"), 8, 13, 0⟩]
  methods := #[k18m0, k18m1]
  instanceTypes := #[]
  staticTypes := #[(.object "java/io/InputStream"), (.object "java/io/PrintStream"), (.object "java/io/PrintStream"), (.object "java/io/InputStream"), .int, .int, .int, (.object "java/lang/SecurityManager"), (.object "java/lang/String"), (.object "java/io/Console"), (.object "java/io/PrintStream"), (.object "java/util/Properties"), (.object "java/lang/String"), (.object "java/lang/ModuleLayer")]
  resolved := Array.replicate 834 none
  statics := none }

def pool19 : Array CpInfo := pool [(2, .class_ 4), (1, u "java/lang/Object"), (0, u "<init>"), (0, u "()V"), (0, .methodref 8 9), (0, .class_ 10), (0, .nameAndType 11 12), (0, u "java/lang/StringCoding"), (0, u "countPositives"), (0, u "([BII)I"), (11, u "hasNegatives"), (0, u "([BII)Z")] 23

def k19m0 : Method := { name := "<init>", desc := "()V", sig := { parameters := [], returnType := none }, accessFlags := 2, code := none }
def k19c1 : Code := { maxStack := 3, maxLocals := 3, code := jdk_123_method_2_code, exceptionTable := #[], attributes := #[] }
def k19m1 : Method := { name := "hasNegatives", desc := "([BII)Z", sig := { parameters := [(.array .byte), .int, .int], returnType := some .boolean }, accessFlags := 9, code := some k19c1 }
def k19c2 : Code := { maxStack := 2, maxLocals := 5, code := jdk_123_method_3_code, exceptionTable := #[], attributes := #[] }
def k19m2 : Method := { name := "countPositives", desc := "([BII)I", sig := { parameters := [(.array .byte), .int, .int], returnType := some .int }, accessFlags := 9, code := some k19c2 }
/-- java/lang/StringCoding -/
def k19 : Class := { plain "java/lang/StringCoding" (some 0) with
  accessFlags := 32
  interfaces := #[]
  cf := some (fileOf pool19 8 #[] #[⟨2, 5, 6, #[]⟩, ⟨9, 24, 25, #[]⟩, ⟨9, 11, 12, #[]⟩] 32 2 #[] #[])
  fields := #[]
  methods := #[k19m0, k19m1, k19m2]
  instanceTypes := #[]
  staticTypes := #[]
  resolved := Array.replicate 49 none
  statics := none }

def pool20 : Array CpInfo := pool [(1, .class_ 2), (0, u "java/lang/Cloneable"), (0, .class_ 4), (0, u "java/lang/Object")] 2

/-- java/lang/Cloneable -/
def k20 : Class := { plain "java/lang/Cloneable" (some 0) with
  accessFlags := 1537
  interfaces := #[]
  cf := some (fileOf pool20 1 #[] #[] 1537 3 #[] #[])
  fields := #[]
  methods := #[]
  instanceTypes := #[]
  staticTypes := #[]
  resolved := Array.replicate 7 none
  statics := none }

def pool21 : Array CpInfo := pool [(1, .class_ 2), (0, u "java/lang/Appendable"), (0, .class_ 4), (0, u "java/lang/Object")] 9

/-- java/lang/Appendable -/
def k21 : Class := { plain "java/lang/Appendable" (some 0) with
  accessFlags := 1537
  interfaces := #[]
  cf := some (fileOf pool21 1 #[] #[] 1537 3 #[] #[])
  fields := #[]
  methods := #[]
  instanceTypes := #[]
  staticTypes := #[]
  resolved := Array.replicate 14 none
  statics := none }

def pool22 : Array CpInfo := pool [(1, .class_ 2), (0, u "java/lang/String"), (0, .methodref 4 5), (0, .class_ 6), (0, .nameAndType 7 8), (0, u "java/lang/Object"), (0, u "<init>"), (0, u "()V"), (1, .class_ 12), (1, u "java/lang/AbstractStringBuilder"), (0, u "EMPTYVALUE"), (0, u "[B"), (0, .fieldref 10 16), (0, .nameAndType 17 14), (0, u "value"), (0, .fieldref 1 19), (0, .nameAndType 20 21), (0, u "COMPACT_STRINGS"), (0, u "Z"), (0, .fieldref 10 23), (0, .nameAndType 24 25), (0, u "coder"), (0, u "B"), (0, .methodref 27 28), (0, .class_ 29), (0, .nameAndType 30 31), (0, u "java/lang/StringUTF16"), (0, u "newBytesFor"), (0, u "(I)[B"), (0, .methodref 1 33), (0, .nameAndType 34 35), (0, u "length"), (0, u "()I"), (3, .integer 2147483647), (0, .methodref 1 41), (0, .nameAndType 24 42), (0, u "()B"), (2, u "append"), (0, u "(Ljava/lang/String;)Ljava/lang/AbstractStringBuilder;"), (1, .class_ 49), (0, u "java/lang/CharSequence"), (19, u "(Ljava/lang/String;)V"), (5, u "maybeLatin1"), (3, .fieldref 10 80), (0, .nameAndType 81 82), (0, u "count"), (0, u "I"), (0, .methodref 10 84), (0, .nameAndType 85 86), (0, u "isLatin1"), (0, u "()Z"), (1, .class_ 90), (1, u "java/lang/StringLatin1"), (9, .methodref 10 101), (0, .nameAndType 102 103), (0, u "ensureCapacityInternal"), (0, u "(I)V"), (0, .methodref 10 105), (0, .nameAndType 106 107), (0, u "newCapacity"), (0, u "(I)I"), (0, .methodref 109 110), (0, .class_ 111), (0, .nameAndType 112 113), (0, u "java/util/Arrays"), (0, u "copyOf"), (0, u "([BI)[B"), (0, .methodref 115 116), (0, .class_ 117), (0, .nameAndType 118 119), (0, u "jdk/internal/util/ArraysSupport"), (0, u "newLength"), (0, u "(III)I"), (5, .methodref 88 126), (0, .nameAndType 127 128), (0, u "inflate"), (0, u "([BI[BII)V"), (66, .methodref 10 196), (0, .nameAndType 127 8), (11, .methodref 10 209), (0, .nameAndType 210 211), (0, u "putStringAt"), (0, u "(ILjava/lang/String;)V"), (5, u "inflateIfNeededFor"), (2, .nameAndType 221 222), (0, u "getBytes"), (0, u "([BIB)V"), (174, .methodref 10 398), (0, .nameAndType 217 69), (0, .methodref 1 220), (3, u "()[B"), (40, .class_ 445), (0, u "java/lang/Appendable"), (106, u "getValue")] 56

def k22m0 : Method := { name := "<init>", desc := "()V", sig := { parameters := [], returnType := none }, accessFlags := 0, code := none }
def k22c1 : Code := { maxStack := 2, maxLocals := 2, code := jdk_68_method_2_code, exceptionTable := #[], attributes := #[] }
def k22m1 : Method := { name := "<init>", desc := "(I)V", sig := { parameters := [.int], returnType := none }, accessFlags := 0, code := some k22c1 }
def k22c2 : Code := { maxStack := 1, maxLocals := 1, code := jdk_68_method_6_code, exceptionTable := #[], attributes := #[] }
def k22m2 : Method := { name := "length", desc := "()I", sig := { parameters := [], returnType := some .int }, accessFlags := 1, code := some k22c2 }
def k22c3 : Code := { maxStack := 4, maxLocals := 3, code := jdk_68_method_9_code, exceptionTable := #[], attributes := #[] }
def k22m3 : Method := { name := "ensureCapacityInternal", desc := "(I)V", sig := { parameters := [.int], returnType := none }, accessFlags := 2, code := some k22c3 }
def k22c4 : Code := { maxStack := 5, maxLocals := 6, code := jdk_68_method_10_code, exceptionTable := #[], attributes := #[] }
def k22m4 : Method := { name := "newCapacity", desc := "(I)I", sig := { parameters := [.int], returnType := some .int }, accessFlags := 2, code := some k22c4 }
def k22c5 : Code := { maxStack := 5, maxLocals := 2, code := jdk_68_method_11_code, exceptionTable := #[], attributes := #[] }
def k22m5 : Method := { name := "inflate", desc := "()V", sig := { parameters := [], returnType := none }, accessFlags := 2, code := some k22c5 }
def k22c6 : Code := { maxStack := 3, maxLocals := 3, code := jdk_68_method_22_code, exceptionTable := #[], attributes := #[] }
def k22m6 : Method := { name := "append", desc := "(Ljava/lang/String;)Ljava/lang/AbstractStringBuilder;", sig := { parameters := [(.object "java/lang/String")], returnType := some (.object "java/lang/AbstractStringBuilder") }, accessFlags := 1, code := some k22c6 }
def k22c7 : Code := { maxStack := 1, maxLocals := 1, code := jdk_68_method_64_code, exceptionTable := #[], attributes := #[] }
def k22m7 : Method := { name := "getValue", desc := "()[B", sig := { parameters := [], returnType := some (.array .byte) }, accessFlags := 16, code := some k22c7 }
def k22c8 : Code := { maxStack := 1, maxLocals := 1, code := jdk_68_method_68_code, exceptionTable := #[], attributes := #[] }
def k22m8 : Method := { name := "isLatin1", desc := "()Z", sig := { parameters := [], returnType := some .boolean }, accessFlags := 16, code := some k22c8 }
def k22c9 : Code := { maxStack := 2, maxLocals := 2, code := jdk_68_method_71_code, exceptionTable := #[], attributes := #[] }
def k22m9 : Method := { name := "inflateIfNeededFor", desc := "(Ljava/lang/String;)V", sig := { parameters := [(.object "java/lang/String")], returnType := none }, accessFlags := 2, code := some k22c9 }
def k22c10 : Code := { maxStack := 4, maxLocals := 3, code := jdk_68_method_73_code, exceptionTable := #[], attributes := #[] }
def k22m10 : Method := { name := "putStringAt", desc := "(ILjava/lang/String;)V", sig := { parameters := [.int, (.object "java/lang/String")], returnType := none }, accessFlags := 2, code := some k22c10 }
/-- java/lang/AbstractStringBuilder -/
def k22 : Class := { plain "java/lang/AbstractStringBuilder" (some 0) with
  accessFlags := 1056
  interfaces := #[21, 4]
  cf := some (fileOf pool22 10 #[] #[⟨0, 7, 8, #[]⟩, ⟨0, 7, 103, #[]⟩, ⟨1, 34, 35, #[]⟩, ⟨2, 102, 103, #[]⟩, ⟨2, 106, 107, #[]⟩, ⟨2, 127, 8, #[]⟩, ⟨1, 45, 46, #[]⟩, ⟨16, 552, 403, #[]⟩, ⟨16, 85, 86, #[]⟩, ⟨2, 217, 69, #[]⟩, ⟨2, 210, 211, #[]⟩] 1056 4 #[444, 48] #[⟨0, 17, 14, #[]⟩, ⟨0, 24, 25, #[]⟩, ⟨0, 75, 21, #[]⟩, ⟨0, 81, 82, #[]⟩, ⟨26, 13, 14, #[]⟩])
  fields := #[⟨"value", (.array .byte), 0, 0, 0⟩, ⟨"coder", .byte, 0, 1, 0⟩, ⟨"maybeLatin1", .boolean, 0, 2, 0⟩, ⟨"count", .int, 0, 3, 0⟩, ⟨"EMPTYVALUE", (.array .byte), 26, 0, 0⟩]
  methods := #[k22m0, k22m1, k22m2, k22m3, k22m4, k22m5, k22m6, k22m7, k22m8, k22m9, k22m10]
  instanceTypes := #[(.array .byte), .byte, .boolean, .int]
  staticTypes := #[(.array .byte)]
  resolved := Array.replicate 609 none
  statics := none }

def pool23 : Array CpInfo := pool [(1, .methodref 2 3), (0, .class_ 4), (0, .nameAndType 5 6), (0, u "java/lang/AbstractStringBuilder"), (0, u "<init>"), (0, u "(I)V"), (11, .class_ 20), (1, u "java/lang/String"), (3, .class_ 26), (1, u "java/lang/StringBuilder"), (0, u "append"), (0, u "(Ljava/lang/String;)Ljava/lang/StringBuilder;"), (0, .methodref 2 30), (0, .nameAndType 27 31), (0, u "(Ljava/lang/String;)Ljava/lang/AbstractStringBuilder;"), (105, .methodref 18 138), (0, .nameAndType 5 139), (0, u "(Ljava/lang/StringBuilder;)V"), (5, u "()V"), (10, u "()I"), (186, .methodref 2 344), (0, .nameAndType 345 156), (0, u "length"), (3, .class_ 350), (0, u "java/lang/Appendable"), (0, .class_ 352), (0, u "java/io/Serializable"), (0, .class_ 354), (0, u "java/lang/Comparable"), (0, .class_ 356), (0, u "java/lang/CharSequence"), (0, u "serialVersionUID"), (0, u "J"), (40, u "toString"), (0, u "()Ljava/lang/String;")] 21

def k23c0 : Code := { maxStack := 2, maxLocals := 1, code := jdk_67_method_1_code, exceptionTable := #[], attributes := #[] }
def k23m0 : Method := { name := "<init>", desc := "()V", sig := { parameters := [], returnType := none }, accessFlags := 1, code := some k23c0 }
def k23c1 : Code := { maxStack := 2, maxLocals := 2, code := jdk_67_method_7_code, exceptionTable := #[], attributes := #[] }
def k23m1 : Method := { name := "append", desc := "(Ljava/lang/String;)Ljava/lang/StringBuilder;", sig := { parameters := [(.object "java/lang/String")], returnType := some (.object "java/lang/StringBuilder") }, accessFlags := 1, code := some k23c1 }
def k23c2 : Code := { maxStack := 3, maxLocals := 1, code := jdk_67_method_42_code, exceptionTable := #[], attributes := #[] }
def k23m2 : Method := { name := "toString", desc := "()Ljava/lang/String;", sig := { parameters := [], returnType := some (.object "java/lang/String") }, accessFlags := 1, code := some k23c2 }
def k23c3 : Code := { maxStack := 1, maxLocals := 1, code := jdk_67_method_93_code, exceptionTable := #[], attributes := #[] }
def k23m3 : Method := { name := "length", desc := "()I", sig := { parameters := [], returnType := some .int }, accessFlags := 4161, code := some k23c3 }
/-- java/lang/StringBuilder -/
def k23 : Class := { plain "java/lang/StringBuilder" (some 22) with
  accessFlags := 49
  interfaces := #[21, 2, 3, 4]
  cf := some (fileOf pool23 24 #[] #[⟨1, 5, 145, #[]⟩, ⟨1, 27, 28, #[]⟩, ⟨1, 399, 400, #[]⟩, ⟨4161, 345, 156, #[]⟩] 49 2 #[349, 351, 353, 355] #[⟨24, 357, 358, #[]⟩])
  fields := #[⟨"serialVersionUID", .long, 24, 0, 0⟩]
  methods := #[k23m0, k23m1, k23m2, k23m3]
  instanceTypes := #[(.array .byte), .byte, .boolean, .int]
  staticTypes := #[.long]
  resolved := Array.replicate 422 none
  statics := none }

def pool24 : Array CpInfo := pool [(2, .class_ 4), (1, u "java/lang/Object"), (0, u "<init>"), (0, u "()V"), (17, .class_ 26), (1, u "jdk/internal/util/Preconditions"), (6, u "checkIndex"), (13, u "checkFromToIndex"), (1, u "checkFromIndexSize"), (5, .class_ 56), (0, u "jdk/internal/util/Preconditions$4"), (57, .class_ 115), (0, u "jdk/internal/util/Preconditions$1"), (7, u "SIOOBE_FORMATTER"), (0, u "Ljava/util/function/BiFunction;"), (0, .class_ 126), (0, u "jdk/internal/util/Preconditions$2"), (3, u "AIOOBE_FORMATTER"), (0, .class_ 132), (0, u "jdk/internal/util/Preconditions$3"), (3, u "IOOBE_FORMATTER"), (41, u "(IILjava/util/function/BiFunction;)I"), (4, u "(IIILjava/util/function/BiFunction;)I")] 10

def k24m0 : Method := { name := "<init>", desc := "()V", sig := { parameters := [], returnType := none }, accessFlags := 1, code := none }
def k24c1 : Code := { maxStack := 3, maxLocals := 3, code := jdk_41_method_11_code, exceptionTable := #[], attributes := #[] }
def k24m1 : Method := { name := "checkIndex", desc := "(IILjava/util/function/BiFunction;)I", sig := { parameters := [.int, .int, (.object "java/util/function/BiFunction")], returnType := some .int }, accessFlags := 9, code := some k24c1 }
def k24c2 : Code := { maxStack := 4, maxLocals := 4, code := jdk_41_method_12_code, exceptionTable := #[], attributes := #[] }
def k24m2 : Method := { name := "checkFromToIndex", desc := "(IIILjava/util/function/BiFunction;)I", sig := { parameters := [.int, .int, .int, (.object "java/util/function/BiFunction")], returnType := some .int }, accessFlags := 9, code := some k24c2 }
def k24c3 : Code := { maxStack := 4, maxLocals := 4, code := jdk_41_method_13_code, exceptionTable := #[], attributes := #[] }
def k24m3 : Method := { name := "checkFromIndexSize", desc := "(IIILjava/util/function/BiFunction;)I", sig := { parameters := [.int, .int, .int, (.object "java/util/function/BiFunction")], returnType := some .int }, accessFlags := 9, code := some k24c3 }
/-- jdk/internal/util/Preconditions -/
def k24 : Class := { plain "jdk/internal/util/Preconditions" (some 0) with
  accessFlags := 33
  interfaces := #[]
  cf := some (fileOf pool24 24 #[.nestMembers #[55, 131, 125, 114]] #[⟨1, 5, 6, #[]⟩, ⟨9, 33, 178, #[]⟩, ⟨9, 47, 183, #[]⟩, ⟨9, 49, 183, #[]⟩] 33 2 #[] #[⟨25, 123, 124, #[]⟩, ⟨25, 130, 124, #[]⟩, ⟨25, 136, 124, #[]⟩])
  fields := #[⟨"SIOOBE_FORMATTER", (.object "java/util/function/BiFunction"), 25, 0, 0⟩, ⟨"AIOOBE_FORMATTER", (.object "java/util/function/BiFunction"), 25, 1, 0⟩, ⟨"IOOBE_FORMATTER", (.object "java/util/function/BiFunction"), 25, 2, 0⟩]
  methods := #[k24m0, k24m1, k24m2, k24m3]
  instanceTypes := #[]
  staticTypes := #[(.object "java/util/function/BiFunction"), (.object "java/util/function/BiFunction"), (.object "java/util/function/BiFunction")]
  resolved := Array.replicate 194 none
  statics := some 4 }

def pool25 : Array CpInfo := pool [(1, .class_ 2), (0, u "java/lang/String"), (1, .class_ 6), (1, u "java/lang/Object"), (0, u "<init>"), (0, u "()V"), (0, .methodref 1 10), (0, .nameAndType 11 12), (0, u "checkIndex"), (0, u "(II)V"), (1, .class_ 16), (1, u "java/lang/StringLatin1"), (0, u "inflate"), (2, .class_ 22), (1, u "java/lang/StringUTF16"), (3, .nameAndType 17 27), (0, u "([BI[BII)V"), (25, u "([BI)C"), (36, u "canEncode"), (0, u "(I)Z"), (20, .methodref 1 113), (0, .nameAndType 7 114), (0, u "([BB)V"), (6, u "$assertionsDisabled"), (0, u "Z"), (8, .class_ 133), (1, u "java/util/Arrays"), (17, .string 152), (0, u ""), (43, u "newString"), (0, u "([BII)Ljava/lang/String;"), (23, .class_ 223), (1, u "java/lang/StringLatin1$LinesSpliterator"), (8, .methodref 131 233), (0, .nameAndType 234 235), (0, u "copyOfRange"), (0, u "([BII)[B"), (4, .methodref 20 26), (11, u "charAt"), (127, u "toBytes"), (1, u "(C)[B"), (7, .class_ 391), (0, u "java/lang/StringLatin1$CharsSpliterator")] 3

def k25m0 : Method := { name := "<init>", desc := "()V", sig := { parameters := [], returnType := none }, accessFlags := 0, code := none }
def k25c1 : Code := { maxStack := 2, maxLocals := 2, code := jdk_43_method_2_code, exceptionTable := #[], attributes := #[] }
def k25m1 : Method := { name := "charAt", desc := "([BI)C", sig := { parameters := [(.array .byte), .int], returnType := some .char }, accessFlags := 9, code := some k25c1 }
def k25c2 : Code := { maxStack := 2, maxLocals := 1, code := jdk_43_method_4_code, exceptionTable := #[], attributes := #[] }
def k25m2 : Method := { name := "canEncode", desc := "(I)Z", sig := { parameters := [.int], returnType := some .boolean }, accessFlags := 9, code := some k25c2 }
def k25c3 : Code := { maxStack := 4, maxLocals := 1, code := jdk_43_method_46_code, exceptionTable := #[], attributes := #[] }
def k25m3 : Method := { name := "toBytes", desc := "(C)[B", sig := { parameters := [.char], returnType := some (.array .byte) }, accessFlags := 9, code := some k25c3 }
def k25c4 : Code := { maxStack := 6, maxLocals := 3, code := jdk_43_method_47_code, exceptionTable := #[], attributes := #[] }
def k25m4 : Method := { name := "newString", desc := "([BII)Ljava/lang/String;", sig := { parameters := [(.array .byte), .int, .int], returnType := some (.object "java/lang/String") }, accessFlags := 9, code := some k25c4 }
def k25c5 : Code := { maxStack := 5, maxLocals := 5, code := jdk_43_method_50_code, exceptionTable := #[], attributes := #[] }
def k25m5 : Method := { name := "inflate", desc := "([BI[BII)V", sig := { parameters := [(.array .byte), .int, (.array .byte), .int, .int], returnType := none }, accessFlags := 9, code := some k25c5 }
/-- java/lang/StringLatin1 -/
def k25 : Class := { plain "java/lang/StringLatin1" (some 0) with
  accessFlags := 48
  interfaces := #[]
  cf := some (fileOf pool25 14 #[.nestMembers #[390, 221]] #[⟨0, 7, 8, #[]⟩, ⟨9, 252, 53, #[]⟩, ⟨9, 90, 91, #[]⟩, ⟨9, 380, 382, #[]⟩, ⟨9, 196, 197, #[]⟩, ⟨9, 17, 27, #[]⟩] 48 4 #[] #[⟨4120, 121, 122, #[]⟩])
  fields := #[⟨"$assertionsDisabled", .boolean, 4120, 0, 0⟩]
  methods := #[k25m0, k25m1, k25m2, k25m3, k25m4, k25m5]
  instanceTypes := #[]
  staticTypes := #[.boolean]
  resolved := Array.replicate 395 none
  statics := none }

def pool26 : Array CpInfo := pool [(9, u "<init>"), (6, .class_ 18), (1, u "java/lang/Object"), (0, u "()V"), (1, .class_ 23), (1, u "jdk/internal/util/ArraysSupport"), (0, u "LOG2_ARRAY_LONG_INDEX_SCALE"), (0, u "I"), (2, u "U"), (0, u "Ljdk/internal/misc/Unsafe;"), (8, u "BIG_ENDIAN"), (0, u "Z"), (8, u "LOG2_BYTE_BIT_SIZE"), (4, u "LOG2_ARRAY_INT_INDEX_SCALE"), (54, u "JLA"), (0, u "Ljdk/internal/access/JavaLangAccess;"), (11, u "LOG2_ARRAY_BOOLEAN_INDEX_SCALE"), (9, u "LOG2_ARRAY_BYTE_INDEX_SCALE"), (5, u "LOG2_ARRAY_CHAR_INDEX_SCALE"), (5, u "LOG2_ARRAY_SHORT_INDEX_SCALE"), (18, u "LOG2_ARRAY_FLOAT_INDEX_SCALE"), (24, u "LOG2_ARRAY_DOUBLE_INDEX_SCALE"), (6, .methodref 195 196), (0, .class_ 197), (0, .nameAndType 198 199), (0, u "java/lang/Math"), (0, u "max"), (0, u "(II)I"), (0, .integer 2147483639), (76, u "T_BOOLEAN"), (2, u "T_CHAR"), (1, u "T_FLOAT"), (1, u "T_DOUBLE"), (1, u "T_BYTE"), (1, u "T_SHORT"), (1, u "T_INT"), (1, u "T_LONG"), (1, u "SOFT_MAX_ARRAY_LENGTH"), (56, u "newLength"), (0, u "(III)I")] 25

def k26m0 : Method := { name := "<init>", desc := "()V", sig := { parameters := [], returnType := none }, accessFlags := 2, code := none }
def k26c1 : Code := { maxStack := 3, maxLocals := 4, code := jdk_48_method_27_code, exceptionTable := #[], attributes := #[] }
def k26m1 : Method := { name := "newLength", desc := "(III)I", sig := { parameters := [.int, .int, .int], returnType := some .int }, accessFlags := 9, code := some k26c1 }
/-- jdk/internal/util/ArraysSupport -/
def k26 : Class := { plain "jdk/internal/util/ArraysSupport" (some 0) with
  accessFlags := 33
  interfaces := #[]
  cf := some (fileOf pool26 21 #[] #[⟨2, 9, 19, #[]⟩, ⟨9, 351, 352, #[]⟩] 33 16 #[] #[⟨24, 28, 29, #[]⟩, ⟨26, 38, 39, #[]⟩, ⟨25, 121, 25, #[]⟩, ⟨25, 131, 25, #[]⟩, ⟨25, 137, 25, #[]⟩, ⟨25, 143, 25, #[]⟩, ⟨25, 53, 25, #[]⟩, ⟨25, 24, 25, #[]⟩, ⟨25, 162, 25, #[]⟩, ⟨25, 187, 25, #[]⟩, ⟨26, 48, 25, #[]⟩, ⟨25, 277, 25, #[]⟩, ⟨25, 280, 25, #[]⟩, ⟨25, 282, 25, #[]⟩, ⟨25, 284, 25, #[]⟩, ⟨25, 286, 25, #[]⟩, ⟨25, 288, 25, #[]⟩, ⟨25, 290, 25, #[]⟩, ⟨25, 292, 25, #[]⟩, ⟨26, 108, 109, #[]⟩, ⟨25, 294, 25, #[]⟩])
  fields := #[⟨"U", (.object "jdk/internal/misc/Unsafe"), 24, 0, 0⟩, ⟨"BIG_ENDIAN", .boolean, 26, 1, 0⟩, ⟨"LOG2_ARRAY_BOOLEAN_INDEX_SCALE", .int, 25, 2, 0⟩, ⟨"LOG2_ARRAY_BYTE_INDEX_SCALE", .int, 25, 3, 0⟩, ⟨"LOG2_ARRAY_CHAR_INDEX_SCALE", .int, 25, 4, 0⟩, ⟨"LOG2_ARRAY_SHORT_INDEX_SCALE", .int, 25, 5, 0⟩, ⟨"LOG2_ARRAY_INT_INDEX_SCALE", .int, 25, 6, 0⟩, ⟨"LOG2_ARRAY_LONG_INDEX_SCALE", .int, 25, 7, 0⟩, ⟨"LOG2_ARRAY_FLOAT_INDEX_SCALE", .int, 25, 8, 0⟩, ⟨"LOG2_ARRAY_DOUBLE_INDEX_SCALE", .int, 25, 9, 0⟩, ⟨"LOG2_BYTE_BIT_SIZE", .int, 26, 10, 0⟩, ⟨"T_BOOLEAN", .int, 25, 11, 0⟩, ⟨"T_CHAR", .int, 25, 12, 0⟩, ⟨"T_FLOAT", .int, 25, 13, 0⟩, ⟨"T_DOUBLE", .int, 25, 14, 0⟩, ⟨"T_BYTE", .int, 25, 15, 0⟩, ⟨"T_SHORT", .int, 25, 16, 0⟩, ⟨"T_INT", .int, 25, 17, 0⟩, ⟨"T_LONG", .int, 25, 18, 0⟩, ⟨"JLA", (.object "jdk/internal/access/JavaLangAccess"), 26, 19, 0⟩, ⟨"SOFT_MAX_ARRAY_LENGTH", .int, 25, 20, 0⟩]
  methods := #[k26m0, k26m1]
  instanceTypes := #[]
  staticTypes := #[(.object "jdk/internal/misc/Unsafe"), .boolean, .int, .int, .int, .int, .int, .int, .int, .int, .int, .int, .int, .int, .int, .int, .int, .int, .int, (.object "jdk/internal/access/JavaLangAccess"), .int]
  resolved := Array.replicate 378 none
  statics := none }

/-- the primitive byte -/
def k27 : Class := { plain "byte" none with kind := .primitive 'B', accessFlags := 0x411 }
/-- [B -/
def k28 : Class := { plain "[B" (some 0) with kind := .array 27 .byte, interfaces := #[20, 2], accessFlags := 1041 }

/-- the primitive char -/
def k29 : Class := { plain "char" none with kind := .primitive 'C', accessFlags := 0x411 }
/-- [C -/
def k30 : Class := { plain "[C" (some 0) with kind := .array 29 .char, interfaces := #[20, 2], accessFlags := 1041 }

/-- the primitive int -/
def k31 : Class := { plain "int" none with kind := .primitive 'I', accessFlags := 0x411 }
/-- [I -/
def k32 : Class := { plain "[I" (some 0) with kind := .array 31 .int, interfaces := #[20, 2], accessFlags := 1041 }

def heap : Heap := #[{ cls := 7, slots := #[.long 0, .int 1, .null, .int 0, .null, .int 0, .int 0], vm := .statics 7 },
  { cls := 8, slots := #[.int 0, .int 8, .int 0, .int 1], vm := .statics 8 },
  { cls := 10, slots := #[.null, .null, .ref 5, .null, .null, .null], vm := .statics 10 },
  { cls := 14, slots := #[.ref 5, .null], vm := .statics 14 },
  { cls := 24, slots := #[.null, .null, .null], vm := .statics 24 },
  { cls := 14, slots := #[.null, .null, .null], vm := .none }]
def classes : Array Class := #[k0, k1, k2, k3, k4, k5, k6, k7, k8, k9, k10, k11, k12, k13, k14, k15, k16, k17, k18, k19, k20, k21, k22, k23, k24, k25, k26, k27, k28, k29, k30, k31, k32]
def interned : List (Array UInt16 × Addr) := []
def slotsUsed : Nat := 25
def theMethod : MethodId := ⟨1, 1⟩
def args0 : Array Value := #[.long 5, .long 7, .long 9, .int 1]
def aboutOver (below : List Frame) : State where
  vm := { classes := classes, interned := interned.toArray }
  heap := heap
  slotsUsed := slotsUsed
  threads := #[{ frames := .invoking theMethod args0 :: below }]
def below0 : List Frame := [.native { method := ⟨0, 0⟩, args := #[] }]
def about1 : State := aboutOver below0
def p0 : Program := .bare "" "" ""
def e0 : Env := launch0.env 0 0 0
theorem w_frames : about1.frames = Frame.invoking theMethod args0 :: below0 := rfl
theorem w_args : argsFit about1.vm theMethod args0 = true := by decide +kernel
theorem w_heap : heapFits about1 = true := by decide +kernel
theorem w_runnable : about1.curStatus? = some .runnable := by decide +kernel
theorem w_alone : about1.alone = true := by decide +kernel
theorem w_named : about1.methodNamed? x = some theMethod := by decide +kernel
theorem w_hears : about1.hears theMethod below0 = true := by decide +kernel
theorem w_ripe : about1.ripe theMethod args0 below0 = true := by decide +kernel
theorem w_running : about1.status = .running := rfl
theorem w_room : about1.hasRoom e0.platform room_1 = true :=
  launch0.hasRoom_least _ room_1 (by decide +kernel) (by decide +kernel) (by decide +kernel) (by decide +kernel) (by decide +kernel) (by decide +kernel)
theorem allAtoms_all (ts : List Jvm.Cond) (a : Array Jvm.Value) (st : Jvm.State) : (allAtoms ts).before a st = ts.all (fun c => c.before a st) := by
  induction ts with
  | nil => rfl
  | cons c t ih =>
    show (Jvm.Cond.and c (allAtoms t)).before a st = _
    rw [Jvm.Cond.before_and, ih, List.all_cons]
def words1 : List Jvm.Cond := Jvm.Cond.code x code maxLocals ret :: tables_1
/-- a 'code' word, met by the world's own term for the bytes: nothing is compared byte by byte -/
theorem code_word {y : MethodName} {bytes : ByteArray} {mx : Nat} {rt : Option FieldType} {a : Array Value} {s : State} {m : MethodId} {meth : Method} {c : Code} (h1 : s.methodNamed? y = some m) (h2 : s.vm.method? m = some meth) (h3 : meth.code = some c) (h4 : c.code = bytes)
    (h5 : (c.maxLocals == mx && c.exceptionTable.isEmpty && decide (c.maxStack ≤ mostOperands) && decide (meth.sig.returnType = rt) && !meth.locks && decide (parseMethodDescriptor y.desc = some meth.sig)) = true) : (Jvm.Cond.code y bytes mx rt).before a s = true := by
  simp only [Bool.and_eq_true, beq_iff_eq, Bool.not_eq_true', decide_eq_true_eq] at h5
  obtain ⟨⟨⟨⟨⟨g1, g2⟩, g3⟩, g4⟩, g5⟩, g6⟩ := h5
  simp [Cond.before, Cond.holds, Cond.value, h1, h2, h3, h4, g1, g2, g3, g4, g5, g6]
def isCode : Jvm.Cond → Bool
  | .code _ _ _ _ => true
  | _ => false
theorem all_split {L : List Jvm.Cond} {P : Jvm.Cond → Bool} (h1 : L.all (fun c => isCode c || P c) = true) (h2 : ∀ c ∈ L.filter isCode, P c = true) : L.all P = true := by
  refine List.all_eq_true.mpr fun c hc => ?_
  have h := List.all_eq_true.mp h1 c hc
  rcases Bool.eq_false_or_eq_true (isCode c) with hi | hi
  · exact h2 c (List.mem_filter.mpr ⟨hc, hi⟩)
  · simpa [hi] using h
theorem w_c0 : (Jvm.Cond.code x code maxLocals ret).before args0 about1 = true := code_word (m := ⟨1, 1⟩) (meth := k1m1) (c := k1c1) (by decide +kernel) rfl rfl rfl (by decide +kernel)
theorem w_c1 : (Jvm.Cond.code ({ cls := "com/example/earnest_orm/earnestorm/mapping/IdentifiersIdentifierPinLaw", name := "fill12", desc := "(III)[C" } : Jvm.MethodName) method_10_code (8 : Nat) (Option.some (Jvm.ClassFile.FieldType.array Jvm.ClassFile.FieldType.char))).before args0 about1 = true := code_word (m := ⟨1, 9⟩) (meth := k1m9) (c := k1c9) (by decide +kernel) rfl rfl rfl (by decide +kernel)
theorem w_c2 : (Jvm.Cond.code ({ cls := "com/example/earnest_orm/earnestorm/mapping/IdentifiersIdentifierPinLaw", name := "even", desc := "(I)C" } : Jvm.MethodName) method_6_code (2 : Nat) (Option.some Jvm.ClassFile.FieldType.char)).before args0 about1 = true := code_word (m := ⟨1, 5⟩) (meth := k1m5) (c := k1c5) (by decide +kernel) rfl rfl rfl (by decide +kernel)
theorem w_c3 : (Jvm.Cond.code ({ cls := "com/example/earnest_orm/earnestorm/mapping/IdentifiersIdentifierPinLaw", name := "codePoint", desc := "(I)I" } : Jvm.MethodName) method_3_code (4 : Nat) (Option.some Jvm.ClassFile.FieldType.int)).before args0 about1 = true := code_word (m := ⟨1, 2⟩) (meth := k1m2) (c := k1c2) (by decide +kernel) rfl rfl rfl (by decide +kernel)
theorem w_c4 : (Jvm.Cond.code ({ cls := "com/example/earnest_orm/earnestorm/mapping/IdentifiersIdentifierPinLaw", name := "odd", desc := "(I)C" } : Jvm.MethodName) method_7_code (2 : Nat) (Option.some Jvm.ClassFile.FieldType.char)).before args0 about1 = true := code_word (m := ⟨1, 6⟩) (meth := k1m6) (c := k1c6) (by decide +kernel) rfl rfl rfl (by decide +kernel)
theorem w_c5 : (Jvm.Cond.code ({ cls := "com/example/earnest_orm/earnestorm/mapping/IdentifiersIdentifierPinLaw", name := "fill24", desc := "(III)[C" } : Jvm.MethodName) method_11_code (8 : Nat) (Option.some (Jvm.ClassFile.FieldType.array Jvm.ClassFile.FieldType.char))).before args0 about1 = true := code_word (m := ⟨1, 10⟩) (meth := k1m10) (c := k1c10) (by decide +kernel) rfl rfl rfl (by decide +kernel)
theorem w_c6 : (Jvm.Cond.code ({ cls := "java/lang/String", name := "<init>", desc := "([C)V" } : Jvm.MethodName) jdk_42_method_3_code (2 : Nat) (Option.none : Option Jvm.ClassFile.FieldType)).before args0 about1 = true := code_word (m := ⟨7, 1⟩) (meth := k7m1) (c := k7c1) (by decide +kernel) rfl rfl rfl (by decide +kernel)
theorem w_c7 : (Jvm.Cond.code ({ cls := "java/lang/String", name := "<init>", desc := "([CIILjava/lang/Void;)V" } : Jvm.MethodName) jdk_42_method_149_code (6 : Nat) (Option.none : Option Jvm.ClassFile.FieldType)).before args0 about1 = true := code_word (m := ⟨7, 12⟩) (meth := k7m12) (c := k7c12) (by decide +kernel) rfl rfl rfl (by decide +kernel)
theorem w_c8 : (Jvm.Cond.code ({ cls := "java/lang/Object", name := "<init>", desc := "()V" } : Jvm.MethodName) object_method_1_code (1 : Nat) (Option.none : Option Jvm.ClassFile.FieldType)).before args0 about1 = true := code_word (m := ⟨0, 0⟩) (meth := k0m0) (c := k0c0) (by decide +kernel) rfl rfl rfl (by decide +kernel)
theorem w_c9 : (Jvm.Cond.code ({ cls := "java/lang/StringUTF16", name := "compress", desc := "([CII)[B" } : Jvm.MethodName) jdk_52_method_16_code (6 : Nat) (Option.some (Jvm.ClassFile.FieldType.array Jvm.ClassFile.FieldType.byte))).before args0 about1 = true := code_word (m := ⟨8, 10⟩) (meth := k8m10) (c := k8c10) (by decide +kernel) rfl rfl rfl (by decide +kernel)
theorem w_c10 : (Jvm.Cond.code ({ cls := "java/lang/StringUTF16", name := "compress", desc := "([CI[BII)I" } : Jvm.MethodName) jdk_52_method_21_code (7 : Nat) (Option.some Jvm.ClassFile.FieldType.int)).before args0 about1 = true := code_word (m := ⟨8, 12⟩) (meth := k8m12) (c := k8c12) (by decide +kernel) rfl rfl rfl (by decide +kernel)
theorem w_c11 : (Jvm.Cond.code ({ cls := "java/lang/StringUTF16", name := "toBytes", desc := "([CII)[B" } : Jvm.MethodName) jdk_52_method_14_code (5 : Nat) (Option.some (Jvm.ClassFile.FieldType.array Jvm.ClassFile.FieldType.byte))).before args0 about1 = true := code_word (m := ⟨8, 8⟩) (meth := k8m8) (c := k8c8) (by decide +kernel) rfl rfl rfl (by decide +kernel)
theorem w_c12 : (Jvm.Cond.code ({ cls := "java/lang/StringUTF16", name := "newBytesFor", desc := "(I)[B" } : Jvm.MethodName) jdk_52_method_2_code (1 : Nat) (Option.some (Jvm.ClassFile.FieldType.array Jvm.ClassFile.FieldType.byte))).before args0 about1 = true := code_word (m := ⟨8, 1⟩) (meth := k8m1) (c := k8c1) (by decide +kernel) rfl rfl rfl (by decide +kernel)
theorem w_c13 : (Jvm.Cond.code ({ cls := "java/lang/StringUTF16", name := "newBytesLength", desc := "(I)I" } : Jvm.MethodName) jdk_52_method_3_code (1 : Nat) (Option.some Jvm.ClassFile.FieldType.int)).before args0 about1 = true := code_word (m := ⟨8, 2⟩) (meth := k8m2) (c := k8c2) (by decide +kernel) rfl rfl rfl (by decide +kernel)
theorem w_c14 : (Jvm.Cond.code ({ cls := "java/lang/StringUTF16", name := "putChar", desc := "([BII)V" } : Jvm.MethodName) jdk_52_method_4_code (3 : Nat) (Option.none : Option Jvm.ClassFile.FieldType)).before args0 about1 = true := code_word (m := ⟨8, 3⟩) (meth := k8m3) (c := k8c3) (by decide +kernel) rfl rfl rfl (by decide +kernel)
theorem w_c15 : (Jvm.Cond.code ({ cls := "java/lang/StringUTF16", name := "getChar", desc := "([BI)C" } : Jvm.MethodName) jdk_52_method_5_code (2 : Nat) (Option.some Jvm.ClassFile.FieldType.char)).before args0 about1 = true := code_word (m := ⟨8, 4⟩) (meth := k8m4) (c := k8c4) (by decide +kernel) rfl rfl rfl (by decide +kernel)
theorem w_c16 : (Jvm.Cond.code ({ cls := "java/lang/StringUTF16", name := "coderFromArrayLen", desc := "([BI)B" } : Jvm.MethodName) jdk_52_method_15_code (2 : Nat) (Option.some Jvm.ClassFile.FieldType.byte)).before args0 about1 = true := code_word (m := ⟨8, 9⟩) (meth := k8m9) (c := k8c9) (by decide +kernel) rfl rfl rfl (by decide +kernel)
theorem w_c17 : (Jvm.Cond.code ({ cls := "com/example/earnest_orm/earnestorm/mapping/Identifiers", name := "identifier", desc := "(Ljava/lang/String;Ljava/lang/String;Ljava/lang/String;)Ljava/lang/String;" } : Jvm.MethodName) prog_5_method_5_code (6 : Nat) (Option.some (Jvm.ClassFile.FieldType.object "java/lang/String"))).before args0 about1 = true := code_word (m := ⟨9, 1⟩) (meth := k9m1) (c := k9c1) (by decide +kernel) rfl rfl rfl (by decide +kernel)
theorem w_c18 : (Jvm.Cond.code ({ cls := "com/example/earnest_orm/earnestorm/mapping/Identifiers", name := "utf8Length", desc := "(Ljava/lang/String;)I" } : Jvm.MethodName) prog_5_method_7_code (1 : Nat) (Option.some Jvm.ClassFile.FieldType.int)).before args0 about1 = true := code_word (m := ⟨9, 3⟩) (meth := k9m3) (c := k9c3) (by decide +kernel) rfl rfl rfl (by decide +kernel)
theorem w_c19 : (Jvm.Cond.code ({ cls := "java/lang/String", name := "getBytes", desc := "(Ljava/nio/charset/Charset;)[B" } : Jvm.MethodName) jdk_42_method_64_code (2 : Nat) (Option.some (Jvm.ClassFile.FieldType.array Jvm.ClassFile.FieldType.byte))).before args0 about1 = true := code_word (m := ⟨7, 9⟩) (meth := k7m9) (c := k7c9) (by decide +kernel) rfl rfl rfl (by decide +kernel)
theorem w_c20 : (Jvm.Cond.code ({ cls := "java/lang/String", name := "coder", desc := "()B" } : Jvm.MethodName) jdk_42_method_152_code (1 : Nat) (Option.some Jvm.ClassFile.FieldType.byte)).before args0 about1 = true := code_word (m := ⟨7, 15⟩) (meth := k7m15) (c := k7c15) (by decide +kernel) rfl rfl rfl (by decide +kernel)
theorem w_c21 : (Jvm.Cond.code ({ cls := "java/lang/String", name := "encode", desc := "(Ljava/nio/charset/Charset;B[B)[B" } : Jvm.MethodName) jdk_42_method_18_code (3 : Nat) (Option.some (Jvm.ClassFile.FieldType.array Jvm.ClassFile.FieldType.byte))).before args0 about1 = true := code_word (m := ⟨7, 2⟩) (meth := k7m2) (c := k7c2) (by decide +kernel) rfl rfl rfl (by decide +kernel)
theorem w_c22 : (Jvm.Cond.code ({ cls := "java/lang/String", name := "encodeUTF8", desc := "(B[BZ)[B" } : Jvm.MethodName) jdk_42_method_46_code (9 : Nat) (Option.some (Jvm.ClassFile.FieldType.array Jvm.ClassFile.FieldType.byte))).before args0 about1 = true := code_word (m := ⟨7, 3⟩) (meth := k7m3) (c := k7c3) (by decide +kernel) rfl rfl rfl (by decide +kernel)
theorem w_c23 : (Jvm.Cond.code ({ cls := "java/lang/String", name := "encodeUTF8_UTF16", desc := "([BZ)[B" } : Jvm.MethodName) jdk_42_method_47_code (9 : Nat) (Option.some (Jvm.ClassFile.FieldType.array Jvm.ClassFile.FieldType.byte))).before args0 about1 = true := code_word (m := ⟨7, 4⟩) (meth := k7m4) (c := k7c4) (by decide +kernel) rfl rfl rfl (by decide +kernel)
theorem w_c24 : (Jvm.Cond.code ({ cls := "java/lang/Character", name := "isSurrogate", desc := "(C)Z" } : Jvm.MethodName) jdk_89_method_16_code (1 : Nat) (Option.some Jvm.ClassFile.FieldType.boolean)).before args0 about1 = true := code_word (m := ⟨15, 5⟩) (meth := k15m5) (c := k15c5) (by decide +kernel) rfl rfl rfl (by decide +kernel)
theorem w_c25 : (Jvm.Cond.code ({ cls := "java/lang/Character", name := "isHighSurrogate", desc := "(C)Z" } : Jvm.MethodName) jdk_89_method_14_code (1 : Nat) (Option.some Jvm.ClassFile.FieldType.boolean)).before args0 about1 = true := code_word (m := ⟨15, 3⟩) (meth := k15m3) (c := k15c3) (by decide +kernel) rfl rfl rfl (by decide +kernel)
theorem w_c26 : (Jvm.Cond.code ({ cls := "java/lang/Character", name := "isLowSurrogate", desc := "(C)Z" } : Jvm.MethodName) jdk_89_method_15_code (1 : Nat) (Option.some Jvm.ClassFile.FieldType.boolean)).before args0 about1 = true := code_word (m := ⟨15, 4⟩) (meth := k15m4) (c := k15c4) (by decide +kernel) rfl rfl rfl (by decide +kernel)
theorem w_c27 : (Jvm.Cond.code ({ cls := "java/lang/Character", name := "toCodePoint", desc := "(CC)I" } : Jvm.MethodName) jdk_89_method_19_code (2 : Nat) (Option.some Jvm.ClassFile.FieldType.int)).before args0 about1 = true := code_word (m := ⟨15, 7⟩) (meth := k15m7) (c := k15c7) (by decide +kernel) rfl rfl rfl (by decide +kernel)
theorem w_c28 : (Jvm.Cond.code ({ cls := "java/util/Arrays", name := "copyOf", desc := "([BI)[B" } : Jvm.MethodName) jdk_65_method_121_code (3 : Nat) (Option.some (Jvm.ClassFile.FieldType.array Jvm.ClassFile.FieldType.byte))).before args0 about1 = true := code_word (m := ⟨16, 1⟩) (meth := k16m1) (c := k16c1) (by decide +kernel) rfl rfl rfl (by decide +kernel)
theorem w_c29 : (Jvm.Cond.code ({ cls := "java/lang/Math", name := "min", desc := "(II)I" } : Jvm.MethodName) jdk_29_method_69_code (2 : Nat) (Option.some Jvm.ClassFile.FieldType.int)).before args0 about1 = true := code_word (m := ⟨17, 2⟩) (meth := k17m2) (c := k17c2) (by decide +kernel) rfl rfl rfl (by decide +kernel)
theorem w_c30 : (Jvm.Cond.code ({ cls := "java/lang/StringCoding", name := "hasNegatives", desc := "([BII)Z" } : Jvm.MethodName) jdk_123_method_2_code (3 : Nat) (Option.some Jvm.ClassFile.FieldType.boolean)).before args0 about1 = true := code_word (m := ⟨19, 1⟩) (meth := k19m1) (c := k19c1) (by decide +kernel) rfl rfl rfl (by decide +kernel)
theorem w_c31 : (Jvm.Cond.code ({ cls := "java/lang/StringCoding", name := "countPositives", desc := "([BII)I" } : Jvm.MethodName) jdk_123_method_3_code (5 : Nat) (Option.some Jvm.ClassFile.FieldType.int)).before args0 about1 = true := code_word (m := ⟨19, 2⟩) (meth := k19m2) (c := k19c2) (by decide +kernel) rfl rfl rfl (by decide +kernel)
theorem w_c32 : (Jvm.Cond.code ({ cls := "java/lang/StringBuilder", name := "<init>", desc := "()V" } : Jvm.MethodName) jdk_67_method_1_code (1 : Nat) (Option.none : Option Jvm.ClassFile.FieldType)).before args0 about1 = true := code_word (m := ⟨23, 0⟩) (meth := k23m0) (c := k23c0) (by decide +kernel) rfl rfl rfl (by decide +kernel)
theorem w_c33 : (Jvm.Cond.code ({ cls := "java/lang/AbstractStringBuilder", name := "<init>", desc := "(I)V" } : Jvm.MethodName) jdk_68_method_2_code (2 : Nat) (Option.none : Option Jvm.ClassFile.FieldType)).before args0 about1 = true := code_word (m := ⟨22, 1⟩) (meth := k22m1) (c := k22c1) (by decide +kernel) rfl rfl rfl (by decide +kernel)
theorem w_c34 : (Jvm.Cond.code ({ cls := "com/example/earnest_orm/earnestorm/mapping/Identifiers", name := "clipped", desc := "(Ljava/lang/String;I)Ljava/lang/String;" } : Jvm.MethodName) prog_5_method_6_code (5 : Nat) (Option.some (Jvm.ClassFile.FieldType.object "java/lang/String"))).before args0 about1 = true := code_word (m := ⟨9, 2⟩) (meth := k9m2) (c := k9c2) (by decide +kernel) rfl rfl rfl (by decide +kernel)
theorem w_c35 : (Jvm.Cond.code ({ cls := "java/lang/String", name := "length", desc := "()I" } : Jvm.MethodName) jdk_42_method_54_code (1 : Nat) (Option.some Jvm.ClassFile.FieldType.int)).before args0 about1 = true := code_word (m := ⟨7, 6⟩) (meth := k7m6) (c := k7c6) (by decide +kernel) rfl rfl rfl (by decide +kernel)
theorem w_c36 : (Jvm.Cond.code ({ cls := "java/lang/String", name := "codePointAt", desc := "(I)I" } : Jvm.MethodName) jdk_42_method_57_code (3 : Nat) (Option.some Jvm.ClassFile.FieldType.int)).before args0 about1 = true := code_word (m := ⟨7, 8⟩) (meth := k7m8) (c := k7c8) (by decide +kernel) rfl rfl rfl (by decide +kernel)
theorem w_c37 : (Jvm.Cond.code ({ cls := "java/lang/String", name := "isLatin1", desc := "()Z" } : Jvm.MethodName) jdk_42_method_154_code (1 : Nat) (Option.some Jvm.ClassFile.FieldType.boolean)).before args0 about1 = true := code_word (m := ⟨7, 16⟩) (meth := k7m16) (c := k7c16) (by decide +kernel) rfl rfl rfl (by decide +kernel)
theorem w_c38 : (Jvm.Cond.code ({ cls := "java/lang/String", name := "checkIndex", desc := "(II)V" } : Jvm.MethodName) jdk_42_method_155_code (2 : Nat) (Option.none : Option Jvm.ClassFile.FieldType)).before args0 about1 = true := code_word (m := ⟨7, 17⟩) (meth := k7m17) (c := k7c17) (by decide +kernel) rfl rfl rfl (by decide +kernel)
theorem w_c39 : (Jvm.Cond.code ({ cls := "jdk/internal/util/Preconditions", name := "checkIndex", desc := "(IILjava/util/function/BiFunction;)I" } : Jvm.MethodName) jdk_41_method_11_code (3 : Nat) (Option.some Jvm.ClassFile.FieldType.int)).before args0 about1 = true := code_word (m := ⟨24, 1⟩) (meth := k24m1) (c := k24c1) (by decide +kernel) rfl rfl rfl (by decide +kernel)
theorem w_c40 : (Jvm.Cond.code ({ cls := "java/lang/StringUTF16", name := "codePointAt", desc := "([BII)I" } : Jvm.MethodName) jdk_52_method_8_code (3 : Nat) (Option.some Jvm.ClassFile.FieldType.int)).before args0 about1 = true := code_word (m := ⟨8, 7⟩) (meth := k8m7) (c := k8c7) (by decide +kernel) rfl rfl rfl (by decide +kernel)
theorem w_c41 : (Jvm.Cond.code ({ cls := "java/lang/StringUTF16", name := "codePointAt", desc := "([BIIZ)I" } : Jvm.MethodName) jdk_52_method_7_code (6 : Nat) (Option.some Jvm.ClassFile.FieldType.int)).before args0 about1 = true := code_word (m := ⟨8, 6⟩) (meth := k8m6) (c := k8c6) (by decide +kernel) rfl rfl rfl (by decide +kernel)
theorem w_c42 : (Jvm.Cond.code ({ cls := "java/lang/Character", name := "toString", desc := "(I)Ljava/lang/String;" } : Jvm.MethodName) jdk_89_method_10_code (1 : Nat) (Option.some (Jvm.ClassFile.FieldType.object "java/lang/String"))).before args0 about1 = true := code_word (m := ⟨15, 0⟩) (meth := k15m0) (c := k15c0) (by decide +kernel) rfl rfl rfl (by decide +kernel)
theorem w_c43 : (Jvm.Cond.code ({ cls := "java/lang/String", name := "valueOfCodePoint", desc := "(I)Ljava/lang/String;" } : Jvm.MethodName) jdk_42_method_159_code (1 : Nat) (Option.some (Jvm.ClassFile.FieldType.object "java/lang/String"))).before args0 about1 = true := code_word (m := ⟨7, 20⟩) (meth := k7m20) (c := k7c20) (by decide +kernel) rfl rfl rfl (by decide +kernel)
theorem w_c44 : (Jvm.Cond.code ({ cls := "java/lang/StringLatin1", name := "canEncode", desc := "(I)Z" } : Jvm.MethodName) jdk_43_method_4_code (1 : Nat) (Option.some Jvm.ClassFile.FieldType.boolean)).before args0 about1 = true := code_word (m := ⟨25, 2⟩) (meth := k25m2) (c := k25c2) (by decide +kernel) rfl rfl rfl (by decide +kernel)
theorem w_c45 : (Jvm.Cond.code ({ cls := "java/lang/Character", name := "isBmpCodePoint", desc := "(I)Z" } : Jvm.MethodName) jdk_89_method_12_code (1 : Nat) (Option.some Jvm.ClassFile.FieldType.boolean)).before args0 about1 = true := code_word (m := ⟨15, 1⟩) (meth := k15m1) (c := k15c1) (by decide +kernel) rfl rfl rfl (by decide +kernel)
theorem w_c46 : (Jvm.Cond.code ({ cls := "java/lang/Character", name := "isSupplementaryCodePoint", desc := "(I)Z" } : Jvm.MethodName) jdk_89_method_13_code (1 : Nat) (Option.some Jvm.ClassFile.FieldType.boolean)).before args0 about1 = true := code_word (m := ⟨15, 2⟩) (meth := k15m2) (c := k15c2) (by decide +kernel) rfl rfl rfl (by decide +kernel)
theorem w_c47 : (Jvm.Cond.code ({ cls := "java/lang/StringUTF16", name := "toBytesSupplementary", desc := "(I)[B" } : Jvm.MethodName) jdk_52_method_25_code (2 : Nat) (Option.some (Jvm.ClassFile.FieldType.array Jvm.ClassFile.FieldType.byte))).before args0 about1 = true := code_word (m := ⟨8, 15⟩) (meth := k8m15) (c := k8c15) (by decide +kernel) rfl rfl rfl (by decide +kernel)
theorem w_c48 : (Jvm.Cond.code ({ cls := "java/lang/Character", name := "highSurrogate", desc := "(I)C" } : Jvm.MethodName) jdk_89_method_28_code (1 : Nat) (Option.some Jvm.ClassFile.FieldType.char)).before args0 about1 = true := code_word (m := ⟨15, 8⟩) (meth := k15m8) (c := k15c8) (by decide +kernel) rfl rfl rfl (by decide +kernel)
theorem w_c49 : (Jvm.Cond.code ({ cls := "java/lang/Character", name := "lowSurrogate", desc := "(I)C" } : Jvm.MethodName) jdk_89_method_29_code (1 : Nat) (Option.some Jvm.ClassFile.FieldType.char)).before args0 about1 = true := code_word (m := ⟨15, 9⟩) (meth := k15m9) (c := k15c9) (by decide +kernel) rfl rfl rfl (by decide +kernel)
theorem w_c50 : (Jvm.Cond.code ({ cls := "java/lang/String", name := "<init>", desc := "([BB)V" } : Jvm.MethodName) jdk_42_method_151_code (3 : Nat) (Option.none : Option Jvm.ClassFile.FieldType)).before args0 about1 = true := code_word (m := ⟨7, 14⟩) (meth := k7m14) (c := k7c14) (by decide +kernel) rfl rfl rfl (by decide +kernel)
theorem w_c51 : (Jvm.Cond.code ({ cls := "java/lang/Character", name := "charCount", desc := "(I)I" } : Jvm.MethodName) jdk_89_method_18_code (1 : Nat) (Option.some Jvm.ClassFile.FieldType.int)).before args0 about1 = true := code_word (m := ⟨15, 6⟩) (meth := k15m6) (c := k15c6) (by decide +kernel) rfl rfl rfl (by decide +kernel)
theorem w_c52 : (Jvm.Cond.code ({ cls := "java/lang/String", name := "substring", desc := "(II)Ljava/lang/String;" } : Jvm.MethodName) jdk_42_method_92_code (5 : Nat) (Option.some (Jvm.ClassFile.FieldType.object "java/lang/String"))).before args0 about1 = true := code_word (m := ⟨7, 10⟩) (meth := k7m10) (c := k7c10) (by decide +kernel) rfl rfl rfl (by decide +kernel)
theorem w_c53 : (Jvm.Cond.code ({ cls := "java/lang/String", name := "checkBoundsBeginEnd", desc := "(III)V" } : Jvm.MethodName) jdk_42_method_158_code (3 : Nat) (Option.none : Option Jvm.ClassFile.FieldType)).before args0 about1 = true := code_word (m := ⟨7, 19⟩) (meth := k7m19) (c := k7c19) (by decide +kernel) rfl rfl rfl (by decide +kernel)
theorem w_c54 : (Jvm.Cond.code ({ cls := "jdk/internal/util/Preconditions", name := "checkFromToIndex", desc := "(IIILjava/util/function/BiFunction;)I" } : Jvm.MethodName) jdk_41_method_12_code (4 : Nat) (Option.some Jvm.ClassFile.FieldType.int)).before args0 about1 = true := code_word (m := ⟨24, 2⟩) (meth := k24m2) (c := k24c2) (by decide +kernel) rfl rfl rfl (by decide +kernel)
theorem w_c55 : (Jvm.Cond.code ({ cls := "java/lang/StringUTF16", name := "newString", desc := "([BII)Ljava/lang/String;" } : Jvm.MethodName) jdk_52_method_69_code (5 : Nat) (Option.some (Jvm.ClassFile.FieldType.object "java/lang/String"))).before args0 about1 = true := code_word (m := ⟨8, 16⟩) (meth := k8m16) (c := k8c16) (by decide +kernel) rfl rfl rfl (by decide +kernel)
theorem w_c56 : (Jvm.Cond.code ({ cls := "java/lang/StringUTF16", name := "compress", desc := "([BII)[B" } : Jvm.MethodName) jdk_52_method_17_code (6 : Nat) (Option.some (Jvm.ClassFile.FieldType.array Jvm.ClassFile.FieldType.byte))).before args0 about1 = true := code_word (m := ⟨8, 11⟩) (meth := k8m11) (c := k8c11) (by decide +kernel) rfl rfl rfl (by decide +kernel)
theorem w_c57 : (Jvm.Cond.code ({ cls := "java/lang/StringUTF16", name := "compress", desc := "([BI[BII)I" } : Jvm.MethodName) jdk_52_method_22_code (7 : Nat) (Option.some Jvm.ClassFile.FieldType.int)).before args0 about1 = true := code_word (m := ⟨8, 13⟩) (meth := k8m13) (c := k8c13) (by decide +kernel) rfl rfl rfl (by decide +kernel)
theorem w_c58 : (Jvm.Cond.code ({ cls := "java/lang/StringUTF16", name := "checkBoundsOffCount", desc := "(II[B)V" } : Jvm.MethodName) jdk_52_method_94_code (3 : Nat) (Option.none : Option Jvm.ClassFile.FieldType)).before args0 about1 = true := code_word (m := ⟨8, 20⟩) (meth := k8m20) (c := k8c20) (by decide +kernel) rfl rfl rfl (by decide +kernel)
theorem w_c59 : (Jvm.Cond.code ({ cls := "java/lang/StringUTF16", name := "length", desc := "([B)I" } : Jvm.MethodName) jdk_52_method_6_code (1 : Nat) (Option.some Jvm.ClassFile.FieldType.int)).before args0 about1 = true := code_word (m := ⟨8, 5⟩) (meth := k8m5) (c := k8c5) (by decide +kernel) rfl rfl rfl (by decide +kernel)
theorem w_c60 : (Jvm.Cond.code ({ cls := "java/lang/String", name := "checkBoundsOffCount", desc := "(III)I" } : Jvm.MethodName) jdk_42_method_157_code (3 : Nat) (Option.some Jvm.ClassFile.FieldType.int)).before args0 about1 = true := code_word (m := ⟨7, 18⟩) (meth := k7m18) (c := k7c18) (by decide +kernel) rfl rfl rfl (by decide +kernel)
theorem w_c61 : (Jvm.Cond.code ({ cls := "jdk/internal/util/Preconditions", name := "checkFromIndexSize", desc := "(IIILjava/util/function/BiFunction;)I" } : Jvm.MethodName) jdk_41_method_13_code (4 : Nat) (Option.some Jvm.ClassFile.FieldType.int)).before args0 about1 = true := code_word (m := ⟨24, 3⟩) (meth := k24m3) (c := k24c3) (by decide +kernel) rfl rfl rfl (by decide +kernel)
theorem w_c62 : (Jvm.Cond.code ({ cls := "java/util/Arrays", name := "copyOfRange", desc := "([BII)[B" } : Jvm.MethodName) jdk_65_method_132_code (3 : Nat) (Option.some (Jvm.ClassFile.FieldType.array Jvm.ClassFile.FieldType.byte))).before args0 about1 = true := code_word (m := ⟨16, 3⟩) (meth := k16m3) (c := k16c3) (by decide +kernel) rfl rfl rfl (by decide +kernel)
theorem w_c63 : (Jvm.Cond.code ({ cls := "java/util/Arrays", name := "copyOfRangeByte", desc := "([BII)[B" } : Jvm.MethodName) jdk_65_method_133_code (5 : Nat) (Option.some (Jvm.ClassFile.FieldType.array Jvm.ClassFile.FieldType.byte))).before args0 about1 = true := code_word (m := ⟨16, 4⟩) (meth := k16m4) (c := k16c4) (by decide +kernel) rfl rfl rfl (by decide +kernel)
theorem w_c64 : (Jvm.Cond.code ({ cls := "java/util/Arrays", name := "checkLength", desc := "(II)V" } : Jvm.MethodName) jdk_65_method_131_code (2 : Nat) (Option.none : Option Jvm.ClassFile.FieldType)).before args0 about1 = true := code_word (m := ⟨16, 2⟩) (meth := k16m2) (c := k16c2) (by decide +kernel) rfl rfl rfl (by decide +kernel)
theorem w_c65 : (Jvm.Cond.code ({ cls := "java/lang/StringBuilder", name := "append", desc := "(Ljava/lang/String;)Ljava/lang/StringBuilder;" } : Jvm.MethodName) jdk_67_method_7_code (2 : Nat) (Option.some (Jvm.ClassFile.FieldType.object "java/lang/StringBuilder"))).before args0 about1 = true := code_word (m := ⟨23, 1⟩) (meth := k23m1) (c := k23c1) (by decide +kernel) rfl rfl rfl (by decide +kernel)
theorem w_c66 : (Jvm.Cond.code ({ cls := "java/lang/AbstractStringBuilder", name := "append", desc := "(Ljava/lang/String;)Ljava/lang/AbstractStringBuilder;" } : Jvm.MethodName) jdk_68_method_22_code (3 : Nat) (Option.some (Jvm.ClassFile.FieldType.object "java/lang/AbstractStringBuilder"))).before args0 about1 = true := code_word (m := ⟨22, 6⟩) (meth := k22m6) (c := k22c6) (by decide +kernel) rfl rfl rfl (by decide +kernel)
theorem w_c67 : (Jvm.Cond.code ({ cls := "java/lang/AbstractStringBuilder", name := "ensureCapacityInternal", desc := "(I)V" } : Jvm.MethodName) jdk_68_method_9_code (3 : Nat) (Option.none : Option Jvm.ClassFile.FieldType)).before args0 about1 = true := code_word (m := ⟨22, 3⟩) (meth := k22m3) (c := k22c3) (by decide +kernel) rfl rfl rfl (by decide +kernel)
theorem w_c68 : (Jvm.Cond.code ({ cls := "java/lang/AbstractStringBuilder", name := "putStringAt", desc := "(ILjava/lang/String;)V" } : Jvm.MethodName) jdk_68_method_73_code (3 : Nat) (Option.none : Option Jvm.ClassFile.FieldType)).before args0 about1 = true := code_word (m := ⟨22, 10⟩) (meth := k22m10) (c := k22c10) (by decide +kernel) rfl rfl rfl (by decide +kernel)
theorem w_c69 : (Jvm.Cond.code ({ cls := "java/lang/AbstractStringBuilder", name := "inflateIfNeededFor", desc := "(Ljava/lang/String;)V" } : Jvm.MethodName) jdk_68_method_71_code (2 : Nat) (Option.none : Option Jvm.ClassFile.FieldType)).before args0 about1 = true := code_word (m := ⟨22, 9⟩) (meth := k22m9) (c := k22c9) (by decide +kernel) rfl rfl rfl (by decide +kernel)
theorem w_c70 : (Jvm.Cond.code ({ cls := "java/lang/AbstractStringBuilder", name := "inflate", desc := "()V" } : Jvm.MethodName) jdk_68_method_11_code (2 : Nat) (Option.none : Option Jvm.ClassFile.FieldType)).before args0 about1 = true := code_word (m := ⟨22, 5⟩) (meth := k22m5) (c := k22c5) (by decide +kernel) rfl rfl rfl (by decide +kernel)
theorem w_c71 : (Jvm.Cond.code ({ cls := "java/lang/AbstractStringBuilder", name := "isLatin1", desc := "()Z" } : Jvm.MethodName) jdk_68_method_68_code (1 : Nat) (Option.some Jvm.ClassFile.FieldType.boolean)).before args0 about1 = true := code_word (m := ⟨22, 8⟩) (meth := k22m8) (c := k22c8) (by decide +kernel) rfl rfl rfl (by decide +kernel)
theorem w_c72 : (Jvm.Cond.code ({ cls := "java/lang/StringLatin1", name := "inflate", desc := "([BI[BII)V" } : Jvm.MethodName) jdk_43_method_50_code (5 : Nat) (Option.none : Option Jvm.ClassFile.FieldType)).before args0 about1 = true := code_word (m := ⟨25, 5⟩) (meth := k25m5) (c := k25c5) (by decide +kernel) rfl rfl rfl (by decide +kernel)
theorem w_c73 : (Jvm.Cond.code ({ cls := "java/lang/StringUTF16", name := "inflate", desc := "([BI[BII)V" } : Jvm.MethodName) jdk_52_method_86_code (6 : Nat) (Option.none : Option Jvm.ClassFile.FieldType)).before args0 about1 = true := code_word (m := ⟨8, 18⟩) (meth := k8m18) (c := k8c18) (by decide +kernel) rfl rfl rfl (by decide +kernel)
theorem w_c74 : (Jvm.Cond.code ({ cls := "java/lang/String", name := "getBytes", desc := "([BIB)V" } : Jvm.MethodName) jdk_42_method_147_code (4 : Nat) (Option.none : Option Jvm.ClassFile.FieldType)).before args0 about1 = true := code_word (m := ⟨7, 11⟩) (meth := k7m11) (c := k7c11) (by decide +kernel) rfl rfl rfl (by decide +kernel)
theorem w_c75 : (Jvm.Cond.code ({ cls := "java/lang/StringLatin1", name := "toBytes", desc := "(C)[B" } : Jvm.MethodName) jdk_43_method_46_code (1 : Nat) (Option.some (Jvm.ClassFile.FieldType.array Jvm.ClassFile.FieldType.byte))).before args0 about1 = true := code_word (m := ⟨25, 3⟩) (meth := k25m3) (c := k25c3) (by decide +kernel) rfl rfl rfl (by decide +kernel)
theorem w_c76 : (Jvm.Cond.code ({ cls := "java/lang/StringLatin1", name := "newString", desc := "([BII)Ljava/lang/String;" } : Jvm.MethodName) jdk_43_method_47_code (3 : Nat) (Option.some (Jvm.ClassFile.FieldType.object "java/lang/String"))).before args0 about1 = true := code_word (m := ⟨25, 4⟩) (meth := k25m4) (c := k25c4) (by decide +kernel) rfl rfl rfl (by decide +kernel)
theorem w_c77 : (Jvm.Cond.code ({ cls := "java/lang/AbstractStringBuilder", name := "newCapacity", desc := "(I)I" } : Jvm.MethodName) jdk_68_method_10_code (6 : Nat) (Option.some Jvm.ClassFile.FieldType.int)).before args0 about1 = true := code_word (m := ⟨22, 4⟩) (meth := k22m4) (c := k22c4) (by decide +kernel) rfl rfl rfl (by decide +kernel)
theorem w_c78 : (Jvm.Cond.code ({ cls := "jdk/internal/util/ArraysSupport", name := "newLength", desc := "(III)I" } : Jvm.MethodName) jdk_48_method_27_code (4 : Nat) (Option.some Jvm.ClassFile.FieldType.int)).before args0 about1 = true := code_word (m := ⟨26, 1⟩) (meth := k26m1) (c := k26c1) (by decide +kernel) rfl rfl rfl (by decide +kernel)
theorem w_c79 : (Jvm.Cond.code ({ cls := "java/lang/Math", name := "max", desc := "(II)I" } : Jvm.MethodName) jdk_29_method_65_code (2 : Nat) (Option.some Jvm.ClassFile.FieldType.int)).before args0 about1 = true := code_word (m := ⟨17, 1⟩) (meth := k17m1) (c := k17c1) (by decide +kernel) rfl rfl rfl (by decide +kernel)
theorem w_c80 : (Jvm.Cond.code ({ cls := "java/lang/StringBuilder", name := "toString", desc := "()Ljava/lang/String;" } : Jvm.MethodName) jdk_67_method_42_code (1 : Nat) (Option.some (Jvm.ClassFile.FieldType.object "java/lang/String"))).before args0 about1 = true := code_word (m := ⟨23, 2⟩) (meth := k23m2) (c := k23c2) (by decide +kernel) rfl rfl rfl (by decide +kernel)
theorem w_c81 : (Jvm.Cond.code ({ cls := "java/lang/String", name := "<init>", desc := "(Ljava/lang/StringBuilder;)V" } : Jvm.MethodName) jdk_42_method_53_code (2 : Nat) (Option.none : Option Jvm.ClassFile.FieldType)).before args0 about1 = true := code_word (m := ⟨7, 5⟩) (meth := k7m5) (c := k7c5) (by decide +kernel) rfl rfl rfl (by decide +kernel)
theorem w_c82 : (Jvm.Cond.code ({ cls := "java/lang/String", name := "<init>", desc := "(Ljava/lang/AbstractStringBuilder;Ljava/lang/Void;)V" } : Jvm.MethodName) jdk_42_method_150_code (5 : Nat) (Option.none : Option Jvm.ClassFile.FieldType)).before args0 about1 = true := code_word (m := ⟨7, 13⟩) (meth := k7m13) (c := k7c13) (by decide +kernel) rfl rfl rfl (by decide +kernel)
theorem w_c83 : (Jvm.Cond.code ({ cls := "java/lang/AbstractStringBuilder", name := "getValue", desc := "()[B" } : Jvm.MethodName) jdk_68_method_64_code (1 : Nat) (Option.some (Jvm.ClassFile.FieldType.array Jvm.ClassFile.FieldType.byte))).before args0 about1 = true := code_word (m := ⟨22, 7⟩) (meth := k22m7) (c := k22c7) (by decide +kernel) rfl rfl rfl (by decide +kernel)
theorem w_c84 : (Jvm.Cond.code ({ cls := "java/lang/StringBuilder", name := "length", desc := "()I" } : Jvm.MethodName) jdk_67_method_93_code (1 : Nat) (Option.some Jvm.ClassFile.FieldType.int)).before args0 about1 = true := code_word (m := ⟨23, 3⟩) (meth := k23m3) (c := k23c3) (by decide +kernel) rfl rfl rfl (by decide +kernel)
theorem w_c85 : (Jvm.Cond.code ({ cls := "java/lang/AbstractStringBuilder", name := "length", desc := "()I" } : Jvm.MethodName) jdk_68_method_6_code (1 : Nat) (Option.some Jvm.ClassFile.FieldType.int)).before args0 about1 = true := code_word (m := ⟨22, 2⟩) (meth := k22m2) (c := k22c2) (by decide +kernel) rfl rfl rfl (by decide +kernel)
theorem w_c86 : (Jvm.Cond.code ({ cls := "com/example/earnest_orm/earnestorm/mapping/IdentifiersIdentifierPinLaw", name := "bytes", desc := "(IIII)I" } : Jvm.MethodName) method_8_code (4 : Nat) (Option.some Jvm.ClassFile.FieldType.int)).before args0 about1 = true := code_word (m := ⟨1, 7⟩) (meth := k1m7) (c := k1c7) (by decide +kernel) rfl rfl rfl (by decide +kernel)
theorem w_c87 : (Jvm.Cond.code ({ cls := "com/example/earnest_orm/earnestorm/mapping/IdentifiersIdentifierPinLaw", name := "units", desc := "(I)I" } : Jvm.MethodName) method_5_code (1 : Nat) (Option.some Jvm.ClassFile.FieldType.int)).before args0 about1 = true := code_word (m := ⟨1, 4⟩) (meth := k1m4) (c := k1c4) (by decide +kernel) rfl rfl rfl (by decide +kernel)
theorem w_c88 : (Jvm.Cond.code ({ cls := "com/example/earnest_orm/earnestorm/mapping/IdentifiersIdentifierPinLaw", name := "width", desc := "(I)I" } : Jvm.MethodName) method_4_code (1 : Nat) (Option.some Jvm.ClassFile.FieldType.int)).before args0 about1 = true := code_word (m := ⟨1, 3⟩) (meth := k1m3) (c := k1c3) (by decide +kernel) rfl rfl rfl (by decide +kernel)
theorem w_c89 : (Jvm.Cond.code ({ cls := "com/example/earnest_orm/earnestorm/mapping/IdentifiersIdentifierPinLaw", name := "keep", desc := "(IIIII)I" } : Jvm.MethodName) method_9_code (6 : Nat) (Option.some Jvm.ClassFile.FieldType.int)).before args0 about1 = true := code_word (m := ⟨1, 8⟩) (meth := k1m8) (c := k1c8) (by decide +kernel) rfl rfl rfl (by decide +kernel)
theorem w_c90 : (Jvm.Cond.code ({ cls := "com/example/earnest_orm/earnestorm/mapping/IdentifiersIdentifierPinLaw", name := "agrees", desc := "(Ljava/lang/String;I[CI)Z" } : Jvm.MethodName) method_12_code (4 : Nat) (Option.some Jvm.ClassFile.FieldType.boolean)).before args0 about1 = true := code_word (m := ⟨1, 11⟩) (meth := k1m11) (c := k1c11) (by decide +kernel) rfl rfl rfl (by decide +kernel)
theorem w_c91 : (Jvm.Cond.code ({ cls := "java/lang/String", name := "charAt", desc := "(I)C" } : Jvm.MethodName) jdk_42_method_56_code (2 : Nat) (Option.some Jvm.ClassFile.FieldType.char)).before args0 about1 = true := code_word (m := ⟨7, 7⟩) (meth := k7m7) (c := k7c7) (by decide +kernel) rfl rfl rfl (by decide +kernel)
theorem w_c92 : (Jvm.Cond.code ({ cls := "java/lang/StringUTF16", name := "charAt", desc := "([BI)C" } : Jvm.MethodName) jdk_52_method_83_code (2 : Nat) (Option.some Jvm.ClassFile.FieldType.char)).before args0 about1 = true := code_word (m := ⟨8, 17⟩) (meth := k8m17) (c := k8c17) (by decide +kernel) rfl rfl rfl (by decide +kernel)
theorem w_c93 : (Jvm.Cond.code ({ cls := "java/lang/StringUTF16", name := "checkIndex", desc := "(I[B)V" } : Jvm.MethodName) jdk_52_method_91_code (2 : Nat) (Option.none : Option Jvm.ClassFile.FieldType)).before args0 about1 = true := code_word (m := ⟨8, 19⟩) (meth := k8m19) (c := k8c19) (by decide +kernel) rfl rfl rfl (by decide +kernel)
theorem w_c94 : (Jvm.Cond.code ({ cls := "java/lang/StringUTF16", name := "toBytes", desc := "(C)[B" } : Jvm.MethodName) jdk_52_method_24_code (2 : Nat) (Option.some (Jvm.ClassFile.FieldType.array Jvm.ClassFile.FieldType.byte))).before args0 about1 = true := code_word (m := ⟨8, 14⟩) (meth := k8m14) (c := k8c14) (by decide +kernel) rfl rfl rfl (by decide +kernel)
theorem w_c95 : (Jvm.Cond.code ({ cls := "java/lang/StringLatin1", name := "charAt", desc := "([BI)C" } : Jvm.MethodName) jdk_43_method_2_code (2 : Nat) (Option.some Jvm.ClassFile.FieldType.char)).before args0 about1 = true := code_word (m := ⟨25, 1⟩) (meth := k25m1) (c := k25c1) (by decide +kernel) rfl rfl rfl (by decide +kernel)
def codes1 : List Jvm.Cond := [Jvm.Cond.code x code maxLocals ret, Jvm.Cond.code ({ cls := "com/example/earnest_orm/earnestorm/mapping/IdentifiersIdentifierPinLaw", name := "fill12", desc := "(III)[C" } : Jvm.MethodName) method_10_code (8 : Nat) (Option.some (Jvm.ClassFile.FieldType.array Jvm.ClassFile.FieldType.char)), Jvm.Cond.code ({ cls := "com/example/earnest_orm/earnestorm/mapping/IdentifiersIdentifierPinLaw", name := "even", desc := "(I)C" } : Jvm.MethodName) method_6_code (2 : Nat) (Option.some Jvm.ClassFile.FieldType.char), Jvm.Cond.code ({ cls := "com/example/earnest_orm/earnestorm/mapping/IdentifiersIdentifierPinLaw", name := "codePoint", desc := "(I)I" } : Jvm.MethodName) method_3_code (4 : Nat) (Option.some Jvm.ClassFile.FieldType.int), Jvm.Cond.code ({ cls := "com/example/earnest_orm/earnestorm/mapping/IdentifiersIdentifierPinLaw", name := "odd", desc := "(I)C" } : Jvm.MethodName) method_7_code (2 : Nat) (Option.some Jvm.ClassFile.FieldType.char), Jvm.Cond.code ({ cls := "com/example/earnest_orm/earnestorm/mapping/IdentifiersIdentifierPinLaw", name := "fill24", desc := "(III)[C" } : Jvm.MethodName) method_11_code (8 : Nat) (Option.some (Jvm.ClassFile.FieldType.array Jvm.ClassFile.FieldType.char)), Jvm.Cond.code ({ cls := "java/lang/String", name := "<init>", desc := "([C)V" } : Jvm.MethodName) jdk_42_method_3_code (2 : Nat) (Option.none : Option Jvm.ClassFile.FieldType), Jvm.Cond.code ({ cls := "java/lang/String", name := "<init>", desc := "([CIILjava/lang/Void;)V" } : Jvm.MethodName) jdk_42_method_149_code (6 : Nat) (Option.none : Option Jvm.ClassFile.FieldType), Jvm.Cond.code ({ cls := "java/lang/Object", name := "<init>", desc := "()V" } : Jvm.MethodName) object_method_1_code (1 : Nat) (Option.none : Option Jvm.ClassFile.FieldType), Jvm.Cond.code ({ cls := "java/lang/StringUTF16", name := "compress", desc := "([CII)[B" } : Jvm.MethodName) jdk_52_method_16_code (6 : Nat) (Option.some (Jvm.ClassFile.FieldType.array Jvm.ClassFile.FieldType.byte)), Jvm.Cond.code ({ cls := "java/lang/StringUTF16", name := "compress", desc := "([CI[BII)I" } : Jvm.MethodName) jdk_52_method_21_code (7 : Nat) (Option.some Jvm.ClassFile.FieldType.int), Jvm.Cond.code ({ cls := "java/lang/StringUTF16", name := "toBytes", desc := "([CII)[B" } : Jvm.MethodName) jdk_52_method_14_code (5 : Nat) (Option.some (Jvm.ClassFile.FieldType.array Jvm.ClassFile.FieldType.byte)), Jvm.Cond.code ({ cls := "java/lang/StringUTF16", name := "newBytesFor", desc := "(I)[B" } : Jvm.MethodName) jdk_52_method_2_code (1 : Nat) (Option.some (Jvm.ClassFile.FieldType.array Jvm.ClassFile.FieldType.byte)), Jvm.Cond.code ({ cls := "java/lang/StringUTF16", name := "newBytesLength", desc := "(I)I" } : Jvm.MethodName) jdk_52_method_3_code (1 : Nat) (Option.some Jvm.ClassFile.FieldType.int), Jvm.Cond.code ({ cls := "java/lang/StringUTF16", name := "putChar", desc := "([BII)V" } : Jvm.MethodName) jdk_52_method_4_code (3 : Nat) (Option.none : Option Jvm.ClassFile.FieldType), Jvm.Cond.code ({ cls := "java/lang/StringUTF16", name := "getChar", desc := "([BI)C" } : Jvm.MethodName) jdk_52_method_5_code (2 : Nat) (Option.some Jvm.ClassFile.FieldType.char), Jvm.Cond.code ({ cls := "java/lang/StringUTF16", name := "coderFromArrayLen", desc := "([BI)B" } : Jvm.MethodName) jdk_52_method_15_code (2 : Nat) (Option.some Jvm.ClassFile.FieldType.byte), Jvm.Cond.code ({ cls := "com/example/earnest_orm/earnestorm/mapping/Identifiers", name := "identifier", desc := "(Ljava/lang/String;Ljava/lang/String;Ljava/lang/String;)Ljava/lang/String;" } : Jvm.MethodName) prog_5_method_5_code (6 : Nat) (Option.some (Jvm.ClassFile.FieldType.object "java/lang/String")), Jvm.Cond.code ({ cls := "com/example/earnest_orm/earnestorm/mapping/Identifiers", name := "utf8Length", desc := "(Ljava/lang/String;)I" } : Jvm.MethodName) prog_5_method_7_code (1 : Nat) (Option.some Jvm.ClassFile.FieldType.int), Jvm.Cond.code ({ cls := "java/lang/String", name := "getBytes", desc := "(Ljava/nio/charset/Charset;)[B" } : Jvm.MethodName) jdk_42_method_64_code (2 : Nat) (Option.some (Jvm.ClassFile.FieldType.array Jvm.ClassFile.FieldType.byte)), Jvm.Cond.code ({ cls := "java/lang/String", name := "coder", desc := "()B" } : Jvm.MethodName) jdk_42_method_152_code (1 : Nat) (Option.some Jvm.ClassFile.FieldType.byte), Jvm.Cond.code ({ cls := "java/lang/String", name := "encode", desc := "(Ljava/nio/charset/Charset;B[B)[B" } : Jvm.MethodName) jdk_42_method_18_code (3 : Nat) (Option.some (Jvm.ClassFile.FieldType.array Jvm.ClassFile.FieldType.byte)), Jvm.Cond.code ({ cls := "java/lang/String", name := "encodeUTF8", desc := "(B[BZ)[B" } : Jvm.MethodName) jdk_42_method_46_code (9 : Nat) (Option.some (Jvm.ClassFile.FieldType.array Jvm.ClassFile.FieldType.byte)), Jvm.Cond.code ({ cls := "java/lang/String", name := "encodeUTF8_UTF16", desc := "([BZ)[B" } : Jvm.MethodName) jdk_42_method_47_code (9 : Nat) (Option.some (Jvm.ClassFile.FieldType.array Jvm.ClassFile.FieldType.byte)), Jvm.Cond.code ({ cls := "java/lang/Character", name := "isSurrogate", desc := "(C)Z" } : Jvm.MethodName) jdk_89_method_16_code (1 : Nat) (Option.some Jvm.ClassFile.FieldType.boolean), Jvm.Cond.code ({ cls := "java/lang/Character", name := "isHighSurrogate", desc := "(C)Z" } : Jvm.MethodName) jdk_89_method_14_code (1 : Nat) (Option.some Jvm.ClassFile.FieldType.boolean), Jvm.Cond.code ({ cls := "java/lang/Character", name := "isLowSurrogate", desc := "(C)Z" } : Jvm.MethodName) jdk_89_method_15_code (1 : Nat) (Option.some Jvm.ClassFile.FieldType.boolean), Jvm.Cond.code ({ cls := "java/lang/Character", name := "toCodePoint", desc := "(CC)I" } : Jvm.MethodName) jdk_89_method_19_code (2 : Nat) (Option.some Jvm.ClassFile.FieldType.int), Jvm.Cond.code ({ cls := "java/util/Arrays", name := "copyOf", desc := "([BI)[B" } : Jvm.MethodName) jdk_65_method_121_code (3 : Nat) (Option.some (Jvm.ClassFile.FieldType.array Jvm.ClassFile.FieldType.byte)), Jvm.Cond.code ({ cls := "java/lang/Math", name := "min", desc := "(II)I" } : Jvm.MethodName) jdk_29_method_69_code (2 : Nat) (Option.some Jvm.ClassFile.FieldType.int), Jvm.Cond.code ({ cls := "java/lang/StringCoding", name := "hasNegatives", desc := "([BII)Z" } : Jvm.MethodName) jdk_123_method_2_code (3 : Nat) (Option.some Jvm.ClassFile.FieldType.boolean), Jvm.Cond.code ({ cls := "java/lang/StringCoding", name := "countPositives", desc := "([BII)I" } : Jvm.MethodName) jdk_123_method_3_code (5 : Nat) (Option.some Jvm.ClassFile.FieldType.int), Jvm.Cond.code ({ cls := "java/lang/StringBuilder", name := "<init>", desc := "()V" } : Jvm.MethodName) jdk_67_method_1_code (1 : Nat) (Option.none : Option Jvm.ClassFile.FieldType), Jvm.Cond.code ({ cls := "java/lang/AbstractStringBuilder", name := "<init>", desc := "(I)V" } : Jvm.MethodName) jdk_68_method_2_code (2 : Nat) (Option.none : Option Jvm.ClassFile.FieldType), Jvm.Cond.code ({ cls := "com/example/earnest_orm/earnestorm/mapping/Identifiers", name := "clipped", desc := "(Ljava/lang/String;I)Ljava/lang/String;" } : Jvm.MethodName) prog_5_method_6_code (5 : Nat) (Option.some (Jvm.ClassFile.FieldType.object "java/lang/String")), Jvm.Cond.code ({ cls := "java/lang/String", name := "length", desc := "()I" } : Jvm.MethodName) jdk_42_method_54_code (1 : Nat) (Option.some Jvm.ClassFile.FieldType.int), Jvm.Cond.code ({ cls := "java/lang/String", name := "codePointAt", desc := "(I)I" } : Jvm.MethodName) jdk_42_method_57_code (3 : Nat) (Option.some Jvm.ClassFile.FieldType.int), Jvm.Cond.code ({ cls := "java/lang/String", name := "isLatin1", desc := "()Z" } : Jvm.MethodName) jdk_42_method_154_code (1 : Nat) (Option.some Jvm.ClassFile.FieldType.boolean), Jvm.Cond.code ({ cls := "java/lang/String", name := "checkIndex", desc := "(II)V" } : Jvm.MethodName) jdk_42_method_155_code (2 : Nat) (Option.none : Option Jvm.ClassFile.FieldType), Jvm.Cond.code ({ cls := "jdk/internal/util/Preconditions", name := "checkIndex", desc := "(IILjava/util/function/BiFunction;)I" } : Jvm.MethodName) jdk_41_method_11_code (3 : Nat) (Option.some Jvm.ClassFile.FieldType.int), Jvm.Cond.code ({ cls := "java/lang/StringUTF16", name := "codePointAt", desc := "([BII)I" } : Jvm.MethodName) jdk_52_method_8_code (3 : Nat) (Option.some Jvm.ClassFile.FieldType.int), Jvm.Cond.code ({ cls := "java/lang/StringUTF16", name := "codePointAt", desc := "([BIIZ)I" } : Jvm.MethodName) jdk_52_method_7_code (6 : Nat) (Option.some Jvm.ClassFile.FieldType.int), Jvm.Cond.code ({ cls := "java/lang/Character", name := "toString", desc := "(I)Ljava/lang/String;" } : Jvm.MethodName) jdk_89_method_10_code (1 : Nat) (Option.some (Jvm.ClassFile.FieldType.object "java/lang/String")), Jvm.Cond.code ({ cls := "java/lang/String", name := "valueOfCodePoint", desc := "(I)Ljava/lang/String;" } : Jvm.MethodName) jdk_42_method_159_code (1 : Nat) (Option.some (Jvm.ClassFile.FieldType.object "java/lang/String")), Jvm.Cond.code ({ cls := "java/lang/StringLatin1", name := "canEncode", desc := "(I)Z" } : Jvm.MethodName) jdk_43_method_4_code (1 : Nat) (Option.some Jvm.ClassFile.FieldType.boolean), Jvm.Cond.code ({ cls := "java/lang/Character", name := "isBmpCodePoint", desc := "(I)Z" } : Jvm.MethodName) jdk_89_method_12_code (1 : Nat) (Option.some Jvm.ClassFile.FieldType.boolean), Jvm.Cond.code ({ cls := "java/lang/Character", name := "isSupplementaryCodePoint", desc := "(I)Z" } : Jvm.MethodName) jdk_89_method_13_code (1 : Nat) (Option.some Jvm.ClassFile.FieldType.boolean), Jvm.Cond.code ({ cls := "java/lang/StringUTF16", name := "toBytesSupplementary", desc := "(I)[B" } : Jvm.MethodName) jdk_52_method_25_code (2 : Nat) (Option.some (Jvm.ClassFile.FieldType.array Jvm.ClassFile.FieldType.byte)), Jvm.Cond.code ({ cls := "java/lang/Character", name := "highSurrogate", desc := "(I)C" } : Jvm.MethodName) jdk_89_method_28_code (1 : Nat) (Option.some Jvm.ClassFile.FieldType.char), Jvm.Cond.code ({ cls := "java/lang/Character", name := "lowSurrogate", desc := "(I)C" } : Jvm.MethodName) jdk_89_method_29_code (1 : Nat) (Option.some Jvm.ClassFile.FieldType.char), Jvm.Cond.code ({ cls := "java/lang/String", name := "<init>", desc := "([BB)V" } : Jvm.MethodName) jdk_42_method_151_code (3 : Nat) (Option.none : Option Jvm.ClassFile.FieldType), Jvm.Cond.code ({ cls := "java/lang/Character", name := "charCount", desc := "(I)I" } : Jvm.MethodName) jdk_89_method_18_code (1 : Nat) (Option.some Jvm.ClassFile.FieldType.int), Jvm.Cond.code ({ cls := "java/lang/String", name := "substring", desc := "(II)Ljava/lang/String;" } : Jvm.MethodName) jdk_42_method_92_code (5 : Nat) (Option.some (Jvm.ClassFile.FieldType.object "java/lang/String")), Jvm.Cond.code ({ cls := "java/lang/String", name := "checkBoundsBeginEnd", desc := "(III)V" } : Jvm.MethodName) jdk_42_method_158_code (3 : Nat) (Option.none : Option Jvm.ClassFile.FieldType), Jvm.Cond.code ({ cls := "jdk/internal/util/Preconditions", name := "checkFromToIndex", desc := "(IIILjava/util/function/BiFunction;)I" } : Jvm.MethodName) jdk_41_method_12_code (4 : Nat) (Option.some Jvm.ClassFile.FieldType.int), Jvm.Cond.code ({ cls := "java/lang/StringUTF16", name := "newString", desc := "([BII)Ljava/lang/String;" } : Jvm.MethodName) jdk_52_method_69_code (5 : Nat) (Option.some (Jvm.ClassFile.FieldType.object "java/lang/String")), Jvm.Cond.code ({ cls := "java/lang/StringUTF16", name := "compress", desc := "([BII)[B" } : Jvm.MethodName) jdk_52_method_17_code (6 : Nat) (Option.some (Jvm.ClassFile.FieldType.array Jvm.ClassFile.FieldType.byte)), Jvm.Cond.code ({ cls := "java/lang/StringUTF16", name := "compress", desc := "([BI[BII)I" } : Jvm.MethodName) jdk_52_method_22_code (7 : Nat) (Option.some Jvm.ClassFile.FieldType.int), Jvm.Cond.code ({ cls := "java/lang/StringUTF16", name := "checkBoundsOffCount", desc := "(II[B)V" } : Jvm.MethodName) jdk_52_method_94_code (3 : Nat) (Option.none : Option Jvm.ClassFile.FieldType), Jvm.Cond.code ({ cls := "java/lang/StringUTF16", name := "length", desc := "([B)I" } : Jvm.MethodName) jdk_52_method_6_code (1 : Nat) (Option.some Jvm.ClassFile.FieldType.int), Jvm.Cond.code ({ cls := "java/lang/String", name := "checkBoundsOffCount", desc := "(III)I" } : Jvm.MethodName) jdk_42_method_157_code (3 : Nat) (Option.some Jvm.ClassFile.FieldType.int), Jvm.Cond.code ({ cls := "jdk/internal/util/Preconditions", name := "checkFromIndexSize", desc := "(IIILjava/util/function/BiFunction;)I" } : Jvm.MethodName) jdk_41_method_13_code (4 : Nat) (Option.some Jvm.ClassFile.FieldType.int), Jvm.Cond.code ({ cls := "java/util/Arrays", name := "copyOfRange", desc := "([BII)[B" } : Jvm.MethodName) jdk_65_method_132_code (3 : Nat) (Option.some (Jvm.ClassFile.FieldType.array Jvm.ClassFile.FieldType.byte)), Jvm.Cond.code ({ cls := "java/util/Arrays", name := "copyOfRangeByte", desc := "([BII)[B" } : Jvm.MethodName) jdk_65_method_133_code (5 : Nat) (Option.some (Jvm.ClassFile.FieldType.array Jvm.ClassFile.FieldType.byte)), Jvm.Cond.code ({ cls := "java/util/Arrays", name := "checkLength", desc := "(II)V" } : Jvm.MethodName) jdk_65_method_131_code (2 : Nat) (Option.none : Option Jvm.ClassFile.FieldType), Jvm.Cond.code ({ cls := "java/lang/StringBuilder", name := "append", desc := "(Ljava/lang/String;)Ljava/lang/StringBuilder;" } : Jvm.MethodName) jdk_67_method_7_code (2 : Nat) (Option.some (Jvm.ClassFile.FieldType.object "java/lang/StringBuilder")), Jvm.Cond.code ({ cls := "java/lang/AbstractStringBuilder", name := "append", desc := "(Ljava/lang/String;)Ljava/lang/AbstractStringBuilder;" } : Jvm.MethodName) jdk_68_method_22_code (3 : Nat) (Option.some (Jvm.ClassFile.FieldType.object "java/lang/AbstractStringBuilder")), Jvm.Cond.code ({ cls := "java/lang/AbstractStringBuilder", name := "ensureCapacityInternal", desc := "(I)V" } : Jvm.MethodName) jdk_68_method_9_code (3 : Nat) (Option.none : Option Jvm.ClassFile.FieldType), Jvm.Cond.code ({ cls := "java/lang/AbstractStringBuilder", name := "putStringAt", desc := "(ILjava/lang/String;)V" } : Jvm.MethodName) jdk_68_method_73_code (3 : Nat) (Option.none : Option Jvm.ClassFile.FieldType), Jvm.Cond.code ({ cls := "java/lang/AbstractStringBuilder", name := "inflateIfNeededFor", desc := "(Ljava/lang/String;)V" } : Jvm.MethodName) jdk_68_method_71_code (2 : Nat) (Option.none : Option Jvm.ClassFile.FieldType), Jvm.Cond.code ({ cls := "java/lang/AbstractStringBuilder", name := "inflate", desc := "()V" } : Jvm.MethodName) jdk_68_method_11_code (2 : Nat) (Option.none : Option Jvm.ClassFile.FieldType), Jvm.Cond.code ({ cls := "java/lang/AbstractStringBuilder", name := "isLatin1", desc := "()Z" } : Jvm.MethodName) jdk_68_method_68_code (1 : Nat) (Option.some Jvm.ClassFile.FieldType.boolean), Jvm.Cond.code ({ cls := "java/lang/StringLatin1", name := "inflate", desc := "([BI[BII)V" } : Jvm.MethodName) jdk_43_method_50_code (5 : Nat) (Option.none : Option Jvm.ClassFile.FieldType), Jvm.Cond.code ({ cls := "java/lang/StringUTF16", name := "inflate", desc := "([BI[BII)V" } : Jvm.MethodName) jdk_52_method_86_code (6 : Nat) (Option.none : Option Jvm.ClassFile.FieldType), Jvm.Cond.code ({ cls := "java/lang/String", name := "getBytes", desc := "([BIB)V" } : Jvm.MethodName) jdk_42_method_147_code (4 : Nat) (Option.none : Option Jvm.ClassFile.FieldType), Jvm.Cond.code ({ cls := "java/lang/StringLatin1", name := "toBytes", desc := "(C)[B" } : Jvm.MethodName) jdk_43_method_46_code (1 : Nat) (Option.some (Jvm.ClassFile.FieldType.array Jvm.ClassFile.FieldType.byte)), Jvm.Cond.code ({ cls := "java/lang/StringLatin1", name := "newString", desc := "([BII)Ljava/lang/String;" } : Jvm.MethodName) jdk_43_method_47_code (3 : Nat) (Option.some (Jvm.ClassFile.FieldType.object "java/lang/String")), Jvm.Cond.code ({ cls := "java/lang/AbstractStringBuilder", name := "newCapacity", desc := "(I)I" } : Jvm.MethodName) jdk_68_method_10_code (6 : Nat) (Option.some Jvm.ClassFile.FieldType.int), Jvm.Cond.code ({ cls := "jdk/internal/util/ArraysSupport", name := "newLength", desc := "(III)I" } : Jvm.MethodName) jdk_48_method_27_code (4 : Nat) (Option.some Jvm.ClassFile.FieldType.int), Jvm.Cond.code ({ cls := "java/lang/Math", name := "max", desc := "(II)I" } : Jvm.MethodName) jdk_29_method_65_code (2 : Nat) (Option.some Jvm.ClassFile.FieldType.int), Jvm.Cond.code ({ cls := "java/lang/StringBuilder", name := "toString", desc := "()Ljava/lang/String;" } : Jvm.MethodName) jdk_67_method_42_code (1 : Nat) (Option.some (Jvm.ClassFile.FieldType.object "java/lang/String")), Jvm.Cond.code ({ cls := "java/lang/String", name := "<init>", desc := "(Ljava/lang/StringBuilder;)V" } : Jvm.MethodName) jdk_42_method_53_code (2 : Nat) (Option.none : Option Jvm.ClassFile.FieldType), Jvm.Cond.code ({ cls := "java/lang/String", name := "<init>", desc := "(Ljava/lang/AbstractStringBuilder;Ljava/lang/Void;)V" } : Jvm.MethodName) jdk_42_method_150_code (5 : Nat) (Option.none : Option Jvm.ClassFile.FieldType), Jvm.Cond.code ({ cls := "java/lang/AbstractStringBuilder", name := "getValue", desc := "()[B" } : Jvm.MethodName) jdk_68_method_64_code (1 : Nat) (Option.some (Jvm.ClassFile.FieldType.array Jvm.ClassFile.FieldType.byte)), Jvm.Cond.code ({ cls := "java/lang/StringBuilder", name := "length", desc := "()I" } : Jvm.MethodName) jdk_67_method_93_code (1 : Nat) (Option.some Jvm.ClassFile.FieldType.int), Jvm.Cond.code ({ cls := "java/lang/AbstractStringBuilder", name := "length", desc := "()I" } : Jvm.MethodName) jdk_68_method_6_code (1 : Nat) (Option.some Jvm.ClassFile.FieldType.int), Jvm.Cond.code ({ cls := "com/example/earnest_orm/earnestorm/mapping/IdentifiersIdentifierPinLaw", name := "bytes", desc := "(IIII)I" } : Jvm.MethodName) method_8_code (4 : Nat) (Option.some Jvm.ClassFile.FieldType.int), Jvm.Cond.code ({ cls := "com/example/earnest_orm/earnestorm/mapping/IdentifiersIdentifierPinLaw", name := "units", desc := "(I)I" } : Jvm.MethodName) method_5_code (1 : Nat) (Option.some Jvm.ClassFile.FieldType.int), Jvm.Cond.code ({ cls := "com/example/earnest_orm/earnestorm/mapping/IdentifiersIdentifierPinLaw", name := "width", desc := "(I)I" } : Jvm.MethodName) method_4_code (1 : Nat) (Option.some Jvm.ClassFile.FieldType.int), Jvm.Cond.code ({ cls := "com/example/earnest_orm/earnestorm/mapping/IdentifiersIdentifierPinLaw", name := "keep", desc := "(IIIII)I" } : Jvm.MethodName) method_9_code (6 : Nat) (Option.some Jvm.ClassFile.FieldType.int), Jvm.Cond.code ({ cls := "com/example/earnest_orm/earnestorm/mapping/IdentifiersIdentifierPinLaw", name := "agrees", desc := "(Ljava/lang/String;I[CI)Z" } : Jvm.MethodName) method_12_code (4 : Nat) (Option.some Jvm.ClassFile.FieldType.boolean), Jvm.Cond.code ({ cls := "java/lang/String", name := "charAt", desc := "(I)C" } : Jvm.MethodName) jdk_42_method_56_code (2 : Nat) (Option.some Jvm.ClassFile.FieldType.char), Jvm.Cond.code ({ cls := "java/lang/StringUTF16", name := "charAt", desc := "([BI)C" } : Jvm.MethodName) jdk_52_method_83_code (2 : Nat) (Option.some Jvm.ClassFile.FieldType.char), Jvm.Cond.code ({ cls := "java/lang/StringUTF16", name := "checkIndex", desc := "(I[B)V" } : Jvm.MethodName) jdk_52_method_91_code (2 : Nat) (Option.none : Option Jvm.ClassFile.FieldType), Jvm.Cond.code ({ cls := "java/lang/StringUTF16", name := "toBytes", desc := "(C)[B" } : Jvm.MethodName) jdk_52_method_24_code (2 : Nat) (Option.some (Jvm.ClassFile.FieldType.array Jvm.ClassFile.FieldType.byte)), Jvm.Cond.code ({ cls := "java/lang/StringLatin1", name := "charAt", desc := "([BI)C" } : Jvm.MethodName) jdk_43_method_2_code (2 : Nat) (Option.some Jvm.ClassFile.FieldType.char)]
theorem codes_eq : words1.filter isCode = codes1 := rfl
theorem w_codes : ∀ c ∈ words1.filter isCode, c.before args0 about1 = true := by
  rw [codes_eq]
  intro c hc
  simp only [codes1, List.mem_cons, List.not_mem_nil, or_false] at hc
  rcases hc with rfl | rfl | rfl | rfl | rfl | rfl | rfl | rfl | rfl | rfl | rfl | rfl | rfl | rfl | rfl | rfl | rfl | rfl | rfl | rfl | rfl | rfl | rfl | rfl | rfl | rfl | rfl | rfl | rfl | rfl | rfl | rfl | rfl | rfl | rfl | rfl | rfl | rfl | rfl | rfl | rfl | rfl | rfl | rfl | rfl | rfl | rfl | rfl | rfl | rfl | rfl | rfl | rfl | rfl | rfl | rfl | rfl | rfl | rfl | rfl | rfl | rfl | rfl | rfl | rfl | rfl | rfl | rfl | rfl | rfl | rfl | rfl | rfl | rfl | rfl | rfl | rfl | rfl | rfl | rfl | rfl | rfl | rfl | rfl | rfl | rfl | rfl | rfl | rfl | rfl | rfl | rfl | rfl | rfl | rfl | rfl
  · exact w_c0
  · exact w_c1
  · exact w_c2
  · exact w_c3
  · exact w_c4
  · exact w_c5
  · exact w_c6
  · exact w_c7
  · exact w_c8
  · exact w_c9
  · exact w_c10
  · exact w_c11
  · exact w_c12
  · exact w_c13
  · exact w_c14
  · exact w_c15
  · exact w_c16
  · exact w_c17
  · exact w_c18
  · exact w_c19
  · exact w_c20
  · exact w_c21
  · exact w_c22
  · exact w_c23
  · exact w_c24
  · exact w_c25
  · exact w_c26
  · exact w_c27
  · exact w_c28
  · exact w_c29
  · exact w_c30
  · exact w_c31
  · exact w_c32
  · exact w_c33
  · exact w_c34
  · exact w_c35
  · exact w_c36
  · exact w_c37
  · exact w_c38
  · exact w_c39
  · exact w_c40
  · exact w_c41
  · exact w_c42
  · exact w_c43
  · exact w_c44
  · exact w_c45
  · exact w_c46
  · exact w_c47
  · exact w_c48
  · exact w_c49
  · exact w_c50
  · exact w_c51
  · exact w_c52
  · exact w_c53
  · exact w_c54
  · exact w_c55
  · exact w_c56
  · exact w_c57
  · exact w_c58
  · exact w_c59
  · exact w_c60
  · exact w_c61
  · exact w_c62
  · exact w_c63
  · exact w_c64
  · exact w_c65
  · exact w_c66
  · exact w_c67
  · exact w_c68
  · exact w_c69
  · exact w_c70
  · exact w_c71
  · exact w_c72
  · exact w_c73
  · exact w_c74
  · exact w_c75
  · exact w_c76
  · exact w_c77
  · exact w_c78
  · exact w_c79
  · exact w_c80
  · exact w_c81
  · exact w_c82
  · exact w_c83
  · exact w_c84
  · exact w_c85
  · exact w_c86
  · exact w_c87
  · exact w_c88
  · exact w_c89
  · exact w_c90
  · exact w_c91
  · exact w_c92
  · exact w_c93
  · exact w_c94
  · exact w_c95
theorem w_t1 : (words1.take 24).all (fun c => isCode c || c.before args0 about1) = true := by decide +kernel
theorem w_t2 : ((words1.drop 24).take 24).all (fun c => isCode c || c.before args0 about1) = true := by decide +kernel
theorem w_t3 : (((words1.drop 24).drop 24).take 24).all (fun c => isCode c || c.before args0 about1) = true := by decide +kernel
theorem w_t4 : ((((words1.drop 24).drop 24).drop 24).take 24).all (fun c => isCode c || c.before args0 about1) = true := by decide +kernel
theorem w_t5 : (((((words1.drop 24).drop 24).drop 24).drop 24).take 24).all (fun c => isCode c || c.before args0 about1) = true := by decide +kernel
theorem w_t6 : ((((((words1.drop 24).drop 24).drop 24).drop 24).drop 24).take 24).all (fun c => isCode c || c.before args0 about1) = true := by decide +kernel
theorem w_t7 : (((((((words1.drop 24).drop 24).drop 24).drop 24).drop 24).drop 24).take 24).all (fun c => isCode c || c.before args0 about1) = true := by decide +kernel
theorem w_t8 : ((((((((words1.drop 24).drop 24).drop 24).drop 24).drop 24).drop 24).drop 24).take 24).all (fun c => isCode c || c.before args0 about1) = true := by decide +kernel
theorem w_t9 : (((((((((words1.drop 24).drop 24).drop 24).drop 24).drop 24).drop 24).drop 24).drop 24).take 24).all (fun c => isCode c || c.before args0 about1) = true := by decide +kernel
theorem w_t10 : ((((((((((words1.drop 24).drop 24).drop 24).drop 24).drop 24).drop 24).drop 24).drop 24).drop 24).take 24).all (fun c => isCode c || c.before args0 about1) = true := by decide +kernel
theorem w_t11 : (((((((((((words1.drop 24).drop 24).drop 24).drop 24).drop 24).drop 24).drop 24).drop 24).drop 24).drop 24).take 24).all (fun c => isCode c || c.before args0 about1) = true := by decide +kernel
theorem w_t12 : ((((((((((((words1.drop 24).drop 24).drop 24).drop 24).drop 24).drop 24).drop 24).drop 24).drop 24).drop 24).drop 24).take 24).all (fun c => isCode c || c.before args0 about1) = true := by decide +kernel
theorem w_t13 : (((((((((((((words1.drop 24).drop 24).drop 24).drop 24).drop 24).drop 24).drop 24).drop 24).drop 24).drop 24).drop 24).drop 24).take 24).all (fun c => isCode c || c.before args0 about1) = true := by decide +kernel
theorem w_t14 : ((((((((((((((words1.drop 24).drop 24).drop 24).drop 24).drop 24).drop 24).drop 24).drop 24).drop 24).drop 24).drop 24).drop 24).drop 24).take 24).all (fun c => isCode c || c.before args0 about1) = true := by decide +kernel
theorem w_t15 : (((((((((((((((words1.drop 24).drop 24).drop 24).drop 24).drop 24).drop 24).drop 24).drop 24).drop 24).drop 24).drop 24).drop 24).drop 24).drop 24).take 24).all (fun c => isCode c || c.before args0 about1) = true := by decide +kernel
theorem w_t16 : ((((((((((((((((words1.drop 24).drop 24).drop 24).drop 24).drop 24).drop 24).drop 24).drop 24).drop 24).drop 24).drop 24).drop 24).drop 24).drop 24).drop 24).take 24).all (fun c => isCode c || c.before args0 about1) = true := by decide +kernel
theorem w_t17 : (((((((((((((((((words1.drop 24).drop 24).drop 24).drop 24).drop 24).drop 24).drop 24).drop 24).drop 24).drop 24).drop 24).drop 24).drop 24).drop 24).drop 24).drop 24).take 24).all (fun c => isCode c || c.before args0 about1) = true := by decide +kernel
theorem w_t18 : (((((((((((((((((words1.drop 24).drop 24).drop 24).drop 24).drop 24).drop 24).drop 24).drop 24).drop 24).drop 24).drop 24).drop 24).drop 24).drop 24).drop 24).drop 24).drop 24).all (fun c => isCode c || c.before args0 about1) = true := by decide +kernel
theorem w_tables : (allAtoms (Jvm.Cond.code x code maxLocals ret :: tables_1)).before args0 about1 = true := by
  rw [allAtoms_all]
  show words1.all (fun c => c.before args0 about1) = true
  refine all_split ?_ w_codes
  rw [← List.take_append_drop 24 words1, List.all_append, w_t1, ← List.take_append_drop 24 (words1.drop 24), List.all_append, w_t2, ← List.take_append_drop 24 ((words1.drop 24).drop 24), List.all_append, w_t3, ← List.take_append_drop 24 (((words1.drop 24).drop 24).drop 24), List.all_append, w_t4, ← List.take_append_drop 24 ((((words1.drop 24).drop 24).drop 24).drop 24), List.all_append, w_t5, ← List.take_append_drop 24 (((((words1.drop 24).drop 24).drop 24).drop 24).drop 24), List.all_append, w_t6, ← List.take_append_drop 24 ((((((words1.drop 24).drop 24).drop 24).drop 24).drop 24).drop 24), List.all_append, w_t7, ← List.take_append_drop 24 (((((((words1.drop 24).drop 24).drop 24).drop 24).drop 24).drop 24).drop 24), List.all_append, w_t8, ← List.take_append_drop 24 ((((((((words1.drop 24).drop 24).drop 24).drop 24).drop 24).drop 24).drop 24).drop 24), List.all_append, w_t9, ← List.take_append_drop 24 (((((((((words1.drop 24).drop 24).drop 24).drop 24).drop 24).drop 24).drop 24).drop 24).drop 24), List.all_append, w_t10, ← List.take_append_drop 24 ((((((((((words1.drop 24).drop 24).drop 24).drop 24).drop 24).drop 24).drop 24).drop 24).drop 24).drop 24), List.all_append, w_t11, ← List.take_append_drop 24 (((((((((((words1.drop 24).drop 24).drop 24).drop 24).drop 24).drop 24).drop 24).drop 24).drop 24).drop 24).drop 24), List.all_append, w_t12, ← List.take_append_drop 24 ((((((((((((words1.drop 24).drop 24).drop 24).drop 24).drop 24).drop 24).drop 24).drop 24).drop 24).drop 24).drop 24).drop 24), List.all_append, w_t13, ← List.take_append_drop 24 (((((((((((((words1.drop 24).drop 24).drop 24).drop 24).drop 24).drop 24).drop 24).drop 24).drop 24).drop 24).drop 24).drop 24).drop 24), List.all_append, w_t14, ← List.take_append_drop 24 ((((((((((((((words1.drop 24).drop 24).drop 24).drop 24).drop 24).drop 24).drop 24).drop 24).drop 24).drop 24).drop 24).drop 24).drop 24).drop 24), List.all_append, w_t15, ← List.take_append_drop 24 (((((((((((((((words1.drop 24).drop 24).drop 24).drop 24).drop 24).drop 24).drop 24).drop 24).drop 24).drop 24).drop 24).drop 24).drop 24).drop 24).drop 24), List.all_append, w_t16, ← List.take_append_drop 24 ((((((((((((((((words1.drop 24).drop 24).drop 24).drop 24).drop 24).drop 24).drop 24).drop 24).drop 24).drop 24).drop 24).drop 24).drop 24).drop 24).drop 24).drop 24), List.all_append, w_t17, w_t18]
  rfl
theorem w_rest : rest_1_c.before args0 about1 = true := by decide +kernel
theorem w_case : (Jvm.Cond.and given_1 narrow_1).before args0 about1 = true := by decide +kernel
theorem w_consts : constsHeld consts_1 about1 := Jvm.Lit.constsHeldB_iff.mp (by decide +kernel)
theorem w_applies : (headSpec (Jvm.Cond.code x code maxLocals ret :: tables_1) room_1).applies x e0.platform about1 = true :=
  (Spec.applies_iff w_frames).mpr ⟨w_running, w_runnable, w_alone, w_named, w_hears, w_ripe, w_room, w_tables⟩
theorem atStart : AtStart classFile x code maxLocals ret World_1 tables_1 room_1 Calls_1 rest_1 Pre_1 launch0 p0 e0 about1 theMethod args0 below0 :=
  ⟨lists_1, trivial, launch0.admits_env _ _ _, launch0.least_env, fairChoices_fair.cas, fairChoices_fair.clock, w_frames, w_args, w_heap, w_applies, ⟨w_consts, trivial⟩, w_rest, w_case⟩
end start1
theorem witness_1 : WitnessClaimed_1 := ⟨start1.p0, start1.e0, start1.about1, start1.theMethod, start1.args0, start1.below0, start1.atStart⟩
end Jvm.Pilot.@@N@@
