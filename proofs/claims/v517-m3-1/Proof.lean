import JvmDerived
import JvmDerived.Pilot.@@N@@Statement
import JvmDerived.Pilot.@@N@@Code
set_option linter.unusedVariables false
set_option linter.unusedSimpArgs false
namespace Jvm.Pilot.@@N@@
open Jvm Jvm.ClassFile Sem Op Lib Jvm.Free Jvm.Stand Jvm.LawKit Jvm.RoadKit Bundle Jvm.Pilot.@@N@@.Jvm.D
/-- from any state that stands here with this heap the walk comes to a return with Q -/
def Go (p : Program) (l : Launch) (e : Env) (R : Room) (s : State) (m : MethodId) (args : Array Value) (below : List Frame) (meth : Method) (c : Code) (n0 : Nat) (E : Outcome → State → List Loc → Nat → Nat → Prop) (Q : Option Value → Heap → Prop) (h : Heap) (k n : Nat) (f : JFrame) : Prop :=
  ∀ T L, Stand p l e R s m args below meth c T L k n → T.heap = h → Fr n0 L →
    ∃ s₂ o, Steps p.tables e below (T.setTop f) s₂ ∧ s₂.status = .running ∧ Ended s₂ below o ∧
      ∃ v L', o = .returned v ∧ (Q v s₂.heap ∧ Fr n0 L') ∧ E o s₂ L' R.cells R.slots
/-- what is known of the body that is walked -/
def Kx (Z : State) (own nm : String) (bytes : ByteArray) (ml : Nat) (rt : Option FieldType) (p : Program) (s : State) (m : MethodId) (meth : Method) (c : Code) (E : Outcome → State → List Loc → Nat → Nat → Prop) (m0 : Nat) : Prop :=
  p.tables.exec = Jvm.exec ∧ Z.Warmed39 s.vm ∧ s.vm.findClass own = some m.cls ∧ c.code = bytes ∧ c.maxLocals = ml ∧ meth.sig.returnType = rt ∧ meth.locks = false ∧ meth.name = nm ∧ (∀ v t L k n, s.WarmedH t.vm → s.sameButNew ({ t with vm := s.vm } : State) L k n → m0 ≤ t.heap.size → E (.returned v) t L k n)
/-- a method's contract, at given arguments and heap -/
def Meets (l : Launch) (y : MethodName) (bytes : ByteArray) (ml : Nat) (rt : Option FieldType) (rm : Room) (Z : State) (as : Array Value) (h0 : Heap) (n0 : Nat) (Q : Option Value → Heap → Prop) : Prop :=
  ∀ ws : List Jvm.Cond, MetFree l y (head1 (Jvm.Cond.code y bytes ml rt :: ws) rm) (fun a U => a = as ∧ Z.Warmed39 U.vm ∧ U.heap = h0) (fun _ _ _ _ _ => True)
    (fun _ U o U' => ∃ v L, o = .returned v ∧ (Q v U'.heap ∧ Fr n0 L) ∧ FrameEnd U o U' L rm.cells rm.slots)
/-- an array of ints, bytes, booleans ..: its values as a list -/
def IA (Z : State) (h : Heap) (a : Addr) (ty : FieldType) (xs : List Int32) : Prop := ∃ cl : Cell, Arr Z h a cl ty ∧ cl.slots = (xs.map Value.int).toArray
/-- an array of longs -/
def LA (Z : State) (h : Heap) (a : Addr) (xs : List Int64) : Prop := ∃ cl : Cell, Arr Z h a cl .long ∧ cl.slots = (xs.map Value.long).toArray
section ArrFacts
variable {Z : State} {h h' : Heap} {a : Addr} {ty : FieldType} {xs : List Int32} {ys : List Int64} {ws : List Addr}
theorem IA.keep (F : IA Z h a ty xs) (K : Keep h h' ws) (q : a ∉ ws) : IA Z h' a ty xs := by obtain ⟨c, A, r⟩ := F; exact ⟨c, ⟨K.2.1 a c A.1 q, A.2⟩, r⟩
theorem LA.keep (F : LA Z h a ys) (K : Keep h h' ws) (q : a ∉ ws) : LA Z h' a ys := by obtain ⟨c, A, r⟩ := F; exact ⟨c, ⟨K.2.1 a c A.1 q, A.2⟩, r⟩
theorem IA.lt (F : IA Z h a ty xs) : a < h.size := by obtain ⟨c, A, -⟩ := F; exact A.lt
theorem LA.lt (F : LA Z h a ys) : a < h.size := by obtain ⟨c, A, -⟩ := F; exact A.lt
theorem IA.set {j : Nat} {x : Int32} (F : IA Z h a ty xs) (W : Wr h h' a j (.int x)) : IA Z h' a ty (xs.set j x) := by
  obtain ⟨c, A, r⟩ := F
  refine ⟨_, A.same W, ?_⟩
  simp [Cell.setSlot, r, List.map_set]
theorem LA.set {j : Nat} {x : Int64} (F : LA Z h a ys) (W : Wr h h' a j (.long x)) : LA Z h' a (ys.set j x) := by
  obtain ⟨c, A, r⟩ := F
  refine ⟨_, A.same W, ?_⟩
  simp [Cell.setSlot, r, List.map_set]
theorem keep_ext (E : Ext h h') : Keep h h' [] := (Keep.refl h []).ext E
theorem own_clamp {j : Int32} {n : Nat} (h0 : ¬ j < 0) (hn : j.toNatClampNeg < n) {cl : Cell} (hs : cl.slots.size = n) : ¬ (j < 0 ∨ cl.slots.size ≤ j.toNatClampNeg) := by
  rw [hs]; rintro (q | q)
  · exact h0 q
  · omega
theorem own_ne_of_lt {a b : Nat} {h : Heap} (q : a < h.size) (r : b = h.size) : a ≠ b := by omega
end ArrFacts
section GoSteps
variable {p : Program} {l : Launch} {e : Env} {R : Room} {s : State} {m : MethodId} {args : Array Value} {below : List Frame} {meth : Method} {c : Code} {n0 : Nat} {E : Outcome → State → List Loc → Nat → Nat → Prop} {m0 : Nat} {Q : Option Value → Heap → Prop} {h : Heap} {k n : Nat} {Z : State} {own nm : String} {bytes : ByteArray} {ml : Nat} {rt : Option FieldType} {Ls : Array Slot} {st : List Value} {a0 : Array Value}
theorem go_step {f f' : JFrame} (st : ∀ T L, Stand p l e R s m args below meth c T L k n → ∀ t, Steps p.tables e below (T.setTop f') t → Steps p.tables e below (T.setTop f) t) (hr : Go p l e R s m args below meth c n0 E Q h k n f') : Go p l e R s m args below meth c n0 E Q h k n f := by
  intro T L X eT N
  obtain ⟨s₂, o, S, r⟩ := hr T L X eT N
  exact ⟨s₂, o, st T L X _ S, r⟩
theorem go_mono {f : JFrame} {k' n' : Nat} (hk : k ≤ k') (hn : n ≤ n') (hr : Go p l e R s m args below meth c n0 E Q h k' n' f) : Go p l e R s m args below meth c n0 E Q h k n f := by
  intro T L X eT N
  exact hr T L (X.more hk hn) eT N
theorem go_post {f : JFrame} {Q' : Option Value → Heap → Prop} (hq : ∀ v h, Q' v h → Q v h) (hr : Go p l e R s m args below meth c n0 E Q' h k n f) : Go p l e R s m args below meth c n0 E Q h k n f := by
  intro T L X eT N
  obtain ⟨s₂, o, S, r1, r2, v, L', q1, q2, q3⟩ := hr T L X eT N
  exact ⟨s₂, o, S, r1, r2, v, L', q1, ⟨hq _ _ q2.1, q2.2⟩, q3⟩
theorem go_cast {pc : Nat} {k' n' : Nat} {st' : List Value} (q1 : k = k') (q2 : n = n') (q3 : st = st') (hr : Go p l e R s m args below meth c n0 E Q h k' n' (mkF m pc Ls st')) : Go p l e R s m args below meth c n0 E Q h k n (mkF m pc Ls st) := by subst q1 q2 q3; exact hr
theorem g_iload (K : Kx Z own nm bytes ml rt p s m meth c E m0) (pc : Nat) {i : Nat} {v : Int32} (hd : decode bytes pc = .ok (.iload i, 2)) (hl : Ls[i]? = some (.val (.int v))) (hr : Go p l e R s m args below meth c n0 E Q h k n (mkF m (pc + 2) Ls (.int v :: st))) : Go p l e R s m args below meth c n0 E Q h k n (mkF m pc Ls st) :=
  go_step (fun T L X t S => XS.iload X.here K.1 rfl (hb K.2.2.2.1 hd) hl S) hr
theorem g_iloadN (K : Kx Z own nm bytes ml rt p s m meth c E m0) (pc : Nat) {i : Fin 4} {v : Int32} (hd : decode bytes pc = .ok (.iload_n i, 1)) (hl : Ls[i.val]? = some (.val (.int v))) (hr : Go p l e R s m args below meth c n0 E Q h k n (mkF m (pc + 1) Ls (.int v :: st))) : Go p l e R s m args below meth c n0 E Q h k n (mkF m pc Ls st) :=
  go_step (fun T L X t S => XS.iloadN X.here K.1 rfl (hb K.2.2.2.1 hd) hl S) hr
theorem g_lload (K : Kx Z own nm bytes ml rt p s m meth c E m0) (pc : Nat) {i : Nat} {v : Int64} (hd : decode bytes pc = .ok (.lload i, 2)) (hl : Ls[i]? = some (.val (.long v))) (hr : Go p l e R s m args below meth c n0 E Q h k n (mkF m (pc + 2) Ls (.long v :: st))) : Go p l e R s m args below meth c n0 E Q h k n (mkF m pc Ls st) :=
  go_step (fun T L X t S => XT.lload X.here K.1 rfl (hb K.2.2.2.1 hd) hl S) hr
theorem g_lloadN (K : Kx Z own nm bytes ml rt p s m meth c E m0) (pc : Nat) {i : Fin 4} {v : Int64} (hd : decode bytes pc = .ok (.lload_n i, 1)) (hl : Ls[i.val]? = some (.val (.long v))) (hr : Go p l e R s m args below meth c n0 E Q h k n (mkF m (pc + 1) Ls (.long v :: st))) : Go p l e R s m args below meth c n0 E Q h k n (mkF m pc Ls st) :=
  go_step (fun T L X t S => XT.lloadN X.here K.1 rfl (hb K.2.2.2.1 hd) hl S) hr
theorem g_aload (K : Kx Z own nm bytes ml rt p s m meth c E m0) (pc : Nat) {i : Nat} {v : Value} (hd : decode bytes pc = .ok (.aload i, 2)) (hl : Ls[i]? = some (.val v)) (hv : v.isRef = true) (hr : Go p l e R s m args below meth c n0 E Q h k n (mkF m (pc + 2) Ls (v :: st))) : Go p l e R s m args below meth c n0 E Q h k n (mkF m pc Ls st) :=
  go_step (fun T L X t S => XS.aload X.here K.1 rfl (hb K.2.2.2.1 hd) hl hv S) hr
theorem g_aloadN (K : Kx Z own nm bytes ml rt p s m meth c E m0) (pc : Nat) {i : Fin 4} {v : Value} (hd : decode bytes pc = .ok (.aload_n i, 1)) (hl : Ls[i.val]? = some (.val v)) (hv : v.isRef = true) (hr : Go p l e R s m args below meth c n0 E Q h k n (mkF m (pc + 1) Ls (v :: st))) : Go p l e R s m args below meth c n0 E Q h k n (mkF m pc Ls st) :=
  go_step (fun T L X t S => XS.aloadN X.here K.1 rfl (hb K.2.2.2.1 hd) hl hv S) hr
theorem g_istore (K : Kx Z own nm bytes ml rt p s m meth c E m0) (pc : Nat) {i : Nat} {v : Int32} (l' : Array Slot) (hd : decode bytes pc = .ok (.istore i, 2)) (hl : storeLocals Ls i (.int v) = some l') (hr : Go p l e R s m args below meth c n0 E Q h k n (mkF m (pc + 2) l' st)) : Go p l e R s m args below meth c n0 E Q h k n (mkF m pc Ls (.int v :: st)) :=
  go_step (fun T L X t S => XS.istore X.here K.1 rfl (hb K.2.2.2.1 hd) rfl hl S) hr
theorem g_istoreN (K : Kx Z own nm bytes ml rt p s m meth c E m0) (pc : Nat) {i : Fin 4} {v : Int32} (l' : Array Slot) (hd : decode bytes pc = .ok (.istore_n i, 1)) (hl : storeLocals Ls i.val (.int v) = some l') (hr : Go p l e R s m args below meth c n0 E Q h k n (mkF m (pc + 1) l' st)) : Go p l e R s m args below meth c n0 E Q h k n (mkF m pc Ls (.int v :: st)) :=
  go_step (fun T L X t S => XS.istoreN X.here K.1 rfl (hb K.2.2.2.1 hd) rfl hl S) hr
theorem g_lstore (K : Kx Z own nm bytes ml rt p s m meth c E m0) (pc : Nat) {i : Nat} {v : Int64} (l' : Array Slot) (hd : decode bytes pc = .ok (.lstore i, 2)) (hl : storeLocals Ls i (.long v) = some l') (hr : Go p l e R s m args below meth c n0 E Q h k n (mkF m (pc + 2) l' st)) : Go p l e R s m args below meth c n0 E Q h k n (mkF m pc Ls (.long v :: st)) :=
  go_step (fun T L X t S => XT.lstore X.here K.1 rfl (hb K.2.2.2.1 hd) rfl hl S) hr
theorem g_lstoreN (K : Kx Z own nm bytes ml rt p s m meth c E m0) (pc : Nat) {i : Fin 4} {v : Int64} (l' : Array Slot) (hd : decode bytes pc = .ok (.lstore_n i, 1)) (hl : storeLocals Ls i.val (.long v) = some l') (hr : Go p l e R s m args below meth c n0 E Q h k n (mkF m (pc + 1) l' st)) : Go p l e R s m args below meth c n0 E Q h k n (mkF m pc Ls (.long v :: st)) :=
  go_step (fun T L X t S => XT.lstoreN X.here K.1 rfl (hb K.2.2.2.1 hd) rfl hl S) hr
theorem g_astore (K : Kx Z own nm bytes ml rt p s m meth c E m0) (pc : Nat) {i : Nat} {v : Value} (l' : Array Slot) (hd : decode bytes pc = .ok (.astore i, 2)) (hv : v.isRef = true) (hl : storeLocals Ls i v = some l') (hr : Go p l e R s m args below meth c n0 E Q h k n (mkF m (pc + 2) l' st)) : Go p l e R s m args below meth c n0 E Q h k n (mkF m pc Ls (v :: st)) :=
  go_step (fun T L X t S => XS.astore X.here K.1 rfl (hb K.2.2.2.1 hd) rfl hv hl S) hr
theorem g_astoreN (K : Kx Z own nm bytes ml rt p s m meth c E m0) (pc : Nat) {i : Fin 4} {v : Value} (l' : Array Slot) (hd : decode bytes pc = .ok (.astore_n i, 1)) (hv : v.isRef = true) (hl : storeLocals Ls i.val v = some l') (hr : Go p l e R s m args below meth c n0 E Q h k n (mkF m (pc + 1) l' st)) : Go p l e R s m args below meth c n0 E Q h k n (mkF m pc Ls (v :: st)) :=
  go_step (fun T L X t S => XS.astoreN X.here K.1 rfl (hb K.2.2.2.1 hd) rfl hv hl S) hr
theorem g_iconst (K : Kx Z own nm bytes ml rt p s m meth c E m0) (pc : Nat) {i : Int} (v : Int32) (hd : decode bytes pc = .ok (.iconst i, 1)) (hv : Int32.ofInt i = v) (hr : Go p l e R s m args below meth c n0 E Q h k n (mkF m (pc + 1) Ls (.int v :: st))) : Go p l e R s m args below meth c n0 E Q h k n (mkF m pc Ls st) :=
  go_step (fun T L X t S => XT.iconstV X.here K.1 rfl v (hb K.2.2.2.1 hd) hv S) hr
theorem g_bipush (K : Kx Z own nm bytes ml rt p s m meth c E m0) (pc : Nat) {i : Int} (v : Int32) (hd : decode bytes pc = .ok (.bipush i, 2)) (hv : (Int8.ofInt i).toInt32 = v) (hr : Go p l e R s m args below meth c n0 E Q h k n (mkF m (pc + 2) Ls (.int v :: st))) : Go p l e R s m args below meth c n0 E Q h k n (mkF m pc Ls st) :=
  go_step (fun T L X t S => XT.bipushV X.here K.1 rfl v (hb K.2.2.2.1 hd) hv S) hr
theorem g_sipush (K : Kx Z own nm bytes ml rt p s m meth c E m0) (pc : Nat) {i : Int} (v : Int32) (hd : decode bytes pc = .ok (.sipush i, 3)) (hv : (Int16.ofInt i).toInt32 = v) (hr : Go p l e R s m args below meth c n0 E Q h k n (mkF m (pc + 3) Ls (.int v :: st))) : Go p l e R s m args below meth c n0 E Q h k n (mkF m pc Ls st) :=
  go_step (fun T L X t S => XT.sipushV X.here K.1 rfl v (hb K.2.2.2.1 hd) hv S) hr
theorem g_lconst (K : Kx Z own nm bytes ml rt p s m meth c E m0) (pc : Nat) {i : Fin 2} (v : Int64) (hd : decode bytes pc = .ok (.lconst i, 1)) (hv : Int64.ofNat i = v) (hr : Go p l e R s m args below meth c n0 E Q h k n (mkF m (pc + 1) Ls (.long v :: st))) : Go p l e R s m args below meth c n0 E Q h k n (mkF m pc Ls st) :=
  go_step (fun T L X t S => XT.lconstV X.here K.1 rfl v (hb K.2.2.2.1 hd) hv S) hr
theorem g_aconst_null (K : Kx Z own nm bytes ml rt p s m meth c E m0) (pc : Nat)  (hd : decode bytes pc = .ok (.aconst_null, 1))  (hr : Go p l e R s m args below meth c n0 E Q h k n (mkF m (pc + 1) Ls (.null :: st))) : Go p l e R s m args below meth c n0 E Q h k n (mkF m pc Ls st) :=
  go_step (fun T L X t S => XS.aconstNull X.here K.1 rfl (hb K.2.2.2.1 hd)  S) hr
theorem g_iinc (K : Kx Z own nm bytes ml rt p s m meth c E m0) (pc : Nat) {i : Nat} {cst : Int} {x : Int32} (v : Int32) (l' : Array Slot) (hd : decode bytes pc = .ok (.iinc i cst, 3)) (hv : Int32.ofInt cst = v) (hl : Ls[i]? = some (.val (.int x))) (hl' : storeLocals Ls i (.int (x + v)) = some l') (hr : Go p l e R s m args below meth c n0 E Q h k n (mkF m (pc + 3) l' st)) : Go p l e R s m args below meth c n0 E Q h k n (mkF m pc Ls st) :=
  go_step (fun T L X t S => XT.iincV X.here K.1 rfl v (hb K.2.2.2.1 hd) hv hl hl' S) hr
theorem g_iadd (K : Kx Z own nm bytes ml rt p s m meth c E m0) (pc : Nat) {x y : Int32} (hd : decode bytes pc = .ok (.iadd, 1))  (hr : Go p l e R s m args below meth c n0 E Q h k n (mkF m (pc + 1) Ls (.int (x + y) :: st))) : Go p l e R s m args below meth c n0 E Q h k n (mkF m pc Ls (.int y :: .int x :: st)) :=
  go_step (fun T L X t S => XS.iadd X.here K.1 rfl (hb K.2.2.2.1 hd) rfl S) hr
theorem g_isub (K : Kx Z own nm bytes ml rt p s m meth c E m0) (pc : Nat) {x y : Int32} (hd : decode bytes pc = .ok (.isub, 1))  (hr : Go p l e R s m args below meth c n0 E Q h k n (mkF m (pc + 1) Ls (.int (x - y) :: st))) : Go p l e R s m args below meth c n0 E Q h k n (mkF m pc Ls (.int y :: .int x :: st)) :=
  go_step (fun T L X t S => XS.isub X.here K.1 rfl (hb K.2.2.2.1 hd) rfl S) hr
theorem g_imul (K : Kx Z own nm bytes ml rt p s m meth c E m0) (pc : Nat) {x y : Int32} (hd : decode bytes pc = .ok (.imul, 1))  (hr : Go p l e R s m args below meth c n0 E Q h k n (mkF m (pc + 1) Ls (.int (x * y) :: st))) : Go p l e R s m args below meth c n0 E Q h k n (mkF m pc Ls (.int y :: .int x :: st)) :=
  go_step (fun T L X t S => XS.imul X.here K.1 rfl (hb K.2.2.2.1 hd) rfl S) hr
theorem g_iand (K : Kx Z own nm bytes ml rt p s m meth c E m0) (pc : Nat) {x y : Int32} (hd : decode bytes pc = .ok (.iand, 1))  (hr : Go p l e R s m args below meth c n0 E Q h k n (mkF m (pc + 1) Ls (.int (x &&& y) :: st))) : Go p l e R s m args below meth c n0 E Q h k n (mkF m pc Ls (.int y :: .int x :: st)) :=
  go_step (fun T L X t S => XS.iand X.here K.1 rfl (hb K.2.2.2.1 hd) rfl S) hr
theorem g_ior (K : Kx Z own nm bytes ml rt p s m meth c E m0) (pc : Nat) {x y : Int32} (hd : decode bytes pc = .ok (.ior, 1))  (hr : Go p l e R s m args below meth c n0 E Q h k n (mkF m (pc + 1) Ls (.int (x ||| y) :: st))) : Go p l e R s m args below meth c n0 E Q h k n (mkF m pc Ls (.int y :: .int x :: st)) :=
  go_step (fun T L X t S => XT.ior X.here K.1 rfl (hb K.2.2.2.1 hd) rfl S) hr
theorem g_ixor (K : Kx Z own nm bytes ml rt p s m meth c E m0) (pc : Nat) {x y : Int32} (hd : decode bytes pc = .ok (.ixor, 1))  (hr : Go p l e R s m args below meth c n0 E Q h k n (mkF m (pc + 1) Ls (.int (x ^^^ y) :: st))) : Go p l e R s m args below meth c n0 E Q h k n (mkF m pc Ls (.int y :: .int x :: st)) :=
  go_step (fun T L X t S => XT.ixor X.here K.1 rfl (hb K.2.2.2.1 hd) rfl S) hr
theorem g_ishl (K : Kx Z own nm bytes ml rt p s m meth c E m0) (pc : Nat) {x y : Int32} (hd : decode bytes pc = .ok (.ishl, 1))  (hr : Go p l e R s m args below meth c n0 E Q h k n (mkF m (pc + 1) Ls (.int (x <<< (y &&& 31)) :: st))) : Go p l e R s m args below meth c n0 E Q h k n (mkF m pc Ls (.int y :: .int x :: st)) :=
  go_step (fun T L X t S => XT.ishl X.here K.1 rfl (hb K.2.2.2.1 hd) rfl S) hr
theorem g_ishr (K : Kx Z own nm bytes ml rt p s m meth c E m0) (pc : Nat) {x y : Int32} (hd : decode bytes pc = .ok (.ishr, 1))  (hr : Go p l e R s m args below meth c n0 E Q h k n (mkF m (pc + 1) Ls (.int (x >>> (y &&& 31)) :: st))) : Go p l e R s m args below meth c n0 E Q h k n (mkF m pc Ls (.int y :: .int x :: st)) :=
  go_step (fun T L X t S => XT.ishr X.here K.1 rfl (hb K.2.2.2.1 hd) rfl S) hr
theorem g_iushr (K : Kx Z own nm bytes ml rt p s m meth c E m0) (pc : Nat) {x y : Int32} (hd : decode bytes pc = .ok (.iushr, 1))  (hr : Go p l e R s m args below meth c n0 E Q h k n (mkF m (pc + 1) Ls (.int (XT.ushr x y) :: st))) : Go p l e R s m args below meth c n0 E Q h k n (mkF m pc Ls (.int y :: .int x :: st)) :=
  go_step (fun T L X t S => XT.iushr X.here K.1 rfl (hb K.2.2.2.1 hd) rfl S) hr
theorem g_idiv (K : Kx Z own nm bytes ml rt p s m meth c E m0) (pc : Nat) {x y : Int32} (hd : decode bytes pc = .ok (.idiv, 1)) (hy : y ≠ 0) (hr : Go p l e R s m args below meth c n0 E Q h k n (mkF m (pc + 1) Ls (.int (x / y) :: st))) : Go p l e R s m args below meth c n0 E Q h k n (mkF m pc Ls (.int y :: .int x :: st)) :=
  go_step (fun T L X t S => XS.idiv X.here K.1 rfl (hb K.2.2.2.1 hd) rfl hy S) hr
theorem g_irem (K : Kx Z own nm bytes ml rt p s m meth c E m0) (pc : Nat) {x y : Int32} (hd : decode bytes pc = .ok (.irem, 1)) (hy : y ≠ 0) (hr : Go p l e R s m args below meth c n0 E Q h k n (mkF m (pc + 1) Ls (.int (x % y) :: st))) : Go p l e R s m args below meth c n0 E Q h k n (mkF m pc Ls (.int y :: .int x :: st)) :=
  go_step (fun T L X t S => iremM X K.1 rfl (hb K.2.2.2.1 hd) rfl hy S) hr
theorem g_ineg (K : Kx Z own nm bytes ml rt p s m meth c E m0) (pc : Nat) {x : Int32} (hd : decode bytes pc = .ok (.ineg, 1))  (hr : Go p l e R s m args below meth c n0 E Q h k n (mkF m (pc + 1) Ls (.int (-x) :: st))) : Go p l e R s m args below meth c n0 E Q h k n (mkF m pc Ls (.int x :: st)) :=
  go_step (fun T L X t S => XS.ineg X.here K.1 rfl (hb K.2.2.2.1 hd) rfl S) hr
theorem g_ladd (K : Kx Z own nm bytes ml rt p s m meth c E m0) (pc : Nat) {x y : Int64} (hd : decode bytes pc = .ok (.ladd, 1))  (hr : Go p l e R s m args below meth c n0 E Q h k n (mkF m (pc + 1) Ls (.long (x + y) :: st))) : Go p l e R s m args below meth c n0 E Q h k n (mkF m pc Ls (.long y :: .long x :: st)) :=
  go_step (fun T L X t S => XT.ladd X.here K.1 rfl (hb K.2.2.2.1 hd) rfl S) hr
theorem g_lsub (K : Kx Z own nm bytes ml rt p s m meth c E m0) (pc : Nat) {x y : Int64} (hd : decode bytes pc = .ok (.lsub, 1))  (hr : Go p l e R s m args below meth c n0 E Q h k n (mkF m (pc + 1) Ls (.long (x - y) :: st))) : Go p l e R s m args below meth c n0 E Q h k n (mkF m pc Ls (.long y :: .long x :: st)) :=
  go_step (fun T L X t S => XT.lsub X.here K.1 rfl (hb K.2.2.2.1 hd) rfl S) hr
theorem g_lmul (K : Kx Z own nm bytes ml rt p s m meth c E m0) (pc : Nat) {x y : Int64} (hd : decode bytes pc = .ok (.lmul, 1))  (hr : Go p l e R s m args below meth c n0 E Q h k n (mkF m (pc + 1) Ls (.long (x * y) :: st))) : Go p l e R s m args below meth c n0 E Q h k n (mkF m pc Ls (.long y :: .long x :: st)) :=
  go_step (fun T L X t S => XT.lmul X.here K.1 rfl (hb K.2.2.2.1 hd) rfl S) hr
theorem g_land (K : Kx Z own nm bytes ml rt p s m meth c E m0) (pc : Nat) {x y : Int64} (hd : decode bytes pc = .ok (.land, 1))  (hr : Go p l e R s m args below meth c n0 E Q h k n (mkF m (pc + 1) Ls (.long (x &&& y) :: st))) : Go p l e R s m args below meth c n0 E Q h k n (mkF m pc Ls (.long y :: .long x :: st)) :=
  go_step (fun T L X t S => XT.land X.here K.1 rfl (hb K.2.2.2.1 hd) rfl S) hr
theorem g_lor (K : Kx Z own nm bytes ml rt p s m meth c E m0) (pc : Nat) {x y : Int64} (hd : decode bytes pc = .ok (.lor, 1))  (hr : Go p l e R s m args below meth c n0 E Q h k n (mkF m (pc + 1) Ls (.long (x ||| y) :: st))) : Go p l e R s m args below meth c n0 E Q h k n (mkF m pc Ls (.long y :: .long x :: st)) :=
  go_step (fun T L X t S => XT.lor X.here K.1 rfl (hb K.2.2.2.1 hd) rfl S) hr
theorem g_lxor (K : Kx Z own nm bytes ml rt p s m meth c E m0) (pc : Nat) {x y : Int64} (hd : decode bytes pc = .ok (.lxor, 1))  (hr : Go p l e R s m args below meth c n0 E Q h k n (mkF m (pc + 1) Ls (.long (x ^^^ y) :: st))) : Go p l e R s m args below meth c n0 E Q h k n (mkF m pc Ls (.long y :: .long x :: st)) :=
  go_step (fun T L X t S => XT.lxor X.here K.1 rfl (hb K.2.2.2.1 hd) rfl S) hr
theorem g_ldiv (K : Kx Z own nm bytes ml rt p s m meth c E m0) (pc : Nat) {x y : Int64} (hd : decode bytes pc = .ok (.ldiv, 1)) (hy : y ≠ 0) (hr : Go p l e R s m args below meth c n0 E Q h k n (mkF m (pc + 1) Ls (.long (x / y) :: st))) : Go p l e R s m args below meth c n0 E Q h k n (mkF m pc Ls (.long y :: .long x :: st)) :=
  go_step (fun T L X t S => XT.ldiv X.here K.1 rfl (hb K.2.2.2.1 hd) rfl hy S) hr
theorem g_lshl (K : Kx Z own nm bytes ml rt p s m meth c E m0) (pc : Nat) {x : Int64} {y : Int32} (hd : decode bytes pc = .ok (.lshl, 1))  (hr : Go p l e R s m args below meth c n0 E Q h k n (mkF m (pc + 1) Ls (.long (x <<< (y.toInt64 &&& 63)) :: st))) : Go p l e R s m args below meth c n0 E Q h k n (mkF m pc Ls (.int y :: .long x :: st)) :=
  go_step (fun T L X t S => XT.lshl X.here K.1 rfl (hb K.2.2.2.1 hd) rfl S) hr
theorem g_lshr (K : Kx Z own nm bytes ml rt p s m meth c E m0) (pc : Nat) {x : Int64} {y : Int32} (hd : decode bytes pc = .ok (.lshr, 1))  (hr : Go p l e R s m args below meth c n0 E Q h k n (mkF m (pc + 1) Ls (.long (x >>> (y.toInt64 &&& 63)) :: st))) : Go p l e R s m args below meth c n0 E Q h k n (mkF m pc Ls (.int y :: .long x :: st)) :=
  go_step (fun T L X t S => XT.lshr X.here K.1 rfl (hb K.2.2.2.1 hd) rfl S) hr
theorem g_lushr (K : Kx Z own nm bytes ml rt p s m meth c E m0) (pc : Nat) {x : Int64} {y : Int32} (hd : decode bytes pc = .ok (.lushr, 1))  (hr : Go p l e R s m args below meth c n0 E Q h k n (mkF m (pc + 1) Ls (.long (XT.ushrL x y) :: st))) : Go p l e R s m args below meth c n0 E Q h k n (mkF m pc Ls (.int y :: .long x :: st)) :=
  go_step (fun T L X t S => XT.lushr X.here K.1 rfl (hb K.2.2.2.1 hd) rfl S) hr
theorem g_lneg (K : Kx Z own nm bytes ml rt p s m meth c E m0) (pc : Nat) {x : Int64} (hd : decode bytes pc = .ok (.lneg, 1))  (hr : Go p l e R s m args below meth c n0 E Q h k n (mkF m (pc + 1) Ls (.long (-x) :: st))) : Go p l e R s m args below meth c n0 E Q h k n (mkF m pc Ls (.long x :: st)) :=
  go_step (fun T L X t S => XT.lneg X.here K.1 rfl (hb K.2.2.2.1 hd) rfl S) hr
theorem g_i2l (K : Kx Z own nm bytes ml rt p s m meth c E m0) (pc : Nat) {x : Int32} (hd : decode bytes pc = .ok (.i2l, 1))  (hr : Go p l e R s m args below meth c n0 E Q h k n (mkF m (pc + 1) Ls (.long x.toInt64 :: st))) : Go p l e R s m args below meth c n0 E Q h k n (mkF m pc Ls (.int x :: st)) :=
  go_step (fun T L X t S => XT.i2l X.here K.1 rfl (hb K.2.2.2.1 hd) rfl S) hr
theorem g_l2i (K : Kx Z own nm bytes ml rt p s m meth c E m0) (pc : Nat) {x : Int64} (hd : decode bytes pc = .ok (.l2i, 1))  (hr : Go p l e R s m args below meth c n0 E Q h k n (mkF m (pc + 1) Ls (.int x.toInt32 :: st))) : Go p l e R s m args below meth c n0 E Q h k n (mkF m pc Ls (.long x :: st)) :=
  go_step (fun T L X t S => XT.l2i X.here K.1 rfl (hb K.2.2.2.1 hd) rfl S) hr
theorem g_i2b (K : Kx Z own nm bytes ml rt p s m meth c E m0) (pc : Nat) {x : Int32} (hd : decode bytes pc = .ok (.i2b, 1))  (hr : Go p l e R s m args below meth c n0 E Q h k n (mkF m (pc + 1) Ls (.int x.toInt8.toInt32 :: st))) : Go p l e R s m args below meth c n0 E Q h k n (mkF m pc Ls (.int x :: st)) :=
  go_step (fun T L X t S => XT.i2b X.here K.1 rfl (hb K.2.2.2.1 hd) rfl S) hr
theorem g_i2s (K : Kx Z own nm bytes ml rt p s m meth c E m0) (pc : Nat) {x : Int32} (hd : decode bytes pc = .ok (.i2s, 1))  (hr : Go p l e R s m args below meth c n0 E Q h k n (mkF m (pc + 1) Ls (.int x.toInt16.toInt32 :: st))) : Go p l e R s m args below meth c n0 E Q h k n (mkF m pc Ls (.int x :: st)) :=
  go_step (fun T L X t S => XT.i2s X.here K.1 rfl (hb K.2.2.2.1 hd) rfl S) hr
theorem g_lcmp (K : Kx Z own nm bytes ml rt p s m meth c E m0) (pc : Nat) {x y : Int64} (hd : decode bytes pc = .ok (.lcmp, 1))  (hr : Go p l e R s m args below meth c n0 E Q h k n (mkF m (pc + 1) Ls (.int (XT.cmpL x y) :: st))) : Go p l e R s m args below meth c n0 E Q h k n (mkF m pc Ls (.long y :: .long x :: st)) :=
  go_step (fun T L X t S => XT.lcmp X.here K.1 rfl (hb K.2.2.2.1 hd) rfl S) hr
theorem g_dup (K : Kx Z own nm bytes ml rt p s m meth c E m0) (pc : Nat) {v : Value} (hd : decode bytes pc = .ok (.dup, 1)) (hc : v.category = 1) (hr : Go p l e R s m args below meth c n0 E Q h k n (mkF m (pc + 1) Ls (v :: v :: st))) : Go p l e R s m args below meth c n0 E Q h k n (mkF m pc Ls (v :: st)) :=
  go_step (fun T L X t S => XS.dup X.here K.1 rfl (hb K.2.2.2.1 hd) rfl hc S) hr
theorem g_pop (K : Kx Z own nm bytes ml rt p s m meth c E m0) (pc : Nat) {v : Value} (hd : decode bytes pc = .ok (.pop, 1)) (hc : v.category = 1) (hr : Go p l e R s m args below meth c n0 E Q h k n (mkF m (pc + 1) Ls st)) : Go p l e R s m args below meth c n0 E Q h k n (mkF m pc Ls (v :: st)) :=
  go_step (fun T L X t S => XT.pop X.here K.1 rfl (hb K.2.2.2.1 hd) rfl hc S) hr
theorem g_goto (K : Kx Z own nm bytes ml rt p s m meth c E m0) (pc pc' : Nat) {o : Int} (hd : decode bytes pc = .ok (.goto o, 3)) (ho : 0 ≤ (pc : Int) + o) (hp : ((pc : Int) + o).toNat = pc') (hr : Go p l e R s m args below meth c n0 E Q h k n (mkF m pc' Ls st)) : Go p l e R s m args below meth c n0 E Q h k n (mkF m pc Ls st) :=
  go_step (fun T L X t S => XS.goto X.here K.1 rfl rfl (hb K.2.2.2.1 hd) ho hp S) hr
theorem g_if_eq (K : Kx Z own nm bytes ml rt p s m meth c E m0) (pc pc' : Nat) {o : Int} {x : Int32} (hd : decode bytes pc = .ok (.ifCond .eq o, 3)) (ho : 0 ≤ (pc : Int) + o) (hp : ((pc : Int) + o).toNat = pc') (hT : x = 0 → Go p l e R s m args below meth c n0 E Q h k n (mkF m pc' Ls st)) (hF : ¬ x = 0 → Go p l e R s m args below meth c n0 E Q h k n (mkF m (pc + 3) Ls st)) : Go p l e R s m args below meth c n0 E Q h k n (mkF m pc Ls (.int x :: st)) := by
  by_cases q : x = 0
  · exact go_step (fun T L X t S => XS.ifYes X.here K.1 rfl rfl (hb K.2.2.2.1 hd) rfl (XT.i0_eq_t q) ho hp S) (hT q)
  · exact go_step (fun T L X t S => XS.ifNo X.here K.1 rfl (hb K.2.2.2.1 hd) rfl (XT.i0_eq_f q) S) (hF q)
theorem g_ii_eq (K : Kx Z own nm bytes ml rt p s m meth c E m0) (pc pc' : Nat) {o : Int} {x y : Int32} (hd : decode bytes pc = .ok (.if_icmp .eq o, 3)) (ho : 0 ≤ (pc : Int) + o) (hp : ((pc : Int) + o).toNat = pc') (hT : x = y → Go p l e R s m args below meth c n0 E Q h k n (mkF m pc' Ls st)) (hF : ¬ x = y → Go p l e R s m args below meth c n0 E Q h k n (mkF m (pc + 3) Ls st)) : Go p l e R s m args below meth c n0 E Q h k n (mkF m pc Ls (.int y :: .int x :: st)) := by
  by_cases q : x = y
  · exact go_step (fun T L X t S => XS.icmpYes X.here K.1 rfl rfl (hb K.2.2.2.1 hd) rfl (XT.ii_eq_t q) ho hp S) (hT q)
  · exact go_step (fun T L X t S => XS.icmpNo X.here K.1 rfl (hb K.2.2.2.1 hd) rfl (XT.ii_eq_f q) S) (hF q)
theorem g_ll_eq (K : Kx Z own nm bytes ml rt p s m meth c E m0) (pc pc' : Nat) {o : Int} {x y : Int64} (hd : decode bytes pc = .ok (.ifCond .eq o, 3)) (ho : 0 ≤ (pc : Int) + o) (hp : ((pc : Int) + o).toNat = pc') (hT : x = y → Go p l e R s m args below meth c n0 E Q h k n (mkF m pc' Ls st)) (hF : ¬ x = y → Go p l e R s m args below meth c n0 E Q h k n (mkF m (pc + 3) Ls st)) : Go p l e R s m args below meth c n0 E Q h k n (mkF m pc Ls (.int (XT.cmpL x y) :: st)) := by
  by_cases q : x = y
  · exact go_step (fun T L X t S => XS.ifYes X.here K.1 rfl rfl (hb K.2.2.2.1 hd) rfl (XT.ll_eq_t q) ho hp S) (hT q)
  · exact go_step (fun T L X t S => XS.ifNo X.here K.1 rfl (hb K.2.2.2.1 hd) rfl (XT.ll_eq_f q) S) (hF q)
theorem g_if_ne (K : Kx Z own nm bytes ml rt p s m meth c E m0) (pc pc' : Nat) {o : Int} {x : Int32} (hd : decode bytes pc = .ok (.ifCond .ne o, 3)) (ho : 0 ≤ (pc : Int) + o) (hp : ((pc : Int) + o).toNat = pc') (hT : ¬ x = 0 → Go p l e R s m args below meth c n0 E Q h k n (mkF m pc' Ls st)) (hF : x = 0 → Go p l e R s m args below meth c n0 E Q h k n (mkF m (pc + 3) Ls st)) : Go p l e R s m args below meth c n0 E Q h k n (mkF m pc Ls (.int x :: st)) := by
  by_cases q : x = 0
  · exact go_step (fun T L X t S => XS.ifNo X.here K.1 rfl (hb K.2.2.2.1 hd) rfl (XT.i0_ne_f q) S) (hF q)
  · exact go_step (fun T L X t S => XS.ifYes X.here K.1 rfl rfl (hb K.2.2.2.1 hd) rfl (XT.i0_ne_t q) ho hp S) (hT q)
theorem g_ii_ne (K : Kx Z own nm bytes ml rt p s m meth c E m0) (pc pc' : Nat) {o : Int} {x y : Int32} (hd : decode bytes pc = .ok (.if_icmp .ne o, 3)) (ho : 0 ≤ (pc : Int) + o) (hp : ((pc : Int) + o).toNat = pc') (hT : ¬ x = y → Go p l e R s m args below meth c n0 E Q h k n (mkF m pc' Ls st)) (hF : x = y → Go p l e R s m args below meth c n0 E Q h k n (mkF m (pc + 3) Ls st)) : Go p l e R s m args below meth c n0 E Q h k n (mkF m pc Ls (.int y :: .int x :: st)) := by
  by_cases q : x = y
  · exact go_step (fun T L X t S => XS.icmpNo X.here K.1 rfl (hb K.2.2.2.1 hd) rfl (XT.ii_ne_f q) S) (hF q)
  · exact go_step (fun T L X t S => XS.icmpYes X.here K.1 rfl rfl (hb K.2.2.2.1 hd) rfl (XT.ii_ne_t q) ho hp S) (hT q)
theorem g_ll_ne (K : Kx Z own nm bytes ml rt p s m meth c E m0) (pc pc' : Nat) {o : Int} {x y : Int64} (hd : decode bytes pc = .ok (.ifCond .ne o, 3)) (ho : 0 ≤ (pc : Int) + o) (hp : ((pc : Int) + o).toNat = pc') (hT : ¬ x = y → Go p l e R s m args below meth c n0 E Q h k n (mkF m pc' Ls st)) (hF : x = y → Go p l e R s m args below meth c n0 E Q h k n (mkF m (pc + 3) Ls st)) : Go p l e R s m args below meth c n0 E Q h k n (mkF m pc Ls (.int (XT.cmpL x y) :: st)) := by
  by_cases q : x = y
  · exact go_step (fun T L X t S => XS.ifNo X.here K.1 rfl (hb K.2.2.2.1 hd) rfl (XT.ll_ne_f q) S) (hF q)
  · exact go_step (fun T L X t S => XS.ifYes X.here K.1 rfl rfl (hb K.2.2.2.1 hd) rfl (XT.ll_ne_t q) ho hp S) (hT q)
theorem g_if_lt (K : Kx Z own nm bytes ml rt p s m meth c E m0) (pc pc' : Nat) {o : Int} {x : Int32} (hd : decode bytes pc = .ok (.ifCond .lt o, 3)) (ho : 0 ≤ (pc : Int) + o) (hp : ((pc : Int) + o).toNat = pc') (hT : x < 0 → Go p l e R s m args below meth c n0 E Q h k n (mkF m pc' Ls st)) (hF : ¬ x < 0 → Go p l e R s m args below meth c n0 E Q h k n (mkF m (pc + 3) Ls st)) : Go p l e R s m args below meth c n0 E Q h k n (mkF m pc Ls (.int x :: st)) := by
  by_cases q : x < 0
  · exact go_step (fun T L X t S => XS.ifYes X.here K.1 rfl rfl (hb K.2.2.2.1 hd) rfl (XT.i0_lt_t q) ho hp S) (hT q)
  · exact go_step (fun T L X t S => XS.ifNo X.here K.1 rfl (hb K.2.2.2.1 hd) rfl (XT.i0_lt_f q) S) (hF q)
theorem g_ii_lt (K : Kx Z own nm bytes ml rt p s m meth c E m0) (pc pc' : Nat) {o : Int} {x y : Int32} (hd : decode bytes pc = .ok (.if_icmp .lt o, 3)) (ho : 0 ≤ (pc : Int) + o) (hp : ((pc : Int) + o).toNat = pc') (hT : x < y → Go p l e R s m args below meth c n0 E Q h k n (mkF m pc' Ls st)) (hF : ¬ x < y → Go p l e R s m args below meth c n0 E Q h k n (mkF m (pc + 3) Ls st)) : Go p l e R s m args below meth c n0 E Q h k n (mkF m pc Ls (.int y :: .int x :: st)) := by
  by_cases q : x < y
  · exact go_step (fun T L X t S => XS.icmpYes X.here K.1 rfl rfl (hb K.2.2.2.1 hd) rfl (XT.ii_lt_t q) ho hp S) (hT q)
  · exact go_step (fun T L X t S => XS.icmpNo X.here K.1 rfl (hb K.2.2.2.1 hd) rfl (XT.ii_lt_f q) S) (hF q)
theorem g_ll_lt (K : Kx Z own nm bytes ml rt p s m meth c E m0) (pc pc' : Nat) {o : Int} {x y : Int64} (hd : decode bytes pc = .ok (.ifCond .lt o, 3)) (ho : 0 ≤ (pc : Int) + o) (hp : ((pc : Int) + o).toNat = pc') (hT : x < y → Go p l e R s m args below meth c n0 E Q h k n (mkF m pc' Ls st)) (hF : ¬ x < y → Go p l e R s m args below meth c n0 E Q h k n (mkF m (pc + 3) Ls st)) : Go p l e R s m args below meth c n0 E Q h k n (mkF m pc Ls (.int (XT.cmpL x y) :: st)) := by
  by_cases q : x < y
  · exact go_step (fun T L X t S => XS.ifYes X.here K.1 rfl rfl (hb K.2.2.2.1 hd) rfl (XT.ll_lt_t q) ho hp S) (hT q)
  · exact go_step (fun T L X t S => XS.ifNo X.here K.1 rfl (hb K.2.2.2.1 hd) rfl (XT.ll_lt_f q) S) (hF q)
theorem g_if_ge (K : Kx Z own nm bytes ml rt p s m meth c E m0) (pc pc' : Nat) {o : Int} {x : Int32} (hd : decode bytes pc = .ok (.ifCond .ge o, 3)) (ho : 0 ≤ (pc : Int) + o) (hp : ((pc : Int) + o).toNat = pc') (hT : ¬ x < 0 → Go p l e R s m args below meth c n0 E Q h k n (mkF m pc' Ls st)) (hF : x < 0 → Go p l e R s m args below meth c n0 E Q h k n (mkF m (pc + 3) Ls st)) : Go p l e R s m args below meth c n0 E Q h k n (mkF m pc Ls (.int x :: st)) := by
  by_cases q : x < 0
  · exact go_step (fun T L X t S => XS.ifNo X.here K.1 rfl (hb K.2.2.2.1 hd) rfl (XT.i0_ge_f q) S) (hF q)
  · exact go_step (fun T L X t S => XS.ifYes X.here K.1 rfl rfl (hb K.2.2.2.1 hd) rfl (XT.i0_ge_t q) ho hp S) (hT q)
theorem g_ii_ge (K : Kx Z own nm bytes ml rt p s m meth c E m0) (pc pc' : Nat) {o : Int} {x y : Int32} (hd : decode bytes pc = .ok (.if_icmp .ge o, 3)) (ho : 0 ≤ (pc : Int) + o) (hp : ((pc : Int) + o).toNat = pc') (hT : ¬ x < y → Go p l e R s m args below meth c n0 E Q h k n (mkF m pc' Ls st)) (hF : x < y → Go p l e R s m args below meth c n0 E Q h k n (mkF m (pc + 3) Ls st)) : Go p l e R s m args below meth c n0 E Q h k n (mkF m pc Ls (.int y :: .int x :: st)) := by
  by_cases q : x < y
  · exact go_step (fun T L X t S => XS.icmpNo X.here K.1 rfl (hb K.2.2.2.1 hd) rfl (XT.ii_ge_f q) S) (hF q)
  · exact go_step (fun T L X t S => XS.icmpYes X.here K.1 rfl rfl (hb K.2.2.2.1 hd) rfl (XT.ii_ge_t q) ho hp S) (hT q)
theorem g_ll_ge (K : Kx Z own nm bytes ml rt p s m meth c E m0) (pc pc' : Nat) {o : Int} {x y : Int64} (hd : decode bytes pc = .ok (.ifCond .ge o, 3)) (ho : 0 ≤ (pc : Int) + o) (hp : ((pc : Int) + o).toNat = pc') (hT : ¬ x < y → Go p l e R s m args below meth c n0 E Q h k n (mkF m pc' Ls st)) (hF : x < y → Go p l e R s m args below meth c n0 E Q h k n (mkF m (pc + 3) Ls st)) : Go p l e R s m args below meth c n0 E Q h k n (mkF m pc Ls (.int (XT.cmpL x y) :: st)) := by
  by_cases q : x < y
  · exact go_step (fun T L X t S => XS.ifNo X.here K.1 rfl (hb K.2.2.2.1 hd) rfl (XT.ll_ge_f q) S) (hF q)
  · exact go_step (fun T L X t S => XS.ifYes X.here K.1 rfl rfl (hb K.2.2.2.1 hd) rfl (XT.ll_ge_t q) ho hp S) (hT q)
theorem g_if_gt (K : Kx Z own nm bytes ml rt p s m meth c E m0) (pc pc' : Nat) {o : Int} {x : Int32} (hd : decode bytes pc = .ok (.ifCond .gt o, 3)) (ho : 0 ≤ (pc : Int) + o) (hp : ((pc : Int) + o).toNat = pc') (hT : 0 < x → Go p l e R s m args below meth c n0 E Q h k n (mkF m pc' Ls st)) (hF : ¬ 0 < x → Go p l e R s m args below meth c n0 E Q h k n (mkF m (pc + 3) Ls st)) : Go p l e R s m args below meth c n0 E Q h k n (mkF m pc Ls (.int x :: st)) := by
  by_cases q : 0 < x
  · exact go_step (fun T L X t S => XS.ifYes X.here K.1 rfl rfl (hb K.2.2.2.1 hd) rfl (XT.i0_gt_t q) ho hp S) (hT q)
  · exact go_step (fun T L X t S => XS.ifNo X.here K.1 rfl (hb K.2.2.2.1 hd) rfl (XT.i0_gt_f q) S) (hF q)
theorem g_ii_gt (K : Kx Z own nm bytes ml rt p s m meth c E m0) (pc pc' : Nat) {o : Int} {x y : Int32} (hd : decode bytes pc = .ok (.if_icmp .gt o, 3)) (ho : 0 ≤ (pc : Int) + o) (hp : ((pc : Int) + o).toNat = pc') (hT : y < x → Go p l e R s m args below meth c n0 E Q h k n (mkF m pc' Ls st)) (hF : ¬ y < x → Go p l e R s m args below meth c n0 E Q h k n (mkF m (pc + 3) Ls st)) : Go p l e R s m args below meth c n0 E Q h k n (mkF m pc Ls (.int y :: .int x :: st)) := by
  by_cases q : y < x
  · exact go_step (fun T L X t S => XS.icmpYes X.here K.1 rfl rfl (hb K.2.2.2.1 hd) rfl (XT.ii_gt_t q) ho hp S) (hT q)
  · exact go_step (fun T L X t S => XS.icmpNo X.here K.1 rfl (hb K.2.2.2.1 hd) rfl (XT.ii_gt_f q) S) (hF q)
theorem g_ll_gt (K : Kx Z own nm bytes ml rt p s m meth c E m0) (pc pc' : Nat) {o : Int} {x y : Int64} (hd : decode bytes pc = .ok (.ifCond .gt o, 3)) (ho : 0 ≤ (pc : Int) + o) (hp : ((pc : Int) + o).toNat = pc') (hT : y < x → Go p l e R s m args below meth c n0 E Q h k n (mkF m pc' Ls st)) (hF : ¬ y < x → Go p l e R s m args below meth c n0 E Q h k n (mkF m (pc + 3) Ls st)) : Go p l e R s m args below meth c n0 E Q h k n (mkF m pc Ls (.int (XT.cmpL x y) :: st)) := by
  by_cases q : y < x
  · exact go_step (fun T L X t S => XS.ifYes X.here K.1 rfl rfl (hb K.2.2.2.1 hd) rfl (XT.ll_gt_t q) ho hp S) (hT q)
  · exact go_step (fun T L X t S => XS.ifNo X.here K.1 rfl (hb K.2.2.2.1 hd) rfl (XT.ll_gt_f q) S) (hF q)
theorem g_if_le (K : Kx Z own nm bytes ml rt p s m meth c E m0) (pc pc' : Nat) {o : Int} {x : Int32} (hd : decode bytes pc = .ok (.ifCond .le o, 3)) (ho : 0 ≤ (pc : Int) + o) (hp : ((pc : Int) + o).toNat = pc') (hT : ¬ 0 < x → Go p l e R s m args below meth c n0 E Q h k n (mkF m pc' Ls st)) (hF : 0 < x → Go p l e R s m args below meth c n0 E Q h k n (mkF m (pc + 3) Ls st)) : Go p l e R s m args below meth c n0 E Q h k n (mkF m pc Ls (.int x :: st)) := by
  by_cases q : 0 < x
  · exact go_step (fun T L X t S => XS.ifNo X.here K.1 rfl (hb K.2.2.2.1 hd) rfl (XT.i0_le_f q) S) (hF q)
  · exact go_step (fun T L X t S => XS.ifYes X.here K.1 rfl rfl (hb K.2.2.2.1 hd) rfl (XT.i0_le_t q) ho hp S) (hT q)
theorem g_ii_le (K : Kx Z own nm bytes ml rt p s m meth c E m0) (pc pc' : Nat) {o : Int} {x y : Int32} (hd : decode bytes pc = .ok (.if_icmp .le o, 3)) (ho : 0 ≤ (pc : Int) + o) (hp : ((pc : Int) + o).toNat = pc') (hT : ¬ y < x → Go p l e R s m args below meth c n0 E Q h k n (mkF m pc' Ls st)) (hF : y < x → Go p l e R s m args below meth c n0 E Q h k n (mkF m (pc + 3) Ls st)) : Go p l e R s m args below meth c n0 E Q h k n (mkF m pc Ls (.int y :: .int x :: st)) := by
  by_cases q : y < x
  · exact go_step (fun T L X t S => XS.icmpNo X.here K.1 rfl (hb K.2.2.2.1 hd) rfl (XT.ii_le_f q) S) (hF q)
  · exact go_step (fun T L X t S => XS.icmpYes X.here K.1 rfl rfl (hb K.2.2.2.1 hd) rfl (XT.ii_le_t q) ho hp S) (hT q)
theorem g_ll_le (K : Kx Z own nm bytes ml rt p s m meth c E m0) (pc pc' : Nat) {o : Int} {x y : Int64} (hd : decode bytes pc = .ok (.ifCond .le o, 3)) (ho : 0 ≤ (pc : Int) + o) (hp : ((pc : Int) + o).toNat = pc') (hT : ¬ y < x → Go p l e R s m args below meth c n0 E Q h k n (mkF m pc' Ls st)) (hF : y < x → Go p l e R s m args below meth c n0 E Q h k n (mkF m (pc + 3) Ls st)) : Go p l e R s m args below meth c n0 E Q h k n (mkF m pc Ls (.int (XT.cmpL x y) :: st)) := by
  by_cases q : y < x
  · exact go_step (fun T L X t S => XS.ifNo X.here K.1 rfl (hb K.2.2.2.1 hd) rfl (XT.ll_le_f q) S) (hF q)
  · exact go_step (fun T L X t S => XS.ifYes X.here K.1 rfl rfl (hb K.2.2.2.1 hd) rfl (XT.ll_le_t q) ho hp S) (hT q)
theorem g_aa_eq (K : Kx Z own nm bytes ml rt p s m meth c E m0) (pc pc' : Nat) {o : Int} {x y : Value} (hx' : x.isRef = true) (hy' : y.isRef = true) (hd : decode bytes pc = .ok (.if_acmp .eq o, 3)) (ho : 0 ≤ (pc : Int) + o) (hp : ((pc : Int) + o).toNat = pc') (hT : x = y → Go p l e R s m args below meth c n0 E Q h k n (mkF m pc' Ls st)) (hF : ¬ x = y → Go p l e R s m args below meth c n0 E Q h k n (mkF m (pc + 3) Ls st)) : Go p l e R s m args below meth c n0 E Q h k n (mkF m pc Ls (y :: x :: st)) := by
  by_cases q : x = y
  · exact go_step (fun T L X t S => XT.acmpYes X.here K.1 rfl rfl (hb K.2.2.2.1 hd) rfl hx' hy' (XT.aa_eq_t q) ho hp S) (hT q)
  · exact go_step (fun T L X t S => XT.acmpNo X.here K.1 rfl (hb K.2.2.2.1 hd) rfl hx' hy' (XT.aa_eq_f q) S) (hF q)
theorem g_aa_ne (K : Kx Z own nm bytes ml rt p s m meth c E m0) (pc pc' : Nat) {o : Int} {x y : Value} (hx' : x.isRef = true) (hy' : y.isRef = true) (hd : decode bytes pc = .ok (.if_acmp .ne o, 3)) (ho : 0 ≤ (pc : Int) + o) (hp : ((pc : Int) + o).toNat = pc') (hT : ¬ x = y → Go p l e R s m args below meth c n0 E Q h k n (mkF m pc' Ls st)) (hF : x = y → Go p l e R s m args below meth c n0 E Q h k n (mkF m (pc + 3) Ls st)) : Go p l e R s m args below meth c n0 E Q h k n (mkF m pc Ls (y :: x :: st)) := by
  by_cases q : x = y
  · exact go_step (fun T L X t S => XT.acmpNo X.here K.1 rfl (hb K.2.2.2.1 hd) rfl hx' hy' (XT.aa_ne_f q) S) (hF q)
  · exact go_step (fun T L X t S => XT.acmpYes X.here K.1 rfl rfl (hb K.2.2.2.1 hd) rfl hx' hy' (XT.aa_ne_t q) ho hp S) (hT q)
theorem g_ifnull_ref (K : Kx Z own nm bytes ml rt p s m meth c E m0) (pc : Nat) {o : Int} {b : Addr} (hd : decode bytes pc = .ok (.ifnull o, 3)) (hr : Go p l e R s m args below meth c n0 E Q h k n (mkF m (pc + 3) Ls st)) : Go p l e R s m args below meth c n0 E Q h k n (mkF m pc Ls (.ref b :: st)) :=
  go_step (fun T L X t S => XS.ifnullNo X.here K.1 rfl (hb K.2.2.2.1 hd) rfl S) hr
theorem g_ifnull_null (K : Kx Z own nm bytes ml rt p s m meth c E m0) (pc pc' : Nat) {o : Int} (hd : decode bytes pc = .ok (.ifnull o, 3)) (ho : 0 ≤ (pc : Int) + o) (hp : ((pc : Int) + o).toNat = pc') (hr : Go p l e R s m args below meth c n0 E Q h k n (mkF m pc' Ls st)) : Go p l e R s m args below meth c n0 E Q h k n (mkF m pc Ls (.null :: st)) :=
  go_step (fun T L X t S => XS.ifnullYes X.here K.1 rfl rfl (hb K.2.2.2.1 hd) rfl ho hp S) hr
theorem g_ldc (K : Kx Z own nm bytes ml rt p s m meth c E m0) (pc : Nat) {i : Nat} {v : Int32} (hd : decode bytes pc = .ok (.ldc i, 2)) (w : (Jvm.Cond.constant own i v).before a0 Z = true) (hr : Go p l e R s m args below meth c n0 E Q h k n (mkF m (pc + 2) Ls (.int v :: st))) : Go p l e R s m args below meth c n0 E Q h k n (mkF m pc Ls st) :=
  go_step (fun T L X t S => X.ldcI K.1 K.2.2.1 (mvT K.2.1 w) rfl (hb K.2.2.2.1 hd) S) hr
theorem g_ldc_w (K : Kx Z own nm bytes ml rt p s m meth c E m0) (pc : Nat) {i : Nat} {v : Int32} (hd : decode bytes pc = .ok (.ldc_w i, 3)) (w : (Jvm.Cond.constant own i v).before a0 Z = true) (hr : Go p l e R s m args below meth c n0 E Q h k n (mkF m (pc + 3) Ls (.int v :: st))) : Go p l e R s m args below meth c n0 E Q h k n (mkF m pc Ls st) :=
  go_step (fun T L X t S => X.ldcWI K.1 K.2.2.1 (mvT K.2.1 w) rfl (hb K.2.2.2.1 hd) S) hr
theorem g_ldc2_w (K : Kx Z own nm bytes ml rt p s m meth c E m0) (pc : Nat) {i : Nat} {v : Int64} (hd : decode bytes pc = .ok (.ldc2_w i, 3)) (w : (Jvm.Cond.constantLong own i v).before a0 Z = true) (hr : Go p l e R s m args below meth c n0 E Q h k n (mkF m (pc + 3) Ls (.long v :: st))) : Go p l e R s m args below meth c n0 E Q h k n (mkF m pc Ls st) :=
  go_step (fun T L X t S => X.ldc2J K.1 K.2.2.1 (mvT K.2.1 w) rfl (hb K.2.2.2.1 hd) S) hr
theorem g_ireturn (K : Kx Z own nm bytes ml rt p s m meth c E m0) (pc : Nat) {z : Int32} (hd : decode bytes pc = .ok (.ireturn, 1)) (hrt : rt = some .int)  (hk : k ≤ R.cells) (hn : n ≤ R.slots) (hq : Q (some (.int z)) h) (hm : m0 ≤ h.size := by first | exact Nat.zero_le _ | exact Nat.le_refl _ | assumption) : Go p l e R s m args below meth c n0 E Q h k n (mkF m pc Ls [.int z]) := by
  intro T L X eT N
  obtain ⟨fs, hr, hrun, hended, hW, hsame⟩ := X.leave (v := some (.int z)) (fun hh => by first | rfl | (rw [K.2.2.2.2.2.1, hrt] at hh; cases hh)) K.2.2.2.2.2.2.1
  refine ⟨_, _, X.ireturnOut K.1 (K.2.2.2.2.2.1.trans hrt) rfl (Or.inl rfl) (hb K.2.2.2.1 hd) hr, hrun, hended, _, L, rfl, ⟨?_, N⟩, K.2.2.2.2.2.2.2.2 _ _ _ _ _ hW (hsame.mono hk hn) (by show m0 ≤ T.heap.size; rw [eT]; exact hm)⟩
  show Q _ T.heap
  rw [eT]; exact hq
theorem g_retN (K : Kx Z own nm bytes ml rt p s m meth c E m0) (pc : Nat) {z : Int32} (t : FieldType) (hd : decode bytes pc = .ok (.ireturn, 1)) (hrt : rt = some t) (ht : t = .boolean ∨ t = .byte ∨ t = .char ∨ t = .short) (hk : k ≤ R.cells) (hn : n ≤ R.slots) (hq : Q (some (.int (nar t z))) h) (hm : m0 ≤ h.size := by first | exact Nat.zero_le _ | exact Nat.le_refl _ | assumption) : Go p l e R s m args below meth c n0 E Q h k n (mkF m pc Ls (.int z :: st)) := by
  intro T L X eT N
  obtain ⟨fs, hr, hrun, hended, hW, hsame⟩ := X.leave (v := some (.int (nar t z))) (fun hh => by first | rfl | (rw [K.2.2.2.2.2.1, hrt] at hh; cases hh)) K.2.2.2.2.2.2.1
  refine ⟨_, _, retN X K.1 (K.2.2.2.2.2.1.trans hrt) ht (hb K.2.2.2.1 hd) hr, hrun, hended, _, L, rfl, ⟨?_, N⟩, K.2.2.2.2.2.2.2.2 _ _ _ _ _ hW (hsame.mono hk hn) (by show m0 ≤ T.heap.size; rw [eT]; exact hm)⟩
  show Q _ T.heap
  rw [eT]; exact hq
theorem g_lreturn (K : Kx Z own nm bytes ml rt p s m meth c E m0) (pc : Nat) {z : Int64} (hd : decode bytes pc = .ok (.lreturn, 1)) (hrt : rt = some .long)  (hk : k ≤ R.cells) (hn : n ≤ R.slots) (hq : Q (some (.long z)) h) (hm : m0 ≤ h.size := by first | exact Nat.zero_le _ | exact Nat.le_refl _ | assumption) : Go p l e R s m args below meth c n0 E Q h k n (mkF m pc Ls [.long z]) := by
  intro T L X eT N
  obtain ⟨fs, hr, hrun, hended, hW, hsame⟩ := X.leave (v := some (.long z)) (fun hh => by first | rfl | (rw [K.2.2.2.2.2.1, hrt] at hh; cases hh)) K.2.2.2.2.2.2.1
  refine ⟨_, _, X.lreturnOut K.1 (K.2.2.2.2.2.1.trans hrt) (hb K.2.2.2.1 hd) hr, hrun, hended, _, L, rfl, ⟨?_, N⟩, K.2.2.2.2.2.2.2.2 _ _ _ _ _ hW (hsame.mono hk hn) (by show m0 ≤ T.heap.size; rw [eT]; exact hm)⟩
  show Q _ T.heap
  rw [eT]; exact hq
theorem g_areturn (K : Kx Z own nm bytes ml rt p s m meth c E m0) (pc : Nat) {w : Value} (t : FieldType) (hd : decode bytes pc = .ok (.areturn, 1)) (hrt : rt = some t) (hw : w.isRef = true) (ht : t.isReference = true) (hk : k ≤ R.cells) (hn : n ≤ R.slots) (hq : Q (some w) h) (hm : m0 ≤ h.size := by first | exact Nat.zero_le _ | exact Nat.le_refl _ | assumption) : Go p l e R s m args below meth c n0 E Q h k n (mkF m pc Ls [w]) := by
  intro T L X eT N
  obtain ⟨fs, hr, hrun, hended, hW, hsame⟩ := X.leave (v := some w) (fun hh => by first | rfl | (rw [K.2.2.2.2.2.1, hrt] at hh; cases hh)) K.2.2.2.2.2.2.1
  refine ⟨_, _, X.areturnOut K.1 hw (K.2.2.2.2.2.1.trans hrt) ht (hb K.2.2.2.1 hd) hr, hrun, hended, _, L, rfl, ⟨?_, N⟩, K.2.2.2.2.2.2.2.2 _ _ _ _ _ hW (hsame.mono hk hn) (by show m0 ≤ T.heap.size; rw [eT]; exact hm)⟩
  show Q _ T.heap
  rw [eT]; exact hq
theorem g_return (K : Kx Z own nm bytes ml rt p s m meth c E m0) (pc : Nat)  (hd : decode bytes pc = .ok (.return_, 1)) (hrt : rt = none)  (hk : k ≤ R.cells) (hn : n ≤ R.slots) (hq : Q none h) (hm : m0 ≤ h.size := by first | exact Nat.zero_le _ | exact Nat.le_refl _ | assumption) : Go p l e R s m args below meth c n0 E Q h k n (mkF m pc Ls []) := by
  intro T L X eT N
  obtain ⟨fs, hr, hrun, hended, hW, hsame⟩ := X.leave (v := none) (fun hh => by first | rfl | (rw [K.2.2.2.2.2.1, hrt] at hh; cases hh)) K.2.2.2.2.2.2.1
  refine ⟨_, _, X.returnOut K.1 (K.2.2.2.2.2.1.trans hrt) (hb K.2.2.2.1 hd) hr, hrun, hended, _, L, rfl, ⟨?_, N⟩, K.2.2.2.2.2.2.2.2 _ _ _ _ _ hW (hsame.mono hk hn) (by show m0 ≤ T.heap.size; rw [eT]; exact hm)⟩
  show Q _ T.heap
  rw [eT]; exact hq
theorem g_getfield (K : Kx Z own nm bytes ml rt p s m meth c E m0) (pc : Nat) {i : Nat} {C f d : String} {a : Addr} {v : Value} (hd : decode bytes pc = .ok (.getfield i, 3)) (w : (Jvm.Cond.fieldLink own i C f d).before a0 Z = true) (F : Fld Z h a C f d v) (hr : Go p l e R s m args below meth c n0 E Q h k n (mkF m (pc + 3) Ls (v :: st))) : Go p l e R s m args below meth c n0 E Q h k n (mkF m pc Ls (.ref a :: st)) := by
  intro T L X eT N
  obtain ⟨T', X', e', stp⟩ := getF X K.1 K.2.1 K.2.2.1 (host := "") (Or.inl w) Via.refl eT F (g := mkF m pc Ls (.ref a :: st)) rfl rfl (hb K.2.2.2.1 hd)
  obtain ⟨s₂, o, S, r⟩ := hr T' L X' e' N
  exact ⟨s₂, o, stp _ S, r⟩
theorem g_putfield (K : Kx Z own nm bytes ml rt p s m meth c E m0) (pc : Nat) {i kk : Nat} {C f d : String} {a : Addr} {v old : Value} (ty : FieldType) (hd : decode bytes pc = .ok (.putfield i, 3)) (w : (Jvm.Cond.fieldLink own i C f d).before a0 Z = true) (F : Fld Z h a C f d old) (Ex_ : Exa Z h a C) (Lw : (Jvm.Cond.lays C C f d).before a0 Z = true ∨ ((Jvm.Cond.laysFinal C C f d).before a0 Z = true ∧ own = C ∧ nm = "<init>")) (wi : (Jvm.Cond.instantiable C kk).before a0 Z = true) (hty : parseFieldDescriptor d = some ty) (hnv : narrow ty v = v) (hfv : fits ty v = true) (ha : n0 ≤ a) (hr : ∀ h', Wr h h' a (Jvm.RoadKit.slotOf Z C f d) v → Keep h h' [a] → Go p l e R s m args below meth c n0 E Q h' k n (mkF m (pc + 3) Ls st)) : Go p l e R s m args below meth c n0 E Q h k n (mkF m pc Ls (v :: .ref a :: st)) := by
  intro T L X eT N
  obtain ⟨T', h', X', e', W, stp⟩ := putF X K.1 K.2.1 K.2.2.1 (host := "") (Or.inl w) Via.refl eT F Ex_ (Lw.imp id fun q => ⟨q.1, q.2.1, K.2.2.2.2.2.2.2.1.trans q.2.2⟩) wi hty hnv hfv (g := mkF m pc Ls (v :: .ref a :: st)) rfl rfl (hb K.2.2.2.1 hd)
  obtain ⟨s₂, o, S, r⟩ := hr h' W (Keep.of_wr W) T' _ X' e' (Fr.snoc X' N ha)
  exact ⟨s₂, o, stp _ S, r⟩
theorem g_new (K : Kx Z own nm bytes ml rt p s m meth c E m0) (pc : Nat) {i kk : Nat} {C : String} (hd : decode bytes pc = .ok (.new i, 3)) (w : (Jvm.Cond.classLink own i C).before a0 Z = true) (wi : (Jvm.Cond.instantiable C kk).before a0 Z = true) (wz : (Jvm.Cond.initialized C).before a0 Z = true) (hk : k + 1 ≤ R.cells) (hn : n + kk ≤ R.slots) (hr : ∀ h' a, a = h.size → Keep h h' [] → Exa Z h' a C → (∀ {O f d : String} {ty : FieldType}, Laid Z a0 C O f d → parseFieldDescriptor d = some ty → Fld Z h' a O f d (defaultValue ty)) → Go p l e R s m args below meth c n0 E Q h' (k + 1) (n + kk) (mkF m (pc + 3) Ls (.ref a :: st))) : Go p l e R s m args below meth c n0 E Q h k n (mkF m pc Ls st) := by
  intro T L X eT N
  obtain ⟨T', h', X', e', E, A, D, -, stp⟩ := newO X K.1 K.2.1 K.2.2.1 w wi wz eT (g := mkF m pc Ls st) rfl (hb K.2.2.2.1 hd) hk hn
  obtain ⟨s₂, o, S, r⟩ := hr h' h.size rfl (keep_ext E) A D T' L X' e' N
  exact ⟨s₂, o, stp _ S, r⟩
theorem g_initO (K : Kx Z own nm bytes ml rt p s m meth c E m0) (pc : Nat) {i : Nat} {a : Addr} (hd : decode bytes pc = .ok (.invokespecial i, 3)) (w1 : (Jvm.Cond.methodLink own i Lib.objectInit).before a0 Z = true) (w2 : (Jvm.Cond.instanceMethod Lib.objectInit).before a0 Z = true) (w3 : (Jvm.Cond.code Lib.objectInit ⟨#[0xb1]⟩ 1 none).before a0 Z = true) (hls : Ls.size = ml) (hf : 1 ≤ R.frames) (W : Nat) (hW : (st.map fun v => v.category).sum ≤ W) (hlo : W + 12 ≤ R.locals) (hr : Go p l e R s m args below meth c n0 E Q h k n (mkF m (pc + 3) Ls st)) : Go p l e R s m args below meth c n0 E Q h k n (mkF m pc Ls (.ref a :: st)) := by
  intro T L X eT N
  obtain ⟨T', X', e', stp⟩ := initO X K.1 K.2.1 K.2.2.1 w1 w2 w3 eT (g := mkF m pc Ls (.ref a :: st)) rfl (hls.trans K.2.2.2.2.1.symm) rfl (hb K.2.2.2.1 hd) hf (W := W) (by show 2 * 0 + _ ≤ _; omega) hlo
  obtain ⟨s₂, o, S, r⟩ := hr T' L X' e' N
  exact ⟨s₂, o, stp _ S, r⟩
theorem g_newI (K : Kx Z own nm bytes ml rt p s m meth c E m0) (pc : Nat) {aty : ArrayType} {z : Int32} (ty : FieldType) (hd : decode bytes pc = .ok (.newarray aty, 2)) (hty : newarray.typeOf aty = ty) (hdef : defaultValue ty = .int 0) (w : (Jvm.Cond.arrayClass ty).before a0 Z = true) (hz : ¬ z < 0) (cap : Nat) (hcap : z.toNatClampNeg ≤ cap) (hb8 : cap * 8 ≤ 536870912) (hk : k + 1 ≤ R.cells) (hn : n + cap ≤ R.slots) (hr : ∀ h' a, a = h.size → Keep h h' [] → IA Z h' a ty (List.replicate z.toNatClampNeg 0) → Go p l e R s m args below meth c n0 E Q h' (k + 1) (n + cap) (mkF m (pc + 2) Ls (.ref a :: st))) : Go p l e R s m args below meth c n0 E Q h k n (mkF m pc Ls (.int z :: st)) := by
  subst hty
  intro T L X eT N
  obtain ⟨T', h', cA, X', e', E, A, stp⟩ := newP X K.1 K.2.1 w eT (g := mkF m pc Ls (.int z :: st)) rfl (hb K.2.2.2.1 hd) rfl hz hcap hb8 hk hn
  obtain ⟨s₂, o, S, r⟩ := hr h' h.size rfl (keep_ext E) ⟨_, A, by simp [newA, hdef]⟩ T' L X' e' N
  exact ⟨s₂, o, stp _ S, r⟩
theorem g_newJ (K : Kx Z own nm bytes ml rt p s m meth c E m0) (pc : Nat) {z : Int32} (hd : decode bytes pc = .ok (.newarray .long, 2)) (w : (Jvm.Cond.arrayClass .long).before a0 Z = true) (hz : ¬ z < 0) (cap : Nat) (hcap : z.toNatClampNeg ≤ cap) (hb8 : cap * 8 ≤ 536870912) (hk : k + 1 ≤ R.cells) (hn : n + cap ≤ R.slots) (hr : ∀ h' a, a = h.size → Keep h h' [] → LA Z h' a (List.replicate z.toNatClampNeg 0) → Go p l e R s m args below meth c n0 E Q h' (k + 1) (n + cap) (mkF m (pc + 2) Ls (.ref a :: st))) : Go p l e R s m args below meth c n0 E Q h k n (mkF m pc Ls (.int z :: st)) := by
  intro T L X eT N
  obtain ⟨T', h', cA, X', e', E, A, stp⟩ := newP X K.1 K.2.1 (aty := .long) w eT (g := mkF m pc Ls (.int z :: st)) rfl (hb K.2.2.2.1 hd) rfl hz hcap hb8 hk hn
  obtain ⟨s₂, o, S, r⟩ := hr h' h.size rfl (keep_ext E) ⟨_, A, by simp [newA, defaultValue, newarray.typeOf]⟩ T' L X' e' N
  exact ⟨s₂, o, stp _ S, r⟩
theorem g_iaload (K : Kx Z own nm bytes ml rt p s m meth c E m0) (pc : Nat) {a : Addr} {xs : List Int32} {j : Int32} (v : Int32) (hd : decode bytes pc = .ok (.iaload, 1)) (F : IA Z h a .int xs) (hj : ¬ j < 0) (hv : xs[j.toNatClampNeg]? = some v) (hr : Go p l e R s m args below meth c n0 E Q h k n (mkF m (pc + 1) Ls (.int v :: st))) : Go p l e R s m args below meth c n0 E Q h k n (mkF m pc Ls (.int j :: .ref a :: st)) := by
  intro T L X eT N
  obtain ⟨cl, A, es⟩ := F
  obtain ⟨s₂, o, S, r⟩ := hr T L X eT N
  have hlt : j.toNatClampNeg < xs.length := (List.getElem?_eq_some_iff.mp hv).1
  refine ⟨s₂, o, X.iaload K.1 (j := j) (v := (.int v)) (by rw [eT]; exact A.1) (State.isArrayOf_alike K.2.1.alike A.2.1) A.2.2 (own_clamp hj hlt (by simp [es])) (by rw [es]; simp [hv]) (g := mkF m pc Ls (.int j :: .ref a :: st)) rfl rfl (hb K.2.2.2.1 hd) _ S, r⟩
theorem g_baload (K : Kx Z own nm bytes ml rt p s m meth c E m0) (pc : Nat) {a : Addr} {xs : List Int32} {j : Int32} (v : Int32) (hd : decode bytes pc = .ok (.baload, 1)) (F : IA Z h a .byte xs) (hj : ¬ j < 0) (hv : xs[j.toNatClampNeg]? = some v) (hr : Go p l e R s m args below meth c n0 E Q h k n (mkF m (pc + 1) Ls (.int v :: st))) : Go p l e R s m args below meth c n0 E Q h k n (mkF m pc Ls (.int j :: .ref a :: st)) := by
  intro T L X eT N
  obtain ⟨cl, A, es⟩ := F
  obtain ⟨s₂, o, S, r⟩ := hr T L X eT N
  have hlt : j.toNatClampNeg < xs.length := (List.getElem?_eq_some_iff.mp hv).1
  refine ⟨s₂, o, X.baloadBytes K.1 (j := j) (v := (.int v)) (by rw [eT]; exact A.1) (State.isArrayOf_alike K.2.1.alike A.2.1) A.2.2 (own_clamp hj hlt (by simp [es])) (by rw [es]; simp [hv]) (g := mkF m pc Ls (.int j :: .ref a :: st)) rfl rfl (hb K.2.2.2.1 hd) _ S, r⟩
theorem g_zaload (K : Kx Z own nm bytes ml rt p s m meth c E m0) (pc : Nat) {a : Addr} {xs : List Int32} {j : Int32} (v : Int32) (hd : decode bytes pc = .ok (.baload, 1)) (F : IA Z h a .boolean xs) (hj : ¬ j < 0) (hv : xs[j.toNatClampNeg]? = some v) (hr : Go p l e R s m args below meth c n0 E Q h k n (mkF m (pc + 1) Ls (.int v :: st))) : Go p l e R s m args below meth c n0 E Q h k n (mkF m pc Ls (.int j :: .ref a :: st)) := by
  intro T L X eT N
  obtain ⟨cl, A, es⟩ := F
  obtain ⟨s₂, o, S, r⟩ := hr T L X eT N
  have hlt : j.toNatClampNeg < xs.length := (List.getElem?_eq_some_iff.mp hv).1
  refine ⟨s₂, o, X.baloadBooleans K.1 (j := j) (v := (.int v)) (by rw [eT]; exact A.1) (State.isArrayOf_alike K.2.1.alike A.2.1) A.2.2 (own_clamp hj hlt (by simp [es])) (by rw [es]; simp [hv]) (g := mkF m pc Ls (.int j :: .ref a :: st)) rfl rfl (hb K.2.2.2.1 hd) _ S, r⟩
theorem g_saload (K : Kx Z own nm bytes ml rt p s m meth c E m0) (pc : Nat) {a : Addr} {xs : List Int32} {j : Int32} (v : Int32) (hd : decode bytes pc = .ok (.saload, 1)) (F : IA Z h a .short xs) (hj : ¬ j < 0) (hv : xs[j.toNatClampNeg]? = some v) (hr : Go p l e R s m args below meth c n0 E Q h k n (mkF m (pc + 1) Ls (.int v :: st))) : Go p l e R s m args below meth c n0 E Q h k n (mkF m pc Ls (.int j :: .ref a :: st)) := by
  intro T L X eT N
  obtain ⟨cl, A, es⟩ := F
  obtain ⟨s₂, o, S, r⟩ := hr T L X eT N
  have hlt : j.toNatClampNeg < xs.length := (List.getElem?_eq_some_iff.mp hv).1
  refine ⟨s₂, o, X.saload K.1 (j := j) (v := (.int v)) (by rw [eT]; exact A.1) (State.isArrayOf_alike K.2.1.alike A.2.1) A.2.2 (own_clamp hj hlt (by simp [es])) (by rw [es]; simp [hv]) (g := mkF m pc Ls (.int j :: .ref a :: st)) rfl rfl (hb K.2.2.2.1 hd) _ S, r⟩
theorem g_laload (K : Kx Z own nm bytes ml rt p s m meth c E m0) (pc : Nat) {a : Addr} {xs : List Int64} {j : Int32} (v : Int64) (hd : decode bytes pc = .ok (.laload, 1)) (F : LA Z h a xs) (hj : ¬ j < 0) (hv : xs[j.toNatClampNeg]? = some v) (hr : Go p l e R s m args below meth c n0 E Q h k n (mkF m (pc + 1) Ls (.long v :: st))) : Go p l e R s m args below meth c n0 E Q h k n (mkF m pc Ls (.int j :: .ref a :: st)) := by
  intro T L X eT N
  obtain ⟨cl, A, es⟩ := F
  obtain ⟨s₂, o, S, r⟩ := hr T L X eT N
  have hlt : j.toNatClampNeg < xs.length := (List.getElem?_eq_some_iff.mp hv).1
  refine ⟨s₂, o, X.laload K.1 (j := j) (v := (.long v)) (by rw [eT]; exact A.1) (State.isArrayOf_alike K.2.1.alike A.2.1) A.2.2 (own_clamp hj hlt (by simp [es])) (by rw [es]; simp [hv]) (g := mkF m pc Ls (.int j :: .ref a :: st)) rfl rfl (hb K.2.2.2.1 hd) _ S, r⟩
theorem g_iastore (K : Kx Z own nm bytes ml rt p s m meth c E m0) (pc : Nat) {a : Addr} {xs : List Int32} {j : Int32} {x : Int32} (hd : decode bytes pc = .ok (.iastore, 1)) (F : IA Z h a .int xs) (hj : ¬ j < 0) (hlt : j.toNatClampNeg < xs.length) (ha : n0 ≤ a) (hr : ∀ h', Keep h h' [a] → IA Z h' a .int (xs.set j.toNatClampNeg (x)) → Go p l e R s m args below meth c n0 E Q h' k n (mkF m (pc + 1) Ls st)) : Go p l e R s m args below meth c n0 E Q h k n (mkF m pc Ls (.int x :: .int j :: .ref a :: st)) := by
  intro T L X eT N
  have F' := F
  obtain ⟨cl, A, es⟩ := F
  obtain ⟨T', h', X', e', W, stp⟩ := stI X K.1 K.2.1 eT A (j := j) (x := x) (own_clamp hj hlt (by simp [es])) (g := mkF m pc Ls (.int x :: .int j :: .ref a :: st)) rfl rfl (hb K.2.2.2.1 hd)
  obtain ⟨s₂, o, S, r⟩ := hr h' (Keep.of_wr W) (F'.set W) T' _ X' e' (Fr.snoc X' N ha)
  exact ⟨s₂, o, stp _ S, r⟩
theorem g_bastore (K : Kx Z own nm bytes ml rt p s m meth c E m0) (pc : Nat) {a : Addr} {xs : List Int32} {j : Int32} {x : Int32} (hd : decode bytes pc = .ok (.bastore, 1)) (F : IA Z h a .byte xs) (hj : ¬ j < 0) (hlt : j.toNatClampNeg < xs.length) (ha : n0 ≤ a) (hr : ∀ h', Keep h h' [a] → IA Z h' a .byte (xs.set j.toNatClampNeg (nar .byte x)) → Go p l e R s m args below meth c n0 E Q h' k n (mkF m (pc + 1) Ls st)) : Go p l e R s m args below meth c n0 E Q h k n (mkF m pc Ls (.int x :: .int j :: .ref a :: st)) := by
  intro T L X eT N
  have F' := F
  obtain ⟨cl, A, es⟩ := F
  obtain ⟨T', h', X', e', W, stp⟩ := stB X K.1 K.2.1 eT A (j := j) (x := x) (own_clamp hj hlt (by simp [es])) (g := mkF m pc Ls (.int x :: .int j :: .ref a :: st)) rfl rfl (hb K.2.2.2.1 hd)
  obtain ⟨s₂, o, S, r⟩ := hr h' (Keep.of_wr W) (F'.set W) T' _ X' e' (Fr.snoc X' N ha)
  exact ⟨s₂, o, stp _ S, r⟩
theorem g_zastore (K : Kx Z own nm bytes ml rt p s m meth c E m0) (pc : Nat) {a : Addr} {xs : List Int32} {j : Int32} {x : Int32} (hd : decode bytes pc = .ok (.bastore, 1)) (F : IA Z h a .boolean xs) (hj : ¬ j < 0) (hlt : j.toNatClampNeg < xs.length) (ha : n0 ≤ a) (hr : ∀ h', Keep h h' [a] → IA Z h' a .boolean (xs.set j.toNatClampNeg (nar .boolean x)) → Go p l e R s m args below meth c n0 E Q h' k n (mkF m (pc + 1) Ls st)) : Go p l e R s m args below meth c n0 E Q h k n (mkF m pc Ls (.int x :: .int j :: .ref a :: st)) := by
  intro T L X eT N
  have F' := F
  obtain ⟨cl, A, es⟩ := F
  obtain ⟨T', h', X', e', W, stp⟩ := stZ X K.1 K.2.1 eT A (j := j) (x := x) (own_clamp hj hlt (by simp [es])) (g := mkF m pc Ls (.int x :: .int j :: .ref a :: st)) rfl rfl (hb K.2.2.2.1 hd)
  obtain ⟨s₂, o, S, r⟩ := hr h' (Keep.of_wr W) (F'.set W) T' _ X' e' (Fr.snoc X' N ha)
  exact ⟨s₂, o, stp _ S, r⟩
theorem g_sastore (K : Kx Z own nm bytes ml rt p s m meth c E m0) (pc : Nat) {a : Addr} {xs : List Int32} {j : Int32} {x : Int32} (hd : decode bytes pc = .ok (.sastore, 1)) (F : IA Z h a .short xs) (hj : ¬ j < 0) (hlt : j.toNatClampNeg < xs.length) (ha : n0 ≤ a) (hr : ∀ h', Keep h h' [a] → IA Z h' a .short (xs.set j.toNatClampNeg (nar .short x)) → Go p l e R s m args below meth c n0 E Q h' k n (mkF m (pc + 1) Ls st)) : Go p l e R s m args below meth c n0 E Q h k n (mkF m pc Ls (.int x :: .int j :: .ref a :: st)) := by
  intro T L X eT N
  have F' := F
  obtain ⟨cl, A, es⟩ := F
  obtain ⟨T', h', X', e', W, stp⟩ := stS X K.1 K.2.1 eT A (j := j) (x := x) (own_clamp hj hlt (by simp [es])) (g := mkF m pc Ls (.int x :: .int j :: .ref a :: st)) rfl rfl (hb K.2.2.2.1 hd)
  obtain ⟨s₂, o, S, r⟩ := hr h' (Keep.of_wr W) (F'.set W) T' _ X' e' (Fr.snoc X' N ha)
  exact ⟨s₂, o, stp _ S, r⟩
theorem g_lastore (K : Kx Z own nm bytes ml rt p s m meth c E m0) (pc : Nat) {a : Addr} {xs : List Int64} {j : Int32} {x : Int64} (hd : decode bytes pc = .ok (.lastore, 1)) (F : LA Z h a xs) (hj : ¬ j < 0) (hlt : j.toNatClampNeg < xs.length) (ha : n0 ≤ a) (hr : ∀ h', Keep h h' [a] → LA Z h' a (xs.set j.toNatClampNeg (x)) → Go p l e R s m args below meth c n0 E Q h' k n (mkF m (pc + 1) Ls st)) : Go p l e R s m args below meth c n0 E Q h k n (mkF m pc Ls (.long x :: .int j :: .ref a :: st)) := by
  intro T L X eT N
  have F' := F
  obtain ⟨cl, A, es⟩ := F
  obtain ⟨T', h', X', e', W, stp⟩ := stJ X K.1 K.2.1 eT A (j := j) (x := x) (own_clamp hj hlt (by simp [es])) (g := mkF m pc Ls (.long x :: .int j :: .ref a :: st)) rfl rfl (hb K.2.2.2.1 hd)
  obtain ⟨s₂, o, S, r⟩ := hr h' (Keep.of_wr W) (F'.set W) T' _ X' e' (Fr.snoc X' N ha)
  exact ⟨s₂, o, stp _ S, r⟩
theorem g_alen (K : Kx Z own nm bytes ml rt p s m meth c E m0) (pc : Nat) {a : Addr} {ty : FieldType} {xs : List Int32} (v : Int32) (hd : decode bytes pc = .ok (.arraylength, 1)) (F : IA Z h a ty xs) (hv : xs.length.toInt32 = v) (hr : Go p l e R s m args below meth c n0 E Q h k n (mkF m (pc + 1) Ls (.int v :: st))) : Go p l e R s m args below meth c n0 E Q h k n (mkF m pc Ls (.ref a :: st)) := by
  intro T L X eT N
  obtain ⟨cl, A, es⟩ := F
  obtain ⟨s₂, o, S, r⟩ := hr T L X eT N
  have hq : cl.slots.size.toInt32 = v := by rw [es]; simpa using hv
  refine ⟨s₂, o, X.arraylength K.1 (cell := cl) (by rw [eT]; exact A.1) (State.isArrayOf_alike K.2.1.alike A.2.1) (g := mkF m pc Ls (.ref a :: st)) rfl (rest := st) rfl (hb K.2.2.2.1 hd) _ ?_, r⟩
  rw [hq]; exact S
theorem g_callS (K : Kx Z own nm bytes ml rt p s m meth c E m0) (pc : Nat) {i : Nat} {y : MethodName} {b2 : ByteArray} {ml2 : Nat} {rt2 : Option FieldType} {rm : Room} {Q' : Option Value → Heap → Prop} {sig : MethodDescriptor} {S0 : List Value} (argsL : List Value) (W : Nat) (hd : decode bytes pc = .ok (.invokestatic i, 3))
    (M : Meets l y b2 ml2 rt2 rm Z argsL.toArray h n0 Q') (wl : (Jvm.Cond.methodLink own i y).before a0 Z = true) (ws : (Jvm.Cond.static y).before a0 Z = true) (wz : (Jvm.Cond.initialized y.cls).before a0 Z = true) (wc : (Jvm.Cond.code y b2 ml2 rt2).before a0 Z = true) (hy : y.cls ≠ "java/lang/invoke/MethodHandle" ∧ y.cls ≠ "java/lang/invoke/VarHandle")
    (hpd : parseMethodDescriptor y.desc = some sig) (hlen : argsL.length = sig.parameters.length) (hS : S0 = argsL.reverse ++ st) (hW : (st.map fun v => v.category).sum ≤ W) (hls : Ls.size = ml) (hf : rm.frames + 1 ≤ R.frames) (hlo : W + (ml2 + 11) + rm.locals ≤ R.locals) (hk : k + rm.cells ≤ R.cells) (hn : n + rm.slots ≤ R.slots)
    (hr : ∀ v h', Q' v h' → Go p l e R s m args below meth c n0 E Q h' (k + rm.cells) (n + rm.slots) (mkF m (pc + 3) Ls (v.toList ++ st))) : Go p l e R s m args below meth c n0 E Q h k n (mkF m pc Ls S0) := by
  subst hS
  intro T L X eT N
  obtain ⟨v, vm₁, ⟨T', L', k', n'⟩, -, X', ⟨L2, hQ, l1, y1, z1⟩, stp⟩ := Jvm.LawKit.callS X K.1 (y := y) K.2.2.1 (mvT K.2.1 wl) (mvT K.2.1 ws) (mvT K.2.1 wz) (mvT K.2.1 wc) hy (backOf (W := W) (Q := fun v h L => Q' v h ∧ Fr n0 L) (M []) K.2.1 wc wz hf hlo) (g := mkF m pc Ls (argsL.reverse ++ st)) rfl (hls.trans K.2.2.2.2.1.symm) (argsL := argsL) (rest := st) (fun sg h => by cases hpd.symm.trans h; exact hlen) rfl (by show 2 * 0 + _ ≤ _; omega) (hb K.2.2.2.1 hd) (fun _ _ => ⟨rfl, eT, hk, hn⟩)
  dsimp only [Pt.U, Pt.locs, Pt.cells, Pt.slots] at X' l1 y1 z1 stp hQ
  subst l1 y1 z1
  obtain ⟨s₂, o, S, r⟩ := hr v _ hQ.1 T' _ X' rfl (Fr.app N hQ.2)
  exact ⟨s₂, o, stp _ S, r⟩
theorem g_callN (K : Kx Z own nm bytes ml rt p s m meth c E m0) (pc : Nat) {i : Nat} {y : MethodName} {b2 : ByteArray} {ml2 : Nat} {rm : Room} {Q' : Option Value → Heap → Prop} {sig : MethodDescriptor} {S0 : List Value} {a : Addr} (argsL : List Value) (W : Nat) (hd : decode bytes pc = .ok (.invokespecial i, 3))
    (M : Meets l y b2 ml2 none rm Z (.ref a :: argsL).toArray h n0 Q') (hy1 : y.name = "<init>") (wl : (Jvm.Cond.methodLink own i y).before a0 Z = true) (wi : (Jvm.Cond.instanceMethod y).before a0 Z = true) (wz : (Jvm.Cond.initialized y.cls).before a0 Z = true) (wc : (Jvm.Cond.code y b2 ml2 none).before a0 Z = true) (hy : y.cls ≠ "java/lang/invoke/MethodHandle" ∧ y.cls ≠ "java/lang/invoke/VarHandle")
    (hpd : parseMethodDescriptor y.desc = some sig) (hlen : argsL.length = sig.parameters.length) (hS : S0 = argsL.reverse ++ .ref a :: st) (hW : (st.map fun v => v.category).sum ≤ W) (hls : Ls.size = ml) (hf : rm.frames + 1 ≤ R.frames) (hlo : W + (ml2 + 11) + rm.locals ≤ R.locals) (hk : k + rm.cells ≤ R.cells) (hn : n + rm.slots ≤ R.slots)
    (hr : ∀ v h', Q' v h' → Go p l e R s m args below meth c n0 E Q h' (k + rm.cells) (n + rm.slots) (mkF m (pc + 3) Ls (v.toList ++ st))) : Go p l e R s m args below meth c n0 E Q h k n (mkF m pc Ls S0) := by
  subst hS
  intro T L X eT N
  obtain ⟨v, vm₁, ⟨T', L', k', n'⟩, -, X', ⟨L2, hQ, l1, y1, z1⟩, stp⟩ := X.specialBack K.1 (y := y) hy1 K.2.2.1 (mvT K.2.1 wl) (mvT K.2.1 wi) (mvT K.2.1 wc) hy (backOf (W := W) (Q := fun v h L => Q' v h ∧ Fr n0 L) (M []) K.2.1 wc wz hf hlo) (g := mkF m pc Ls (argsL.reverse ++ .ref a :: st)) rfl (hls.trans K.2.2.2.2.1.symm) (Steps.refl _) (a := a) (argsL := argsL) (rest := st) (fun sg h => by cases hpd.symm.trans h; exact hlen) rfl (by show 2 * 0 + _ ≤ _; omega) (hb K.2.2.2.1 hd) (fun _ _ => ⟨rfl, eT, hk, hn⟩)
  dsimp only [Pt.U, Pt.locs, Pt.cells, Pt.slots] at X' l1 y1 z1 stp hQ
  subst l1 y1 z1
  obtain ⟨s₂, o, S, r⟩ := hr v _ hQ.1 T' _ X' rfl (Fr.app N hQ.2)
  exact ⟨s₂, o, stp.trans S, r⟩
theorem g_callV (K : Kx Z own nm bytes ml rt p s m meth c E m0) (pc : Nat) {i : Nat} {y z : MethodName} {C : String} {b2 : ByteArray} {ml2 : Nat} {rt2 : Option FieldType} {rm : Room} {Q' : Option Value → Heap → Prop} {sig : MethodDescriptor} {S0 : List Value} {a : Addr} (argsL : List Value) (W : Nat) (hd : decode bytes pc = .ok (.invokevirtual i, 3))
    (M : Meets l z b2 ml2 rt2 rm Z (.ref a :: argsL).toArray h n0 Q') (Ex_ : Exa Z h a C) (wl : (Jvm.Cond.methodLink own i y).before a0 Z = true) (wd : (Jvm.Cond.declares y).before a0 Z = true) (wsel : (Jvm.Cond.selects C y z).before a0 Z = true) (wself : (Jvm.Cond.selects y.cls y y).before a0 Z = true) (wi : (Jvm.Cond.instanceMethod z).before a0 Z = true) (wz : (Jvm.Cond.initialized z.cls).before a0 Z = true) (wc : (Jvm.Cond.code z b2 ml2 rt2).before a0 Z = true) (hy : y.cls ≠ "java/lang/invoke/MethodHandle" ∧ y.cls ≠ "java/lang/invoke/VarHandle")
    (hpd : parseMethodDescriptor y.desc = some sig) (hlen : argsL.length = sig.parameters.length) (hS : S0 = argsL.reverse ++ .ref a :: st) (hW : (st.map fun v => v.category).sum ≤ W) (hls : Ls.size = ml) (hf : rm.frames + 1 ≤ R.frames) (hlo : W + (ml2 + 11) + rm.locals ≤ R.locals) (hk : k + rm.cells ≤ R.cells) (hn : n + rm.slots ≤ R.slots)
    (hr : ∀ v h', Q' v h' → Go p l e R s m args below meth c n0 E Q h' (k + rm.cells) (n + rm.slots) (mkF m (pc + 3) Ls (v.toList ++ st))) : Go p l e R s m args below meth c n0 E Q h k n (mkF m pc Ls S0) := by
  subst hS
  intro T L X eT N
  obtain ⟨cB, kB, q1, q2, q3⟩ := isOf K.2.1 eT Ex_
  obtain ⟨v, vm₁, ⟨T', L', k', n'⟩, -, X', ⟨L2, hQ, l1, y1, z1⟩, stp⟩ := X.virtualBack K.1 (y := y) (z := z) K.2.2.1 (mvT K.2.1 wl) (mvT K.2.1 wd) (notFace_of_selects (args := #[]) (mvT K.2.1 wself)) (mvT K.2.1 wsel) (mvT K.2.1 wi) hy (backOf (W := W) (Q := fun v h L => Q' v h ∧ Fr n0 L) (M []) K.2.1 wc wz hf hlo) q1 q3 (g := mkF m pc Ls (argsL.reverse ++ .ref a :: st)) rfl (hls.trans K.2.2.2.2.1.symm) (Steps.refl _) (argsL := argsL) (rest := st) (fun sg h => by cases hpd.symm.trans h; exact hlen) rfl (by show 2 * 0 + _ ≤ _; omega) (hb K.2.2.2.1 hd) (fun _ _ => ⟨rfl, eT, hk, hn⟩)
  dsimp only [Pt.U, Pt.locs, Pt.cells, Pt.slots] at X' l1 y1 z1 stp hQ
  subst l1 y1 z1
  obtain ⟨s₂, o, S, r⟩ := hr v _ hQ.1 T' _ X' rfl (Fr.app N hQ.2)
  exact ⟨s₂, o, stp.trans S, r⟩
end GoSteps
theorem meets_of {l : Launch} {y : MethodName} {bytes : ByteArray} {ml : Nat} {rt : Option FieldType} {rm : Room} {Z : State} {as : Array Value} {h0 : Heap} {n0 : Nat} {Q : Option Value → Heap → Prop} (hx : plainFor y = true) {Ls : Array Slot} (hef : ∀ m, entryFrame m as ml = mkF m 0 Ls [])
    (body : ∀ p e s m below meth c, Kx Z y.cls y.name bytes ml rt p s m meth c (FrameEnd s) 0 → Go p l e rm s m as below meth c n0 (FrameEnd s) Q h0 0 0 (mkF m 0 Ls [])) : Meets l y bytes ml rt rm Z as h0 n0 Q := by
  intro ws
  refine MetFree.of_bodySF hx hisR ?_
  intro p e s m args below meth c s₁ Bd hml0 hP hK
  obtain ⟨rfl, hZ, hh⟩ := hP
  have X0 : Stand p l e rm s m args below meth c s₁ [] 0 0 := Stand.of_body Bd
  have e0 : s₁.heap = h0 := by rw [← hh, Bd.state]; rfl
  obtain ⟨s₂, o, S, r1, r2, r3⟩ := body p e s m below meth c ⟨Bd.exec, hZ, findClass_of_methodNamed Bd.named, Bd.bytes, hml0, Bd.returns, Bd.notSynchronized, (name_of_methodNamed Bd.named Bd.method).1, fun v t L k n hW hs _ => ⟨⟨_, rfl⟩, hW, hs⟩⟩ s₁ [] X0 e0 (Fr.nil n0)
  exact ⟨s₂, o, castTop (hef m) S, r1, r2, r3⟩
theorem tw {a0 : Array Value} {Z : State} {ts : List Jvm.Cond} (hw : ∀ d ∈ ts, d.before a0 Z = true) (i : Nat) {d : Jvm.Cond} (q : ts[i]? = some d) : d.before a0 Z = true := hw _ (List.mem_of_getElem? q)

section GoMore
variable {p : Program} {l : Launch} {e : Env} {R : Room} {s : State} {m : MethodId} {args : Array Value} {below : List Frame} {meth : Method} {c : Code} {n0 : Nat} {E : Outcome → State → List Loc → Nat → Nat → Prop} {m0 : Nat} {Q : Option Value → Heap → Prop} {h : Heap} {k n : Nat} {Z : State} {own nm : String} {bytes : ByteArray} {ml : Nat} {rt : Option FieldType} {Ls : Array Slot} {st : List Value} {a0 : Array Value}
theorem sta_keep {C f d : String} {v : Value} {h h' : Heap} {ws : List Addr} (F : Sta Z h C f d v) (K : Keep h h' ws) (q : ∀ x ∈ ws, ∀ cell : Cell, h[x]? = some cell → cell.vm.isStatics = false) : Sta Z h' C f d v := by
  obtain ⟨cf, i, k, fl, st, cell, h1, h2, h3, h4, h5, h6, h7⟩ := F
  refine ⟨cf, i, k, fl, st, cell, h1, h2, h3, h4, K.2.1 st cell h5 (fun hm => ?_), h6, h7⟩
  have := q st hm cell h5
  rw [h6] at this; cases this
theorem g_getstatic (K : Kx Z own nm bytes ml rt p s m meth c E m0) (pc : Nat) {i : Nat} {C f d : String} {v : Value} (hd : decode bytes pc = .ok (.getstatic i, 3)) (w : (Jvm.Cond.fieldLink own i C f d).before a0 Z = true) (F : Sta Z h C f d v) (hr : Go p l e R s m args below meth c n0 E Q h k n (mkF m (pc + 3) Ls (v :: st))) : Go p l e R s m args below meth c n0 E Q h k n (mkF m pc Ls st) := by
  intro T L X eT N
  obtain ⟨T', X', e', stp⟩ := getS X K.1 K.2.1 K.2.2.1 (host := "") w Via.refl eT F (g := mkF m pc Ls st) rfl (hb K.2.2.2.1 hd)
  obtain ⟨s₂, o, S, r⟩ := hr T' L X' e' N
  exact ⟨s₂, o, stp _ S, r⟩
/-- a contract of a method that may intern; its start is as warm as Z by WarmedH -/
def MeetsW (l : Launch) (y : MethodName) (bytes : ByteArray) (ml : Nat) (rt : Option FieldType) (rm : Room) (Z : State) (as : Array Value) (h0 : Heap) (n0 : Nat) (Q : Option Value → Heap → Prop) : Prop :=
  ∀ ws : List Jvm.Cond, MetFree l y (head1 (Jvm.Cond.code y bytes ml rt :: ws) rm) (fun a U => a = as ∧ Z.WarmedH U.vm ∧ U.heap = h0) (fun _ _ _ _ _ => True)
    (fun _ U o U' => ∃ v L, o = .returned v ∧ (Q v U'.heap ∧ Fr n0 L) ∧ ReturnedEndW U o U' L rm.cells rm.slots)
theorem meetsW_of {l : Launch} {y : MethodName} {bytes : ByteArray} {ml : Nat} {rt : Option FieldType} {rm : Room} {Z : State} {as : Array Value} {h0 : Heap} {n0 : Nat} {Q : Option Value → Heap → Prop} (hx : plainFor y = true) {Ls : Array Slot} (hef : ∀ m, entryFrame m as ml = mkF m 0 Ls [])
    (body : ∀ p e s m below meth c, Kx Z y.cls y.name bytes ml rt p s m meth c (ReturnedEndW s) 0 → Z.WarmedH s.vm → s.heap = h0 → Go p l e rm s m as below meth c n0 (ReturnedEndW s) Q h0 0 0 (mkF m 0 Ls [])) : MeetsW l y bytes ml rt rm Z as h0 n0 Q := by
  intro ws
  refine MetFree.of_bodySF hx hisR ?_
  intro p e s m args below meth c s₁ Bd hml0 hP hK
  obtain ⟨rfl, hZ, hh⟩ := hP
  have X0 : Stand p l e rm s m args below meth c s₁ [] 0 0 := Stand.of_body Bd
  have e0 : s₁.heap = h0 := by rw [← hh, Bd.state]; rfl
  obtain ⟨s₂, o, S, r1, r2, r3⟩ := body p e s m below meth c ⟨Bd.exec, hZ.wide, findClass_of_methodNamed Bd.named, Bd.bytes, hml0, Bd.returns, Bd.notSynchronized, (name_of_methodNamed Bd.named Bd.method).1, fun v t L k n hW hs _ => ReturnedEndW.of_narrow ⟨_, rfl⟩ hW hs⟩ hZ hh s₁ [] X0 e0 (Fr.nil n0)
  exact ⟨s₂, o, castTop (hef m) S, r1, r2, r3⟩
theorem backW {y : MethodName} {bytes : ByteArray} {maxL : Nat} {ret : Option FieldType} {rm : Room} {len W : Nat} {as' : Array Value} {Q : Option Value → Heap → Prop} {n1 : Nat} (M : MeetsW l y bytes maxL ret rm s as' h n1 Q)
    (wc : (Jvm.Cond.code y bytes maxL ret).before a0 s = true) (wz : (Jvm.Cond.initialized y.cls).before a0 s = true) (hf : rm.frames + 1 ≤ R.frames) (hl : W + (maxL + 11) + rm.locals ≤ R.locals) :
    BackS l R p e below s args y len W (fun A a => a = as' ∧ A.U.heap = h ∧ A.cells + rm.cells ≤ R.cells ∧ A.slots + rm.slots ≤ R.slots)
      (fun A _ v B => ∃ L, (Q v B.U.heap ∧ Fr n1 L) ∧ B.locs = A.locs ++ L ∧ B.cells = A.cells + rm.cells ∧ B.slots = A.slots + rm.slots) :=
  BackS.of_freeW (bytes := bytes) (maxL := maxL) (ret := ret) (E := fun _ _ o t L k n => k = rm.cells ∧ n = rm.slots ∧ ∃ v, o = .returned v ∧ (Q v t.heap ∧ Fr n1 L)) (M []) hf hl
    (fun m meth c A a Y hp => have hU : s.Warmed39 A.U.vm := Y.warmed.wide
      ⟨by show (Jvm.Cond.and _ .tt).before a A.U = true; rw [Cond.before_and, mv hU wc]; rfl, mv hU wc, mv hU wz, hp.2.2.1, hp.2.2.2⟩)
    (fun m meth c A a g mk Y hp => ⟨hp.1, Y.warmed, hp.2.1⟩) (fun _ _ _ _ _ _ _ _ _ => trivial)
    (fun _ _ _ _ ⟨v, L, h1, h2, h3⟩ => ⟨L, _, _, h3, rfl, rfl, v, h1, h2⟩)
    (fun m meth c A a g mk v t L k n Y hp _ _ ⟨e1, e2, v', e3, e4⟩ => by cases e3; subst e1 e2; exact ⟨L, e4, rfl, rfl, rfl⟩)
/-- the call of such a method, from a walk whose start is Z itself: behind it the walk stands over 's.setVm vm1' -/
theorem g_callVW (K : Kx s own nm bytes ml rt p s m meth c E m0) (pc : Nat) {i : Nat} {y z : MethodName} {C : String} {b2 : ByteArray} {ml2 : Nat} {rt2 : Option FieldType} {rm : Room} {Q' : Option Value → Heap → Prop} {sig : MethodDescriptor} {S0 : List Value} {a : Addr} {n1 : Nat} (argsL : List Value) (W : Nat) (hd : decode bytes pc = .ok (.invokevirtual i, 3))
    (M : MeetsW l z b2 ml2 rt2 rm s (.ref a :: argsL).toArray h n1 Q') (hn1 : n0 ≤ n1) (Ex_ : Exa s h a C) (wl : (Jvm.Cond.methodLink own i y).before a0 s = true) (wd : (Jvm.Cond.declares y).before a0 s = true) (wsel : (Jvm.Cond.selects C y z).before a0 s = true) (wself : (Jvm.Cond.selects y.cls y y).before a0 s = true) (wi : (Jvm.Cond.instanceMethod z).before a0 s = true) (wz : (Jvm.Cond.initialized z.cls).before a0 s = true) (wc : (Jvm.Cond.code z b2 ml2 rt2).before a0 s = true) (hy : y.cls ≠ "java/lang/invoke/MethodHandle" ∧ y.cls ≠ "java/lang/invoke/VarHandle")
    (hpd : parseMethodDescriptor y.desc = some sig) (hlen : argsL.length = sig.parameters.length) (hS : S0 = argsL.reverse ++ .ref a :: st) (hW : (st.map fun v => v.category).sum ≤ W) (hls : Ls.size = ml) (hf : rm.frames + 1 ≤ R.frames) (hlo : W + (ml2 + 11) + rm.locals ≤ R.locals) (hk : k + rm.cells ≤ R.cells) (hn : n + rm.slots ≤ R.slots)
    (hE : E = ReturnedEndW s)
    (hr : ∀ v h' vm1, Q' v h' → h.size ≤ h'.size → Kx s own nm bytes ml rt p (s.setVm vm1) m meth c E h'.size → Go p l e R (s.setVm vm1) m args below meth c n0 E Q h' (k + rm.cells) (n + rm.slots) (mkF m (pc + 3) Ls (v.toList ++ st))) : Go p l e R s m args below meth c n0 E Q h k n (mkF m pc Ls S0) := by
  subst hS
  intro T L X eT N
  obtain ⟨cB, kB, q1, q2, q3⟩ := isOf K.2.1 eT Ex_
  obtain ⟨v, vm₁, ⟨T', L', k', n'⟩, -, X', hSi, hgr, ⟨L2, hQ, l1, y1, z1⟩, stp⟩ := X.virtualBackS K.1 (y := y) (z := z) K.2.2.1 (mvT K.2.1 wl) (mvT K.2.1 wd) (notFace_of_selects (args := #[]) (mvT K.2.1 wself)) (mvT K.2.1 wsel) (mvT K.2.1 wi) hy (backW (W := W) M wc wz hf hlo) q1 q3 (g := mkF m pc Ls (argsL.reverse ++ .ref a :: st)) rfl (hls.trans K.2.2.2.2.1.symm) (Steps.refl _) (argsL := argsL) (rest := st) (fun sg h => by cases hpd.symm.trans h; exact hlen) rfl (by show 2 * 0 + _ ≤ _; omega) (hb K.2.2.2.1 hd) (fun _ _ => ⟨rfl, eT, hk, hn⟩)
  dsimp only [Pt.U, Pt.locs, Pt.cells, Pt.slots] at X' l1 y1 z1 stp hQ hSi hgr
  subst l1 y1 z1
  have hown' : (s.setVm T'.vm).vm.findClass own = some m.cls := (hSi.1.alike.findClass _ _).trans K.2.2.1
  obtain ⟨s₂, o, S, r⟩ := hr v _ T'.vm hQ.1 (eT ▸ hgr) ⟨K.1, hSi.1, hown', K.2.2.2.1, K.2.2.2.2.1, K.2.2.2.2.2.1, K.2.2.2.2.2.2.1, K.2.2.2.2.2.2.2.1, fun v t L k n hW hs hm => by
    subst hE
    obtain ⟨a, b, c'⟩ := hSi.ended (U := t) hW hm hs
    exact ⟨⟨v, rfl⟩, a, b, c'⟩⟩ T' _ X' rfl (Fr.app N fun y hy => Nat.le_trans hn1 (hQ.2 y hy))
  exact ⟨s₂, o, stp.trans S, r⟩
end GoMore
section LdcS
variable {p : Program} {l : Launch} {e : Env} {R : Room} {s : State} {m : MethodId} {args : Array Value} {below : List Frame} {meth : Method} {c : Code} {Q : Option Value → Heap → Prop} {h : Heap} {k n : Nat} {Z : State} {own nm : String} {bytes : ByteArray} {ml : Nat} {rt : Option FieldType} {Ls : Array Slot} {st : List Value} {a0 : Array Value}
theorem IA.of_arv {b : Addr} {kc : ClassId} {ty : FieldType} {z : Int32} {xs : List Int32} {d : Value} (F : Arv Z h b kc ty z (xs.map Value.int) d) (hl : z.toNatClampNeg = xs.length) : IA Z h b ty xs := by
  obtain ⟨cl, A, -, S, -, H, -⟩ := F
  refine ⟨cl, A, ?_⟩
  apply Array.ext_getElem?
  intro i
  by_cases q : i < cl.slots.size
  · rw [H i q]
    have : i < xs.length := by omega
    simp [this]
  · rw [Array.getElem?_eq_none (by omega), Array.getElem?_eq_none]
    simp only [List.size_toArray, List.length_map]; omega
theorem g_ldcS (K : Kx Z own nm bytes ml rt p s m meth c (ReturnedEndW s) 0) (pc : Nat) {i : Nat} {text : String} (N : Nat) (z : Int32) (xs : List Int32) (hd : decode bytes pc = .ok (.ldc i, 2)) (w : (Jvm.Cond.stringLink own i text).before a0 Z = true) (wS : ∀ a ∈ Bundle.stringAtoms, a.before a0 Z = true) (hZH : Z.WarmedH s.vm) (hsz : s.heap.size ≤ h.size)
    (hkeep : ∀ (b : Addr) (cl : Cell), Z.heap[b]? = some cl → s.heap[b]? = some cl) (hh : Jvm.Lit.constHeld Z own i) (hcw : Jvm.Lit.compactW.before a0 Z = true) (ht : (∀ c ∈ text.toList, c.toNat < 256) ∧ text.toList.map (fun c => Jvm.Lit.byteI c.toNat.toUInt16) = xs) (hz : ¬ z < 0) (hl : z.toNatClampNeg = xs.length)
    (hN : 4 * text.toList.length ≤ N) (hbig : N ≤ 536870912) (hk : k + 2 ≤ R.cells) (hn : n + (N + 4) ≤ R.slots)
    (hr : ∀ h' vm1 a b, Keep h h' [] → Exa Z h' a "java/lang/String" → Fld Z h' a "java/lang/String" "value" "[B" (.ref b) → IA Z h' b .byte xs → Kx Z own nm bytes ml rt p (s.setVm vm1) m meth c (ReturnedEndW s) h'.size → Go p l e R (s.setVm vm1) m args below meth c s.heap.size (ReturnedEndW s) Q h' (k + 2) (n + (N + 4)) (mkF m (pc + 2) Ls (.ref a :: st))) : Go p l e R s m args below meth c s.heap.size (ReturnedEndW s) Q h k n (mkF m pc Ls st) := by
  intro T L X eT NN
  have hS0 : s.Since s.vm 0 := (State.WarmedH.refl s).since 0
  have I0 : IB Z s.vm [] := ⟨#[], by rw [hZH.interned_eq]; simp, fun q hq => by simp at hq⟩
  obtain ⟨a, T', h', k1, b, kc, X', e', Ex, hSi, hk1, hW, hown', A1, -, A3, A4, -, -, -, stp⟩ := ldcSV (s := s) (vm0 := s.vm) (Ts := []) X K.1 K.2.1 K.2.2.1 w wS eT hS0 (Nat.zero_le _) NN hkeep I0 (by simp) hh hcw (vs := xs.map Value.int) (z := z) ⟨ht.1, by rw [← ht.2, List.map_map]; rfl⟩ hz (by simpa using hl) (g := mkF m pc Ls st) rfl (hb K.2.2.2.1 hd) (n := N) hN hbig hk hn
  obtain ⟨s₂, o, S, r⟩ := hr h' T'.vm a b (keep_ext Ex) A1 A3 (IA.of_arv A4 hl) ⟨K.1, hW, hown', K.2.2.2.1, K.2.2.2.2.1, K.2.2.2.2.2.1, K.2.2.2.2.2.2.1, K.2.2.2.2.2.2.2.1, fun v t L k n hW' hs hm => by
    obtain ⟨q1, q2, q3⟩ := hSi.ended (U := t) hW' (Nat.le_trans hk1 hm) hs
    exact ⟨⟨v, rfl⟩, q1, q2, q3⟩⟩ T' L X' e' NN
  exact ⟨s₂, o, stp _ S, r⟩
end LdcS

theorem IA.nst {Z : State} {h : Heap} {a : Addr} {ty : FieldType} {xs : List Int32} (F : IA Z h a ty xs) : ∀ cell : Cell, h[a]? = some cell → cell.vm.isStatics = false := by
  obtain ⟨c, A, -⟩ := F
  intro cell hc
  cases hc.symm.trans A.1
  exact A.plain
/-- the law's own contract: its start is Z -/
def MeetsL (l : Launch) (y : MethodName) (bytes : ByteArray) (ml : Nat) (rt : Option FieldType) (rm : Room) (Z : State) (as : Array Value) (n0 : Nat) (Q : Option Value → Heap → Prop) : Prop :=
  ∀ ws : List Jvm.Cond, MetFree l y (head1 (Jvm.Cond.code y bytes ml rt :: ws) rm) (fun a U => a = as ∧ U = Z) (fun _ _ _ _ _ => True)
    (fun _ U o U' => ∃ v L, o = .returned v ∧ (Q v U'.heap ∧ Fr n0 L) ∧ ReturnedEndW U o U' L rm.cells rm.slots)
theorem meetsL_of {l : Launch} {y : MethodName} {bytes : ByteArray} {ml : Nat} {rt : Option FieldType} {rm : Room} {Z : State} {as : Array Value} {n0 : Nat} {Q : Option Value → Heap → Prop} (hx : plainFor y = true) {Ls : Array Slot} (hef : ∀ m, entryFrame m as ml = mkF m 0 Ls [])
    (body : ∀ p e m below meth c, Kx Z y.cls y.name bytes ml rt p Z m meth c (ReturnedEndW Z) 0 → Go p l e rm Z m as below meth c n0 (ReturnedEndW Z) Q Z.heap 0 0 (mkF m 0 Ls [])) : MeetsL l y bytes ml rt rm Z as n0 Q := by
  intro ws
  refine MetFree.of_bodySF hx hisR ?_
  intro p e s m args below meth c s₁ Bd hml0 hP hK
  obtain ⟨rfl, rfl⟩ := hP
  have X0 : Stand p l e rm s m args below meth c s₁ [] 0 0 := Stand.of_body Bd
  have e0 : s₁.heap = s.heap := by rw [Bd.state]; rfl
  obtain ⟨s₂, o, S, r1, r2, r3⟩ := body p e m below meth c ⟨Bd.exec, State.Warmed39.refl s, findClass_of_methodNamed Bd.named, Bd.bytes, hml0, Bd.returns, Bd.notSynchronized, (name_of_methodNamed Bd.named Bd.method).1, fun v t L k n hW hs _ => ReturnedEndW.of_narrow ⟨_, rfl⟩ hW hs⟩ s₁ [] X0 e0 (Fr.nil n0)
  exact ⟨s₂, o, castTop (hef m) S, r1, r2, r3⟩

theorem pn0 : plainName "com/example/caddis/caddis/SegmentFormatRefusalOfPinLaw" = true := by first | (simp [plainName, overriddenIn]; done) | decide +kernel
theorem pd0 : parseMethodDescriptor "(I)B" = some ⟨[.int], some .byte⟩ := by decide +kernel
theorem pn1 : plainName "com/example/caddis/caddis/SegmentFormat" = true := by first | (simp [plainName, overriddenIn]; done) | decide +kernel
theorem pd1 : parseMethodDescriptor "([B)Ljava/lang/String;" = some ⟨[(.array .byte)], some (.object "java/lang/String")⟩ := by decide +kernel
theorem pd2 : parseMethodDescriptor "()Z" = some ⟨[], some .boolean⟩ := by decide +kernel
theorem pd3 : parseMethodDescriptor "(IIIIII)Z" = some ⟨[.int, .int, .int, .int, .int, .int], some .boolean⟩ := by decide +kernel
theorem d1_0 : decode method_2_code 0 = .ok (.iload_n 0, 1) := by decide +kernel
theorem d1_1 : decode method_2_code 1 = .ok (.sipush 256, 3) := by decide +kernel
theorem d1_4 : decode method_2_code 4 = .ok (.iand, 1) := by decide +kernel
theorem d1_5 : decode method_2_code 5 = .ok (.ifCond .eq 8, 3) := by decide +kernel
theorem d1_8 : decode method_2_code 8 = .ok (.bipush 10, 2) := by decide +kernel
theorem d1_10 : decode method_2_code 10 = .ok (.goto 5, 3) := by decide +kernel
theorem d1_13 : decode method_2_code 13 = .ok (.iload_n 0, 1) := by decide +kernel
theorem d1_14 : decode method_2_code 14 = .ok (.i2b, 1) := by decide +kernel
theorem d1_15 : decode method_2_code 15 = .ok (.ireturn, 1) := by decide +kernel
theorem d2_0 : decode prog_39_method_10_code 0 = .ok (.aconst_null, 1) := by decide +kernel
theorem d2_1 : decode prog_39_method_10_code 1 = .ok (.astore_n 2, 1) := by decide +kernel
theorem d2_2 : decode prog_39_method_10_code 2 = .ok (.aload_n 0, 1) := by decide +kernel
theorem d2_3 : decode prog_39_method_10_code 3 = .ok (.getstatic 7, 3) := by decide +kernel
theorem d2_6 : decode prog_39_method_10_code 6 = .ok (.if_acmp .ne 44, 3) := by decide +kernel
theorem d2_9 : decode prog_39_method_10_code 9 = .ok (.aload_n 1, 1) := by decide +kernel
theorem d2_10 : decode prog_39_method_10_code 10 = .ok (.astore_n 3, 1) := by decide +kernel
theorem d2_11 : decode prog_39_method_10_code 11 = .ok (.aload_n 3, 1) := by decide +kernel
theorem d2_12 : decode prog_39_method_10_code 12 = .ok (.arraylength, 1) := by decide +kernel
theorem d2_13 : decode prog_39_method_10_code 13 = .ok (.istore 4, 2) := by decide +kernel
theorem d2_15 : decode prog_39_method_10_code 15 = .ok (.iconst 0, 1) := by decide +kernel
theorem d2_16 : decode prog_39_method_10_code 16 = .ok (.istore 5, 2) := by decide +kernel
theorem d2_18 : decode prog_39_method_10_code 18 = .ok (.iload 5, 2) := by decide +kernel
theorem d2_20 : decode prog_39_method_10_code 20 = .ok (.iload 4, 2) := by decide +kernel
theorem d2_22 : decode prog_39_method_10_code 22 = .ok (.if_icmp .ge 28, 3) := by decide +kernel
theorem d2_25 : decode prog_39_method_10_code 25 = .ok (.aload_n 3, 1) := by decide +kernel
theorem d2_26 : decode prog_39_method_10_code 26 = .ok (.iload 5, 2) := by decide +kernel
theorem d2_28 : decode prog_39_method_10_code 28 = .ok (.baload, 1) := by decide +kernel
theorem d2_29 : decode prog_39_method_10_code 29 = .ok (.istore 6, 2) := by decide +kernel
theorem d2_31 : decode prog_39_method_10_code 31 = .ok (.iload 6, 2) := by decide +kernel
theorem d2_33 : decode prog_39_method_10_code 33 = .ok (.bipush 10, 2) := by decide +kernel
theorem d2_35 : decode prog_39_method_10_code 35 = .ok (.if_icmp .ne 9, 3) := by decide +kernel
theorem d2_38 : decode prog_39_method_10_code 38 = .ok (.ldc 72, 2) := by decide +kernel
theorem d2_40 : decode prog_39_method_10_code 40 = .ok (.astore_n 2, 1) := by decide +kernel
theorem d2_41 : decode prog_39_method_10_code 41 = .ok (.goto 9, 3) := by decide +kernel
theorem d2_44 : decode prog_39_method_10_code 44 = .ok (.iinc 5 1, 3) := by decide +kernel
theorem d2_47 : decode prog_39_method_10_code 47 = .ok (.goto (-29), 3) := by decide +kernel
theorem d2_50 : decode prog_39_method_10_code 50 = .ok (.aload_n 2, 1) := by decide +kernel
theorem d2_51 : decode prog_39_method_10_code 51 = .ok (.areturn, 1) := by decide +kernel
theorem d3_0 : decode jdk_42_method_55_code 0 = .ok (.aload_n 0, 1) := by decide +kernel
theorem d3_1 : decode jdk_42_method_55_code 1 = .ok (.getfield 9, 3) := by decide +kernel
theorem d3_4 : decode jdk_42_method_55_code 4 = .ok (.arraylength, 1) := by decide +kernel
theorem d3_5 : decode jdk_42_method_55_code 5 = .ok (.ifCond .ne 7, 3) := by decide +kernel
theorem d3_8 : decode jdk_42_method_55_code 8 = .ok (.iconst 1, 1) := by decide +kernel
theorem d3_9 : decode jdk_42_method_55_code 9 = .ok (.goto 4, 3) := by decide +kernel
theorem d3_12 : decode jdk_42_method_55_code 12 = .ok (.iconst 0, 1) := by decide +kernel
theorem d3_13 : decode jdk_42_method_55_code 13 = .ok (.ireturn, 1) := by decide +kernel
theorem own_and63 (y : Int32) : (y.toInt64 &&& 63).toBitVec = BitVec.ofNat 64 (y.toBitVec.toNat % 64) := by
  apply BitVec.eq_of_getLsbD_eq
  intro i hi
  have h63 : (63 : Int64).toBitVec = BitVec.ofNat 64 (2 ^ 6 - 1) := by decide
  have hm : (y.toBitVec.toNat % 64) = y.toBitVec.toNat % 2 ^ 6 := rfl
  rw [Int64.toBitVec_and, Int32.toBitVec_toInt64, BitVec.getLsbD_and, BitVec.getLsbD_signExtend, h63, BitVec.getLsbD_ofNat, Nat.testBit_two_pow_sub_one, BitVec.getLsbD_ofNat, hm, Nat.testBit_mod_two_pow]
  by_cases h6 : i < 6
  · have h32 : i < 32 := by omega
    simp [hi, h6, h32, BitVec.getLsbD]
  · simp [h6]
theorem bv_lshl (x : Int64) (y : Int32) : (x <<< (y.toInt64 &&& 63)).toBitVec = x.toBitVec <<< (y.toBitVec.toNat % 64) := by
  show x.toBitVec <<< ((y.toInt64 &&& 63).toBitVec.smod 64) = _
  rw [BitVec.shiftLeft_eq', own_and63, smod64 _ (Nat.mod_lt _ (by decide))]
theorem bv_lshr (x : Int64) (y : Int32) : (x >>> (y.toInt64 &&& 63)).toBitVec = x.toBitVec.sshiftRight (y.toBitVec.toNat % 64) := by
  show x.toBitVec.sshiftRight' ((y.toInt64 &&& 63).toBitVec.smod 64) = _
  rw [BitVec.sshiftRight_eq', own_and63, smod64 _ (Nat.mod_lt _ (by decide))]
theorem bv_lushr (x : Int64) (y : Int32) : (XT.ushrL x y).toBitVec = x.toBitVec >>> (y.toBitVec.toNat % 64) := by
  show x.toBitVec >>> ((y.toInt64 &&& 63).toBitVec % 64) = _
  rw [BitVec.ushiftRight_eq', own_and63, BitVec.toNat_umod, BitVec.toNat_ofNat]
  congr 1
  show y.toBitVec.toNat % 64 % 2 ^ 64 % 64 = _
  omega
theorem bv_ishl (x y : Int32) : (x <<< (y &&& 31)).toBitVec = x.toBitVec <<< (y.toBitVec.toNat % 32) := by
  show x.toBitVec <<< ((y &&& 31).toBitVec.smod 32) = _
  rw [BitVec.shiftLeft_eq', sm32 y _ rfl]
theorem bv_ishr (x y : Int32) : (x >>> (y &&& 31)).toBitVec = x.toBitVec.sshiftRight (y.toBitVec.toNat % 32) := by
  show x.toBitVec.sshiftRight' ((y &&& 31).toBitVec.smod 32) = _
  rw [BitVec.sshiftRight_eq', sm32 y _ rfl]
theorem bv_iushr (x y : Int32) : (XT.ushr x y).toBitVec = x.toBitVec >>> (y.toBitVec.toNat % 32) := by
  show x.toBitVec >>> ((y &&& 31).toBitVec % 32) = _
  have h1 : (y &&& 31).toBitVec.toNat = y.toBitVec.toNat % 32 := by
    show (y.toBitVec &&& (31 : Int32).toBitVec).toNat = _
    rw [BitVec.toNat_and, show (31 : Int32).toBitVec.toNat = 2 ^ 5 - 1 from by decide, Nat.and_two_pow_sub_one_eq_mod]
  rw [BitVec.ushiftRight_eq', BitVec.toNat_umod, h1]
  congr 1
  show y.toBitVec.toNat % 32 % 32 = _
  omega
theorem u64 (x : Int64) : (x.toBitVec.toNat : Int) = x.toInt % 18446744073709551616 := by
  have h := x.toBitVec.isLt
  show _ = x.toBitVec.toInt % _
  rw [BitVec.toInt_eq_toNat_cond]; split <;> omega
theorem u32 (x : Int32) : (x.toBitVec.toNat : Int) = x.toInt % 4294967296 := by
  have h := x.toBitVec.isLt
  show _ = x.toBitVec.toInt % _
  rw [BitVec.toInt_eq_toNat_cond]; split <;> omega
theorem i64 (x : Int64) : x.toInt = if x.toBitVec.toNat < 9223372036854775808 then (x.toBitVec.toNat : Int) else (x.toBitVec.toNat : Int) - 18446744073709551616 := by
  have h := x.toBitVec.isLt
  show x.toBitVec.toInt = _
  rw [BitVec.toInt_eq_toNat_cond]; split <;> split <;> omega
/-- a logical shift by a known count, as a number -/
theorem n_lushr (x : Int64) (y : Int32) (k : Nat) (hk : y.toBitVec.toNat % 64 = k) : (XT.ushrL x y).toBitVec.toNat = x.toBitVec.toNat / 2 ^ k := by
  rw [bv_lushr, hk, BitVec.toNat_ushiftRight, Nat.shiftRight_eq_div_pow]
theorem n_iushr (x y : Int32) (k : Nat) (hk : y.toBitVec.toNat % 32 = k) : (XT.ushr x y).toBitVec.toNat = x.toBitVec.toNat / 2 ^ k := by
  rw [bv_iushr, hk, BitVec.toNat_ushiftRight, Nat.shiftRight_eq_div_pow]
theorem nn32 (y : Int32) (h : 0 ≤ y.toInt) : y.toBitVec.toNat = y.toInt.toNat := by
  have h1 := u32 y
  have := y.toInt_lt
  omega
theorem nn64 (y : Int64) (h : 0 ≤ y.toInt) : y.toBitVec.toNat = y.toInt.toNat := by
  have h1 := u64 y
  have := y.toInt_lt
  omega
theorem own_mask (y : Int32) (hy : 0 ≤ y.toInt ∧ y.toInt < 64) (K : Nat) (hK : K < 64) : (((1 : Int64) <<< (y.toInt64 &&& 63)) - 1).toBitVec.getLsbD K = decide (K < y.toInt.toNat) := by
  have hW : y.toBitVec.toNat % 64 = y.toInt.toNat := by rw [nn32 y hy.1]; omega
  rw [Int64.toBitVec_sub, bv_lshl, hW]
  have h2 : y.toInt.toNat < 64 := by omega
  generalize y.toInt.toNat = W at *
  have e : (1 : Int64).toBitVec <<< W - (1 : Int64).toBitVec = BitVec.ofNat 64 (2 ^ W - 1) := by
    apply BitVec.eq_of_toNat_eq
    have p1 : 2 ^ W < 2 ^ 64 := Nat.pow_lt_pow_right (by decide) h2
    have p2 : 0 < 2 ^ W := Nat.two_pow_pos W
    rw [BitVec.toNat_sub, BitVec.toNat_shiftLeft, Nat.shiftLeft_eq, BitVec.toNat_ofNat, show (1 : Int64).toBitVec.toNat = 1 from by decide, Nat.one_mul]
    generalize 2 ^ W = P at *
    omega
  rw [e, BitVec.getLsbD_ofNat, Nat.testBit_two_pow_sub_one]
  simp [hK]
theorem own_bit (x : Int64) (y : Int32) : (XT.ushrL x y &&& (1 : Int64)) = if x.toBitVec.getLsbD (y.toBitVec.toNat % 64) then 1 else 0 := by
  apply Int64.toBitVec_inj.mp
  apply BitVec.eq_of_getLsbD_eq
  intro i hi
  rw [Int64.toBitVec_and, bv_lushr, BitVec.getLsbD_and, BitVec.getLsbD_ushiftRight]
  generalize y.toBitVec.toNat % 64 = k
  have h1 : (1 : Int64).toBitVec.getLsbD i = decide (i = 0) := by
    show (1#64).getLsbD i = _
    rw [BitVec.getLsbD_one]; simp
  rw [h1]
  by_cases q : i = 0
  · subst q
    cases h : x.toBitVec.getLsbD k <;> simp [h]
  · cases h : x.toBitVec.getLsbD k
    · simp [q]
    · simp [q, h1]
def own_txt : List Int32 := "an event of a log of text segments holds no line feed".toList.map (fun c => Jvm.Lit.byteI c.toNat.toUInt16)
theorem own_ht : (∀ c ∈ "an event of a log of text segments holds no line feed".toList, c.toNat < 256) ∧ "an event of a log of text segments holds no line feed".toList.map (fun c => Jvm.Lit.byteI c.toNat.toUInt16) = own_txt := ⟨by decide +kernel, rfl⟩
theorem own_wS {Z : State} {a0 : Array Value} (hw : ∀ d ∈ tables_1, d.before a0 Z = true) : ∀ a ∈ Bundle.stringAtoms, a.before a0 Z = true := by
  intro d hd
  simp only [Bundle.stringAtoms, List.mem_cons, List.not_mem_nil, or_false] at hd
  rcases hd with rfl | rfl | rfl | rfl | rfl | rfl | rfl
  · exact tw hw 18 rfl
  · exact tw hw 19 rfl
  · exact tw hw 8 rfl
  · exact tw hw 20 rfl
  · exact tw hw 21 rfl
  · exact tw hw 22 rfl
  · exact tw hw 23 rfl
def f_pick (x : Int32) : Int32 := if (x &&& (256 : Int32)) = 0 then (nar .byte x.toInt8.toInt32) else (nar .byte (10 : Int32))
set_option maxRecDepth 65536 in
set_option maxHeartbeats 40000000 in
theorem rm_pick (l : Launch) (Z : State) (a0 : Array Value) (hw : ∀ d ∈ tables_1, d.before a0 Z = true) (x : Int32) (h0 : Heap) (n0 : Nat) (Z0 : n0 ≤ h0.size)   :
    Meets l (⟨"com/example/caddis/caddis/SegmentFormatRefusalOfPinLaw", "pick", "(I)B"⟩ : MethodName) method_2_code 1 (some .byte) ({ frames := 0, cells := 0, slots := 0, locals := 0 } : Room) Z #[(.int x)] h0 n0 (fun v h => v = some (Value.int (f_pick x)) ∧ h = h0) := by
  refine meets_of (plainFor_of_name pn0) (Ls := #[.val (.int x)]) (fun m => by first | (simp [entryFrame, mkF, argsToLocals, Value.category]; done) | rfl) ?_
  intro p e s m below meth c K
  replace K : Kx Z "com/example/caddis/caddis/SegmentFormatRefusalOfPinLaw" "pick" method_2_code 1 (some .byte) p s m meth c (FrameEnd s) 0 := K
  obtain ⟨Q, hQ⟩ : ∃ Q : Option Value → Heap → Prop, Q = (fun v h => v = some (Value.int (f_pick x)) ∧ h = h0) := ⟨_, rfl⟩
  rw [← hQ]
  refine g_iloadN K 0 d1_0 rfl ?_
  refine g_sipush K 1 (256 : Int32) d1_1 (by decide) ?_
  refine g_iand K 4 d1_4 ?_
  refine g_if_eq K 5 13 d1_5 (by decide) (by decide) ?_ ?_
  · intro c1
    refine g_iloadN K 13 d1_13 rfl ?_
    refine g_i2b K 14 d1_14 ?_
    refine g_retN K 15 .byte d1_15 rfl (by simp) (by decide) (by decide) ?_
    rw [hQ]
    refine ⟨?_, rfl⟩
    show some (Value.int _) = some (Value.int (f_pick x))
    unfold f_pick
    first | (rw [if_pos c1]; done) | (rw [if_pos c1]; rfl)
  · intro c1
    refine g_bipush K 8 (10 : Int32) d1_8 (by decide) ?_
    refine g_goto K 10 15 d1_10 (by decide) (by decide) ?_
    refine g_retN K 15 .byte d1_15 rfl (by simp) (by decide) (by decide) ?_
    rw [hQ]
    refine ⟨?_, rfl⟩
    show some (Value.int _) = some (Value.int (f_pick x))
    unfold f_pick
    first | (rw [if_neg c1]; done) | (rw [if_neg c1]; rfl)
def f_isEmpty (bs : List Int32) : Int32 := nar .boolean (if (bs.length.toInt32) = 0 then (1 : Int32) else (0 : Int32))
set_option maxRecDepth 65536 in
set_option maxHeartbeats 40000000 in
theorem rm_isEmpty (l : Launch) (Z : State) (a0 : Array Value) (hw : ∀ d ∈ tables_1, d.before a0 Z = true) (o : Addr) (h0 : Heap) (n0 : Nat) (Z0 : n0 ≤ h0.size) (bs : List Int32) (b : Addr) (F0 : Fld Z h0 o "java/lang/String" "value" "[B" (.ref b)) (A0 : IA Z h0 b .byte bs) :
    Meets l (⟨"java/lang/String", "isEmpty", "()Z"⟩ : MethodName) jdk_42_method_55_code 1 (some .boolean) ({ frames := 0, cells := 0, slots := 0, locals := 0 } : Room) Z #[(.ref o)] h0 n0 (fun v h => v = some (Value.int (f_isEmpty bs)) ∧ h = h0) := by
  refine meets_of (by decide +kernel) (Ls := #[.val (.ref o)]) (fun m => by first | (simp [entryFrame, mkF, argsToLocals, Value.category]; done) | rfl) ?_
  intro p e s m below meth c K
  replace K : Kx Z "java/lang/String" "isEmpty" jdk_42_method_55_code 1 (some .boolean) p s m meth c (FrameEnd s) 0 := K
  obtain ⟨Q, hQ⟩ : ∃ Q : Option Value → Heap → Prop, Q = (fun v h => v = some (Value.int (f_isEmpty bs)) ∧ h = h0) := ⟨_, rfl⟩
  rw [← hQ]
  refine g_aloadN K 0 d3_0 rfl rfl ?_
  refine g_getfield K 1 d3_1 (tw hw 29 rfl) F0 ?_
  refine g_alen K 4 (bs.length.toInt32) d3_4 A0 (rfl) ?_
  have J2 : ∀ (z1 : Int32), z1 = (if (bs.length.toInt32) = 0 then (1 : Int32) else (0 : Int32)) → Go p l e ({ frames := 0, cells := 0, slots := 0, locals := 0 } : Room) s m #[(.ref o)] below meth c n0 (FrameEnd s) Q h0 0 0 (mkF m 13 #[.val (.ref o)] [(.int z1)]) := by
    intro z1 hz1
    subst hz1
    refine g_retN K 13 .boolean d3_13 rfl (by simp) (by decide) (by decide) ?_
    rw [hQ]
    refine ⟨?_, rfl⟩
    show some (Value.int _) = some (Value.int (f_isEmpty bs))
    unfold f_isEmpty
    rfl
  refine g_if_ne K 5 12 d3_5 (by decide) (by decide) ?_ ?_
  · intro c3
    refine g_iconst K 12 (0 : Int32) d3_12 (by decide) ?_
    exact J2 _ (by rw [if_neg c3])
  · intro c3
    refine g_iconst K 8 (1 : Int32) d3_8 (by decide) ?_
    refine g_goto K 9 13 d3_9 (by decide) (by decide) ?_
    exact J2 _ (by rw [if_pos c3])
set_option maxRecDepth 65536 in
set_option maxHeartbeats 40000000 in
theorem rm_refNo (l : Launch) (Z : State) (a0 : Array Value) (hw : ∀ d ∈ tables_1, d.before a0 Z = true) (o ar : Addr) (h0 : Heap)  (tx : Addr) (S0 : Sta Z h0 "com/example/caddis/caddis/SegmentFormat" "TEXT" "Lcom/example/caddis/caddis/SegmentFormat;" (.ref tx)) (hne : o ≠ tx) :
    MeetsW l (⟨"com/example/caddis/caddis/SegmentFormat", "refusalOf", "([B)Ljava/lang/String;"⟩ : MethodName) prog_39_method_10_code 7 (some (.object "java/lang/String")) ({ frames := 0, cells := 2, slots := 216, locals := 0 } : Room) Z #[(.ref o), (.ref ar)] h0 h0.size (fun v h => v = some .null ∧ h = h0) := by
  refine meetsW_of (plainFor_of_name pn1) (Ls := #[.val (.ref o), .val (.ref ar), .unset, .unset, .unset, .unset, .unset]) (fun m => by first | (simp [entryFrame, mkF, argsToLocals, Value.category]; done) | rfl) ?_
  intro p e s m below meth c K hZH hsh
  replace K : Kx Z "com/example/caddis/caddis/SegmentFormat" "refusalOf" prog_39_method_10_code 7 (some (.object "java/lang/String")) p s m meth c (ReturnedEndW s) 0 := K
  obtain ⟨Q, hQ⟩ : ∃ Q : Option Value → Heap → Prop, Q = (fun v h => v = some .null ∧ h = h0) := ⟨_, rfl⟩
  rw [← hQ, show h0.size = s.heap.size from by rw [hsh]]
  refine g_aconst_null K 0 d2_0 ?_
  refine g_astoreN K 1 #[.val (.ref o), .val (.ref ar), .val .null, .unset, .unset, .unset, .unset] d2_1 rfl rfl ?_
  refine g_aloadN K 2 d2_2 rfl rfl ?_
  refine g_getstatic K 3 d2_3 (tw hw 14 rfl) S0 ?_
  refine g_aa_ne K 6 50 rfl rfl d2_6 (by decide) (by decide) ?_ ?_
  · intro c1
    refine g_aloadN K 50 d2_50 rfl rfl ?_
    refine g_areturn K 51 (.object "java/lang/String") d2_51 rfl rfl rfl (by decide) (by decide) ?_
    rw [hQ]
    exact ⟨rfl, rfl⟩
  · intro c1
    exfalso
    exact hne (Value.ref.inj c1)
set_option maxRecDepth 65536 in
set_option maxHeartbeats 40000000 in
theorem rm_ref0 (l : Launch) (Z : State) (a0 : Array Value) (hw : ∀ d ∈ tables_1, d.before a0 Z = true) (tx ar : Addr) (h0 : Heap)  (A0 : IA Z h0 ar .byte []) (S0 : Sta Z h0 "com/example/caddis/caddis/SegmentFormat" "TEXT" "Lcom/example/caddis/caddis/SegmentFormat;" (.ref tx)) (hkp : ∀ (b : Addr) (cl : Cell), Z.heap[b]? = some cl → h0[b]? = some cl) (hh : Jvm.Lit.constHeld Z "com/example/caddis/caddis/SegmentFormat" 72) (hcw : Jvm.Lit.compactW.before a0 Z = true) :
    MeetsW l (⟨"com/example/caddis/caddis/SegmentFormat", "refusalOf", "([B)Ljava/lang/String;"⟩ : MethodName) prog_39_method_10_code 7 (some (.object "java/lang/String")) ({ frames := 0, cells := 2, slots := 216, locals := 0 } : Room) Z #[(.ref tx), (.ref ar)] h0 h0.size (fun v h => (v = some .null ∧ h = h0 ∧ ¬ (False)) ∨ (∃ a b : Addr, v = some (.ref a) ∧ Keep h0 h [] ∧ Exa Z h a "java/lang/String" ∧ Fld Z h a "java/lang/String" "value" "[B" (.ref b) ∧ IA Z h b .byte own_txt ∧ (False))) := by
  refine meetsW_of (plainFor_of_name pn1) (Ls := #[.val (.ref tx), .val (.ref ar), .unset, .unset, .unset, .unset, .unset]) (fun m => by first | (simp [entryFrame, mkF, argsToLocals, Value.category]; done) | rfl) ?_
  intro p e s m below meth c K hZH hsh
  replace K : Kx Z "com/example/caddis/caddis/SegmentFormat" "refusalOf" prog_39_method_10_code 7 (some (.object "java/lang/String")) p s m meth c (ReturnedEndW s) 0 := K
  obtain ⟨Q, hQ⟩ : ∃ Q : Option Value → Heap → Prop, Q = (fun v h => (v = some .null ∧ h = h0 ∧ ¬ (False)) ∨ (∃ a b : Addr, v = some (.ref a) ∧ Keep h0 h [] ∧ Exa Z h a "java/lang/String" ∧ Fld Z h a "java/lang/String" "value" "[B" (.ref b) ∧ IA Z h b .byte own_txt ∧ (False))) := ⟨_, rfl⟩
  rw [← hQ, show h0.size = s.heap.size from by rw [hsh]]
  refine g_aconst_null K 0 d2_0 ?_
  refine g_astoreN K 1 #[.val (.ref tx), .val (.ref ar), .val .null, .unset, .unset, .unset, .unset] d2_1 rfl rfl ?_
  refine g_aloadN K 2 d2_2 rfl rfl ?_
  refine g_getstatic K 3 d2_3 (tw hw 14 rfl) S0 ?_
  refine g_aa_ne K 6 50 rfl rfl d2_6 (by decide) (by decide) ?_ ?_
  · intro c1
    exfalso
    exact c1 rfl
  · intro c1
    refine g_aloadN K 9 d2_9 rfl rfl ?_
    refine g_astoreN K 10 #[.val (.ref tx), .val (.ref ar), .val .null, .val (.ref ar), .unset, .unset, .unset] d2_10 rfl rfl ?_
    refine g_aloadN K 11 d2_11 rfl rfl ?_
    refine g_alen K 12 (0 : Int32) d2_12 A0 (show (0 : Nat).toInt32 = (0 : Int32) from by decide) ?_
    refine g_istore K 13 #[.val (.ref tx), .val (.ref ar), .val .null, .val (.ref ar), .val (.int (0 : Int32)), .unset, .unset] d2_13 rfl ?_
    refine g_iconst K 15 (0 : Int32) d2_15 (by decide) ?_
    refine g_istore K 16 #[.val (.ref tx), .val (.ref ar), .val .null, .val (.ref ar), .val (.int (0 : Int32)), .val (.int (0 : Int32)), .unset] d2_16 rfl ?_
    refine g_iload K 18 d2_18 rfl ?_
    refine g_iload K 20 d2_20 rfl ?_
    refine g_ii_ge K 22 50 d2_22 (by decide) (by decide) ?_ ?_
    · intro c2
      refine g_aloadN K 50 d2_50 rfl rfl ?_
      refine g_areturn K 51 (.object "java/lang/String") d2_51 rfl rfl rfl (by decide) (by decide) ?_
      rw [hQ]
      exact Or.inl ⟨rfl, rfl, fun hq => hq⟩
    · intro c2
      exact absurd c2 (by decide)
set_option maxRecDepth 65536 in
set_option maxHeartbeats 40000000 in
theorem rm_ref1 (l : Launch) (Z : State) (a0 : Array Value) (hw : ∀ d ∈ tables_1, d.before a0 Z = true) (tx ar : Addr) (h0 : Heap) (b0 : Int32) (A0 : IA Z h0 ar .byte [b0]) (S0 : Sta Z h0 "com/example/caddis/caddis/SegmentFormat" "TEXT" "Lcom/example/caddis/caddis/SegmentFormat;" (.ref tx)) (hkp : ∀ (b : Addr) (cl : Cell), Z.heap[b]? = some cl → h0[b]? = some cl) (hh : Jvm.Lit.constHeld Z "com/example/caddis/caddis/SegmentFormat" 72) (hcw : Jvm.Lit.compactW.before a0 Z = true) :
    MeetsW l (⟨"com/example/caddis/caddis/SegmentFormat", "refusalOf", "([B)Ljava/lang/String;"⟩ : MethodName) prog_39_method_10_code 7 (some (.object "java/lang/String")) ({ frames := 0, cells := 2, slots := 216, locals := 0 } : Room) Z #[(.ref tx), (.ref ar)] h0 h0.size (fun v h => (v = some .null ∧ h = h0 ∧ ¬ (b0 = (10 : Int32))) ∨ (∃ a b : Addr, v = some (.ref a) ∧ Keep h0 h [] ∧ Exa Z h a "java/lang/String" ∧ Fld Z h a "java/lang/String" "value" "[B" (.ref b) ∧ IA Z h b .byte own_txt ∧ (b0 = (10 : Int32)))) := by
  refine meetsW_of (plainFor_of_name pn1) (Ls := #[.val (.ref tx), .val (.ref ar), .unset, .unset, .unset, .unset, .unset]) (fun m => by first | (simp [entryFrame, mkF, argsToLocals, Value.category]; done) | rfl) ?_
  intro p e s m below meth c K hZH hsh
  replace K : Kx Z "com/example/caddis/caddis/SegmentFormat" "refusalOf" prog_39_method_10_code 7 (some (.object "java/lang/String")) p s m meth c (ReturnedEndW s) 0 := K
  obtain ⟨Q, hQ⟩ : ∃ Q : Option Value → Heap → Prop, Q = (fun v h => (v = some .null ∧ h = h0 ∧ ¬ (b0 = (10 : Int32))) ∨ (∃ a b : Addr, v = some (.ref a) ∧ Keep h0 h [] ∧ Exa Z h a "java/lang/String" ∧ Fld Z h a "java/lang/String" "value" "[B" (.ref b) ∧ IA Z h b .byte own_txt ∧ (b0 = (10 : Int32)))) := ⟨_, rfl⟩
  rw [← hQ, show h0.size = s.heap.size from by rw [hsh]]
  refine g_aconst_null K 0 d2_0 ?_
  refine g_astoreN K 1 #[.val (.ref tx), .val (.ref ar), .val .null, .unset, .unset, .unset, .unset] d2_1 rfl rfl ?_
  refine g_aloadN K 2 d2_2 rfl rfl ?_
  refine g_getstatic K 3 d2_3 (tw hw 14 rfl) S0 ?_
  refine g_aa_ne K 6 50 rfl rfl d2_6 (by decide) (by decide) ?_ ?_
  · intro c1
    exfalso
    exact c1 rfl
  · intro c1
    refine g_aloadN K 9 d2_9 rfl rfl ?_
    refine g_astoreN K 10 #[.val (.ref tx), .val (.ref ar), .val .null, .val (.ref ar), .unset, .unset, .unset] d2_10 rfl rfl ?_
    refine g_aloadN K 11 d2_11 rfl rfl ?_
    refine g_alen K 12 (1 : Int32) d2_12 A0 (show (1 : Nat).toInt32 = (1 : Int32) from by decide) ?_
    refine g_istore K 13 #[.val (.ref tx), .val (.ref ar), .val .null, .val (.ref ar), .val (.int (1 : Int32)), .unset, .unset] d2_13 rfl ?_
    refine g_iconst K 15 (0 : Int32) d2_15 (by decide) ?_
    refine g_istore K 16 #[.val (.ref tx), .val (.ref ar), .val .null, .val (.ref ar), .val (.int (1 : Int32)), .val (.int (0 : Int32)), .unset] d2_16 rfl ?_
    refine g_iload K 18 d2_18 rfl ?_
    refine g_iload K 20 d2_20 rfl ?_
    refine g_ii_ge K 22 50 d2_22 (by decide) (by decide) ?_ ?_
    · intro c2
      exact absurd c2 (by decide)
    · intro c2
      refine g_aloadN K 25 d2_25 rfl rfl ?_
      refine g_iload K 26 d2_26 rfl ?_
      refine g_baload K 28 b0 d2_28 A0 (by decide) (by rw [show (0 : Int32).toNatClampNeg = 0 from by decide]; rfl) ?_
      refine g_istore K 29 #[.val (.ref tx), .val (.ref ar), .val .null, .val (.ref ar), .val (.int (1 : Int32)), .val (.int (0 : Int32)), .val (.int b0)] d2_29 rfl ?_
      refine g_iload K 31 d2_31 rfl ?_
      refine g_bipush K 33 (10 : Int32) d2_33 (by decide) ?_
      refine g_ii_ne K 35 44 d2_35 (by decide) (by decide) ?_ ?_
      · intro c3
        refine g_iinc K 44 (1 : Int32) #[.val (.ref tx), .val (.ref ar), .val .null, .val (.ref ar), .val (.int (1 : Int32)), .val (.int ((0 : Int32) + (1 : Int32))), .val (.int b0)] d2_44 (by decide) rfl rfl ?_
        rw [show ((0 : Int32) + (1 : Int32)) = (1 : Int32) from by decide]
        refine g_goto K 47 18 d2_47 (by decide) (by decide) ?_
        refine g_iload K 18 d2_18 rfl ?_
        refine g_iload K 20 d2_20 rfl ?_
        refine g_ii_ge K 22 50 d2_22 (by decide) (by decide) ?_ ?_
        · intro c4
          refine g_aloadN K 50 d2_50 rfl rfl ?_
          refine g_areturn K 51 (.object "java/lang/String") d2_51 rfl rfl rfl (by decide) (by decide) ?_
          rw [hQ]
          exact Or.inl ⟨rfl, rfl, by simp [c3]⟩
        · intro c4
          exact absurd c4 (by decide)
      · intro c3
        refine g_ldcS K 38 212 (53 : Int32) own_txt d2_38 (tw hw 17 rfl) (own_wS hw) hZH (by rw [hsh]; exact Nat.le_refl _) (by rw [hsh]; exact hkp) hh hcw own_ht (by decide) (by decide) (by decide) (by decide) (by decide) (by decide) ?_
        intro h5 vm6 a7 b8 Kp9 E10 F11 A12 KK13
        refine g_astoreN KK13 40 #[.val (.ref tx), .val (.ref ar), .val (.ref a7), .val (.ref ar), .val (.int (1 : Int32)), .val (.int (0 : Int32)), .val (.int b0)] d2_40 rfl rfl ?_
        refine g_goto KK13 41 50 d2_41 (by decide) (by decide) ?_
        refine g_aloadN KK13 50 d2_50 rfl rfl ?_
        refine g_areturn KK13 51 (.object "java/lang/String") d2_51 rfl rfl rfl (by decide) (by decide) ?_
        rw [hQ]
        exact Or.inr ⟨a7, b8, rfl, Kp9, E10, F11, A12, c3⟩
set_option maxRecDepth 65536 in
set_option maxHeartbeats 40000000 in
theorem rm_ref2 (l : Launch) (Z : State) (a0 : Array Value) (hw : ∀ d ∈ tables_1, d.before a0 Z = true) (tx ar : Addr) (h0 : Heap) (b0 : Int32) (b1 : Int32) (A0 : IA Z h0 ar .byte [b0, b1]) (S0 : Sta Z h0 "com/example/caddis/caddis/SegmentFormat" "TEXT" "Lcom/example/caddis/caddis/SegmentFormat;" (.ref tx)) (hkp : ∀ (b : Addr) (cl : Cell), Z.heap[b]? = some cl → h0[b]? = some cl) (hh : Jvm.Lit.constHeld Z "com/example/caddis/caddis/SegmentFormat" 72) (hcw : Jvm.Lit.compactW.before a0 Z = true) :
    MeetsW l (⟨"com/example/caddis/caddis/SegmentFormat", "refusalOf", "([B)Ljava/lang/String;"⟩ : MethodName) prog_39_method_10_code 7 (some (.object "java/lang/String")) ({ frames := 0, cells := 2, slots := 216, locals := 0 } : Room) Z #[(.ref tx), (.ref ar)] h0 h0.size (fun v h => (v = some .null ∧ h = h0 ∧ ¬ (b0 = (10 : Int32) ∨ b1 = (10 : Int32))) ∨ (∃ a b : Addr, v = some (.ref a) ∧ Keep h0 h [] ∧ Exa Z h a "java/lang/String" ∧ Fld Z h a "java/lang/String" "value" "[B" (.ref b) ∧ IA Z h b .byte own_txt ∧ (b0 = (10 : Int32) ∨ b1 = (10 : Int32)))) := by
  refine meetsW_of (plainFor_of_name pn1) (Ls := #[.val (.ref tx), .val (.ref ar), .unset, .unset, .unset, .unset, .unset]) (fun m => by first | (simp [entryFrame, mkF, argsToLocals, Value.category]; done) | rfl) ?_
  intro p e s m below meth c K hZH hsh
  replace K : Kx Z "com/example/caddis/caddis/SegmentFormat" "refusalOf" prog_39_method_10_code 7 (some (.object "java/lang/String")) p s m meth c (ReturnedEndW s) 0 := K
  obtain ⟨Q, hQ⟩ : ∃ Q : Option Value → Heap → Prop, Q = (fun v h => (v = some .null ∧ h = h0 ∧ ¬ (b0 = (10 : Int32) ∨ b1 = (10 : Int32))) ∨ (∃ a b : Addr, v = some (.ref a) ∧ Keep h0 h [] ∧ Exa Z h a "java/lang/String" ∧ Fld Z h a "java/lang/String" "value" "[B" (.ref b) ∧ IA Z h b .byte own_txt ∧ (b0 = (10 : Int32) ∨ b1 = (10 : Int32)))) := ⟨_, rfl⟩
  rw [← hQ, show h0.size = s.heap.size from by rw [hsh]]
  refine g_aconst_null K 0 d2_0 ?_
  refine g_astoreN K 1 #[.val (.ref tx), .val (.ref ar), .val .null, .unset, .unset, .unset, .unset] d2_1 rfl rfl ?_
  refine g_aloadN K 2 d2_2 rfl rfl ?_
  refine g_getstatic K 3 d2_3 (tw hw 14 rfl) S0 ?_
  refine g_aa_ne K 6 50 rfl rfl d2_6 (by decide) (by decide) ?_ ?_
  · intro c1
    exfalso
    exact c1 rfl
  · intro c1
    refine g_aloadN K 9 d2_9 rfl rfl ?_
    refine g_astoreN K 10 #[.val (.ref tx), .val (.ref ar), .val .null, .val (.ref ar), .unset, .unset, .unset] d2_10 rfl rfl ?_
    refine g_aloadN K 11 d2_11 rfl rfl ?_
    refine g_alen K 12 (2 : Int32) d2_12 A0 (show (2 : Nat).toInt32 = (2 : Int32) from by decide) ?_
    refine g_istore K 13 #[.val (.ref tx), .val (.ref ar), .val .null, .val (.ref ar), .val (.int (2 : Int32)), .unset, .unset] d2_13 rfl ?_
    refine g_iconst K 15 (0 : Int32) d2_15 (by decide) ?_
    refine g_istore K 16 #[.val (.ref tx), .val (.ref ar), .val .null, .val (.ref ar), .val (.int (2 : Int32)), .val (.int (0 : Int32)), .unset] d2_16 rfl ?_
    refine g_iload K 18 d2_18 rfl ?_
    refine g_iload K 20 d2_20 rfl ?_
    refine g_ii_ge K 22 50 d2_22 (by decide) (by decide) ?_ ?_
    · intro c2
      exact absurd c2 (by decide)
    · intro c2
      refine g_aloadN K 25 d2_25 rfl rfl ?_
      refine g_iload K 26 d2_26 rfl ?_
      refine g_baload K 28 b0 d2_28 A0 (by decide) (by rw [show (0 : Int32).toNatClampNeg = 0 from by decide]; rfl) ?_
      refine g_istore K 29 #[.val (.ref tx), .val (.ref ar), .val .null, .val (.ref ar), .val (.int (2 : Int32)), .val (.int (0 : Int32)), .val (.int b0)] d2_29 rfl ?_
      refine g_iload K 31 d2_31 rfl ?_
      refine g_bipush K 33 (10 : Int32) d2_33 (by decide) ?_
      refine g_ii_ne K 35 44 d2_35 (by decide) (by decide) ?_ ?_
      · intro c3
        refine g_iinc K 44 (1 : Int32) #[.val (.ref tx), .val (.ref ar), .val .null, .val (.ref ar), .val (.int (2 : Int32)), .val (.int ((0 : Int32) + (1 : Int32))), .val (.int b0)] d2_44 (by decide) rfl rfl ?_
        rw [show ((0 : Int32) + (1 : Int32)) = (1 : Int32) from by decide]
        refine g_goto K 47 18 d2_47 (by decide) (by decide) ?_
        refine g_iload K 18 d2_18 rfl ?_
        refine g_iload K 20 d2_20 rfl ?_
        refine g_ii_ge K 22 50 d2_22 (by decide) (by decide) ?_ ?_
        · intro c4
          exact absurd c4 (by decide)
        · intro c4
          refine g_aloadN K 25 d2_25 rfl rfl ?_
          refine g_iload K 26 d2_26 rfl ?_
          refine g_baload K 28 b1 d2_28 A0 (by decide) (by rw [show (1 : Int32).toNatClampNeg = 1 from by decide]; rfl) ?_
          refine g_istore K 29 #[.val (.ref tx), .val (.ref ar), .val .null, .val (.ref ar), .val (.int (2 : Int32)), .val (.int (1 : Int32)), .val (.int b1)] d2_29 rfl ?_
          refine g_iload K 31 d2_31 rfl ?_
          refine g_bipush K 33 (10 : Int32) d2_33 (by decide) ?_
          refine g_ii_ne K 35 44 d2_35 (by decide) (by decide) ?_ ?_
          · intro c5
            refine g_iinc K 44 (1 : Int32) #[.val (.ref tx), .val (.ref ar), .val .null, .val (.ref ar), .val (.int (2 : Int32)), .val (.int ((1 : Int32) + (1 : Int32))), .val (.int b1)] d2_44 (by decide) rfl rfl ?_
            rw [show ((1 : Int32) + (1 : Int32)) = (2 : Int32) from by decide]
            refine g_goto K 47 18 d2_47 (by decide) (by decide) ?_
            refine g_iload K 18 d2_18 rfl ?_
            refine g_iload K 20 d2_20 rfl ?_
            refine g_ii_ge K 22 50 d2_22 (by decide) (by decide) ?_ ?_
            · intro c6
              refine g_aloadN K 50 d2_50 rfl rfl ?_
              refine g_areturn K 51 (.object "java/lang/String") d2_51 rfl rfl rfl (by decide) (by decide) ?_
              rw [hQ]
              exact Or.inl ⟨rfl, rfl, by simp [c3, c5]⟩
            · intro c6
              exact absurd c6 (by decide)
          · intro c5
            refine g_ldcS K 38 212 (53 : Int32) own_txt d2_38 (tw hw 17 rfl) (own_wS hw) hZH (by rw [hsh]; exact Nat.le_refl _) (by rw [hsh]; exact hkp) hh hcw own_ht (by decide) (by decide) (by decide) (by decide) (by decide) (by decide) ?_
            intro h7 vm8 a9 b10 Kp11 E12 F13 A14 KK15
            refine g_astoreN KK15 40 #[.val (.ref tx), .val (.ref ar), .val (.ref a9), .val (.ref ar), .val (.int (2 : Int32)), .val (.int (1 : Int32)), .val (.int b1)] d2_40 rfl rfl ?_
            refine g_goto KK15 41 50 d2_41 (by decide) (by decide) ?_
            refine g_aloadN KK15 50 d2_50 rfl rfl ?_
            refine g_areturn KK15 51 (.object "java/lang/String") d2_51 rfl rfl rfl (by decide) (by decide) ?_
            rw [hQ]
            exact Or.inr ⟨a9, b10, rfl, Kp11, E12, F13, A14, (Or.inr c5)⟩
      · intro c3
        refine g_ldcS K 38 212 (53 : Int32) own_txt d2_38 (tw hw 17 rfl) (own_wS hw) hZH (by rw [hsh]; exact Nat.le_refl _) (by rw [hsh]; exact hkp) hh hcw own_ht (by decide) (by decide) (by decide) (by decide) (by decide) (by decide) ?_
        intro h16 vm17 a18 b19 Kp20 E21 F22 A23 KK24
        refine g_astoreN KK24 40 #[.val (.ref tx), .val (.ref ar), .val (.ref a18), .val (.ref ar), .val (.int (2 : Int32)), .val (.int (0 : Int32)), .val (.int b0)] d2_40 rfl rfl ?_
        refine g_goto KK24 41 50 d2_41 (by decide) (by decide) ?_
        refine g_aloadN KK24 50 d2_50 rfl rfl ?_
        refine g_areturn KK24 51 (.object "java/lang/String") d2_51 rfl rfl rfl (by decide) (by decide) ?_
        rw [hQ]
        exact Or.inr ⟨a18, b19, rfl, Kp20, E21, F22, A23, (Or.inl c3)⟩
set_option maxRecDepth 65536 in
set_option maxHeartbeats 40000000 in
theorem rm_ref3 (l : Launch) (Z : State) (a0 : Array Value) (hw : ∀ d ∈ tables_1, d.before a0 Z = true) (tx ar : Addr) (h0 : Heap) (b0 : Int32) (b1 : Int32) (b2 : Int32) (A0 : IA Z h0 ar .byte [b0, b1, b2]) (S0 : Sta Z h0 "com/example/caddis/caddis/SegmentFormat" "TEXT" "Lcom/example/caddis/caddis/SegmentFormat;" (.ref tx)) (hkp : ∀ (b : Addr) (cl : Cell), Z.heap[b]? = some cl → h0[b]? = some cl) (hh : Jvm.Lit.constHeld Z "com/example/caddis/caddis/SegmentFormat" 72) (hcw : Jvm.Lit.compactW.before a0 Z = true) :
    MeetsW l (⟨"com/example/caddis/caddis/SegmentFormat", "refusalOf", "([B)Ljava/lang/String;"⟩ : MethodName) prog_39_method_10_code 7 (some (.object "java/lang/String")) ({ frames := 0, cells := 2, slots := 216, locals := 0 } : Room) Z #[(.ref tx), (.ref ar)] h0 h0.size (fun v h => (v = some .null ∧ h = h0 ∧ ¬ (b0 = (10 : Int32) ∨ b1 = (10 : Int32) ∨ b2 = (10 : Int32))) ∨ (∃ a b : Addr, v = some (.ref a) ∧ Keep h0 h [] ∧ Exa Z h a "java/lang/String" ∧ Fld Z h a "java/lang/String" "value" "[B" (.ref b) ∧ IA Z h b .byte own_txt ∧ (b0 = (10 : Int32) ∨ b1 = (10 : Int32) ∨ b2 = (10 : Int32)))) := by
  refine meetsW_of (plainFor_of_name pn1) (Ls := #[.val (.ref tx), .val (.ref ar), .unset, .unset, .unset, .unset, .unset]) (fun m => by first | (simp [entryFrame, mkF, argsToLocals, Value.category]; done) | rfl) ?_
  intro p e s m below meth c K hZH hsh
  replace K : Kx Z "com/example/caddis/caddis/SegmentFormat" "refusalOf" prog_39_method_10_code 7 (some (.object "java/lang/String")) p s m meth c (ReturnedEndW s) 0 := K
  obtain ⟨Q, hQ⟩ : ∃ Q : Option Value → Heap → Prop, Q = (fun v h => (v = some .null ∧ h = h0 ∧ ¬ (b0 = (10 : Int32) ∨ b1 = (10 : Int32) ∨ b2 = (10 : Int32))) ∨ (∃ a b : Addr, v = some (.ref a) ∧ Keep h0 h [] ∧ Exa Z h a "java/lang/String" ∧ Fld Z h a "java/lang/String" "value" "[B" (.ref b) ∧ IA Z h b .byte own_txt ∧ (b0 = (10 : Int32) ∨ b1 = (10 : Int32) ∨ b2 = (10 : Int32)))) := ⟨_, rfl⟩
  rw [← hQ, show h0.size = s.heap.size from by rw [hsh]]
  refine g_aconst_null K 0 d2_0 ?_
  refine g_astoreN K 1 #[.val (.ref tx), .val (.ref ar), .val .null, .unset, .unset, .unset, .unset] d2_1 rfl rfl ?_
  refine g_aloadN K 2 d2_2 rfl rfl ?_
  refine g_getstatic K 3 d2_3 (tw hw 14 rfl) S0 ?_
  refine g_aa_ne K 6 50 rfl rfl d2_6 (by decide) (by decide) ?_ ?_
  · intro c1
    exfalso
    exact c1 rfl
  · intro c1
    refine g_aloadN K 9 d2_9 rfl rfl ?_
    refine g_astoreN K 10 #[.val (.ref tx), .val (.ref ar), .val .null, .val (.ref ar), .unset, .unset, .unset] d2_10 rfl rfl ?_
    refine g_aloadN K 11 d2_11 rfl rfl ?_
    refine g_alen K 12 (3 : Int32) d2_12 A0 (show (3 : Nat).toInt32 = (3 : Int32) from by decide) ?_
    refine g_istore K 13 #[.val (.ref tx), .val (.ref ar), .val .null, .val (.ref ar), .val (.int (3 : Int32)), .unset, .unset] d2_13 rfl ?_
    refine g_iconst K 15 (0 : Int32) d2_15 (by decide) ?_
    refine g_istore K 16 #[.val (.ref tx), .val (.ref ar), .val .null, .val (.ref ar), .val (.int (3 : Int32)), .val (.int (0 : Int32)), .unset] d2_16 rfl ?_
    refine g_iload K 18 d2_18 rfl ?_
    refine g_iload K 20 d2_20 rfl ?_
    refine g_ii_ge K 22 50 d2_22 (by decide) (by decide) ?_ ?_
    · intro c2
      exact absurd c2 (by decide)
    · intro c2
      refine g_aloadN K 25 d2_25 rfl rfl ?_
      refine g_iload K 26 d2_26 rfl ?_
      refine g_baload K 28 b0 d2_28 A0 (by decide) (by rw [show (0 : Int32).toNatClampNeg = 0 from by decide]; rfl) ?_
      refine g_istore K 29 #[.val (.ref tx), .val (.ref ar), .val .null, .val (.ref ar), .val (.int (3 : Int32)), .val (.int (0 : Int32)), .val (.int b0)] d2_29 rfl ?_
      refine g_iload K 31 d2_31 rfl ?_
      refine g_bipush K 33 (10 : Int32) d2_33 (by decide) ?_
      refine g_ii_ne K 35 44 d2_35 (by decide) (by decide) ?_ ?_
      · intro c3
        refine g_iinc K 44 (1 : Int32) #[.val (.ref tx), .val (.ref ar), .val .null, .val (.ref ar), .val (.int (3 : Int32)), .val (.int ((0 : Int32) + (1 : Int32))), .val (.int b0)] d2_44 (by decide) rfl rfl ?_
        rw [show ((0 : Int32) + (1 : Int32)) = (1 : Int32) from by decide]
        refine g_goto K 47 18 d2_47 (by decide) (by decide) ?_
        refine g_iload K 18 d2_18 rfl ?_
        refine g_iload K 20 d2_20 rfl ?_
        refine g_ii_ge K 22 50 d2_22 (by decide) (by decide) ?_ ?_
        · intro c4
          exact absurd c4 (by decide)
        · intro c4
          refine g_aloadN K 25 d2_25 rfl rfl ?_
          refine g_iload K 26 d2_26 rfl ?_
          refine g_baload K 28 b1 d2_28 A0 (by decide) (by rw [show (1 : Int32).toNatClampNeg = 1 from by decide]; rfl) ?_
          refine g_istore K 29 #[.val (.ref tx), .val (.ref ar), .val .null, .val (.ref ar), .val (.int (3 : Int32)), .val (.int (1 : Int32)), .val (.int b1)] d2_29 rfl ?_
          refine g_iload K 31 d2_31 rfl ?_
          refine g_bipush K 33 (10 : Int32) d2_33 (by decide) ?_
          refine g_ii_ne K 35 44 d2_35 (by decide) (by decide) ?_ ?_
          · intro c5
            refine g_iinc K 44 (1 : Int32) #[.val (.ref tx), .val (.ref ar), .val .null, .val (.ref ar), .val (.int (3 : Int32)), .val (.int ((1 : Int32) + (1 : Int32))), .val (.int b1)] d2_44 (by decide) rfl rfl ?_
            rw [show ((1 : Int32) + (1 : Int32)) = (2 : Int32) from by decide]
            refine g_goto K 47 18 d2_47 (by decide) (by decide) ?_
            refine g_iload K 18 d2_18 rfl ?_
            refine g_iload K 20 d2_20 rfl ?_
            refine g_ii_ge K 22 50 d2_22 (by decide) (by decide) ?_ ?_
            · intro c6
              exact absurd c6 (by decide)
            · intro c6
              refine g_aloadN K 25 d2_25 rfl rfl ?_
              refine g_iload K 26 d2_26 rfl ?_
              refine g_baload K 28 b2 d2_28 A0 (by decide) (by rw [show (2 : Int32).toNatClampNeg = 2 from by decide]; rfl) ?_
              refine g_istore K 29 #[.val (.ref tx), .val (.ref ar), .val .null, .val (.ref ar), .val (.int (3 : Int32)), .val (.int (2 : Int32)), .val (.int b2)] d2_29 rfl ?_
              refine g_iload K 31 d2_31 rfl ?_
              refine g_bipush K 33 (10 : Int32) d2_33 (by decide) ?_
              refine g_ii_ne K 35 44 d2_35 (by decide) (by decide) ?_ ?_
              · intro c7
                refine g_iinc K 44 (1 : Int32) #[.val (.ref tx), .val (.ref ar), .val .null, .val (.ref ar), .val (.int (3 : Int32)), .val (.int ((2 : Int32) + (1 : Int32))), .val (.int b2)] d2_44 (by decide) rfl rfl ?_
                rw [show ((2 : Int32) + (1 : Int32)) = (3 : Int32) from by decide]
                refine g_goto K 47 18 d2_47 (by decide) (by decide) ?_
                refine g_iload K 18 d2_18 rfl ?_
                refine g_iload K 20 d2_20 rfl ?_
                refine g_ii_ge K 22 50 d2_22 (by decide) (by decide) ?_ ?_
                · intro c8
                  refine g_aloadN K 50 d2_50 rfl rfl ?_
                  refine g_areturn K 51 (.object "java/lang/String") d2_51 rfl rfl rfl (by decide) (by decide) ?_
                  rw [hQ]
                  exact Or.inl ⟨rfl, rfl, by simp [c3, c5, c7]⟩
                · intro c8
                  exact absurd c8 (by decide)
              · intro c7
                refine g_ldcS K 38 212 (53 : Int32) own_txt d2_38 (tw hw 17 rfl) (own_wS hw) hZH (by rw [hsh]; exact Nat.le_refl _) (by rw [hsh]; exact hkp) hh hcw own_ht (by decide) (by decide) (by decide) (by decide) (by decide) (by decide) ?_
                intro h9 vm10 a11 b12 Kp13 E14 F15 A16 KK17
                refine g_astoreN KK17 40 #[.val (.ref tx), .val (.ref ar), .val (.ref a11), .val (.ref ar), .val (.int (3 : Int32)), .val (.int (2 : Int32)), .val (.int b2)] d2_40 rfl rfl ?_
                refine g_goto KK17 41 50 d2_41 (by decide) (by decide) ?_
                refine g_aloadN KK17 50 d2_50 rfl rfl ?_
                refine g_areturn KK17 51 (.object "java/lang/String") d2_51 rfl rfl rfl (by decide) (by decide) ?_
                rw [hQ]
                exact Or.inr ⟨a11, b12, rfl, Kp13, E14, F15, A16, (Or.inr (Or.inr c7))⟩
          · intro c5
            refine g_ldcS K 38 212 (53 : Int32) own_txt d2_38 (tw hw 17 rfl) (own_wS hw) hZH (by rw [hsh]; exact Nat.le_refl _) (by rw [hsh]; exact hkp) hh hcw own_ht (by decide) (by decide) (by decide) (by decide) (by decide) (by decide) ?_
            intro h18 vm19 a20 b21 Kp22 E23 F24 A25 KK26
            refine g_astoreN KK26 40 #[.val (.ref tx), .val (.ref ar), .val (.ref a20), .val (.ref ar), .val (.int (3 : Int32)), .val (.int (1 : Int32)), .val (.int b1)] d2_40 rfl rfl ?_
            refine g_goto KK26 41 50 d2_41 (by decide) (by decide) ?_
            refine g_aloadN KK26 50 d2_50 rfl rfl ?_
            refine g_areturn KK26 51 (.object "java/lang/String") d2_51 rfl rfl rfl (by decide) (by decide) ?_
            rw [hQ]
            exact Or.inr ⟨a20, b21, rfl, Kp22, E23, F24, A25, (Or.inr (Or.inl c5))⟩
      · intro c3
        refine g_ldcS K 38 212 (53 : Int32) own_txt d2_38 (tw hw 17 rfl) (own_wS hw) hZH (by rw [hsh]; exact Nat.le_refl _) (by rw [hsh]; exact hkp) hh hcw own_ht (by decide) (by decide) (by decide) (by decide) (by decide) (by decide) ?_
        intro h27 vm28 a29 b30 Kp31 E32 F33 A34 KK35
        refine g_astoreN KK35 40 #[.val (.ref tx), .val (.ref ar), .val (.ref a29), .val (.ref ar), .val (.int (3 : Int32)), .val (.int (0 : Int32)), .val (.int b0)] d2_40 rfl rfl ?_
        refine g_goto KK35 41 50 d2_41 (by decide) (by decide) ?_
        refine g_aloadN KK35 50 d2_50 rfl rfl ?_
        refine g_areturn KK35 51 (.object "java/lang/String") d2_51 rfl rfl rfl (by decide) (by decide) ?_
        rw [hQ]
        exact Or.inr ⟨a29, b30, rfl, Kp31, E32, F33, A34, (Or.inl c3)⟩
set_option maxRecDepth 65536 in
set_option maxHeartbeats 40000000 in
theorem rm_ref4 (l : Launch) (Z : State) (a0 : Array Value) (hw : ∀ d ∈ tables_1, d.before a0 Z = true) (tx ar : Addr) (h0 : Heap) (b0 : Int32) (b1 : Int32) (b2 : Int32) (b3 : Int32) (A0 : IA Z h0 ar .byte [b0, b1, b2, b3]) (S0 : Sta Z h0 "com/example/caddis/caddis/SegmentFormat" "TEXT" "Lcom/example/caddis/caddis/SegmentFormat;" (.ref tx)) (hkp : ∀ (b : Addr) (cl : Cell), Z.heap[b]? = some cl → h0[b]? = some cl) (hh : Jvm.Lit.constHeld Z "com/example/caddis/caddis/SegmentFormat" 72) (hcw : Jvm.Lit.compactW.before a0 Z = true) :
    MeetsW l (⟨"com/example/caddis/caddis/SegmentFormat", "refusalOf", "([B)Ljava/lang/String;"⟩ : MethodName) prog_39_method_10_code 7 (some (.object "java/lang/String")) ({ frames := 0, cells := 2, slots := 216, locals := 0 } : Room) Z #[(.ref tx), (.ref ar)] h0 h0.size (fun v h => (v = some .null ∧ h = h0 ∧ ¬ (b0 = (10 : Int32) ∨ b1 = (10 : Int32) ∨ b2 = (10 : Int32) ∨ b3 = (10 : Int32))) ∨ (∃ a b : Addr, v = some (.ref a) ∧ Keep h0 h [] ∧ Exa Z h a "java/lang/String" ∧ Fld Z h a "java/lang/String" "value" "[B" (.ref b) ∧ IA Z h b .byte own_txt ∧ (b0 = (10 : Int32) ∨ b1 = (10 : Int32) ∨ b2 = (10 : Int32) ∨ b3 = (10 : Int32)))) := by
  refine meetsW_of (plainFor_of_name pn1) (Ls := #[.val (.ref tx), .val (.ref ar), .unset, .unset, .unset, .unset, .unset]) (fun m => by first | (simp [entryFrame, mkF, argsToLocals, Value.category]; done) | rfl) ?_
  intro p e s m below meth c K hZH hsh
  replace K : Kx Z "com/example/caddis/caddis/SegmentFormat" "refusalOf" prog_39_method_10_code 7 (some (.object "java/lang/String")) p s m meth c (ReturnedEndW s) 0 := K
  obtain ⟨Q, hQ⟩ : ∃ Q : Option Value → Heap → Prop, Q = (fun v h => (v = some .null ∧ h = h0 ∧ ¬ (b0 = (10 : Int32) ∨ b1 = (10 : Int32) ∨ b2 = (10 : Int32) ∨ b3 = (10 : Int32))) ∨ (∃ a b : Addr, v = some (.ref a) ∧ Keep h0 h [] ∧ Exa Z h a "java/lang/String" ∧ Fld Z h a "java/lang/String" "value" "[B" (.ref b) ∧ IA Z h b .byte own_txt ∧ (b0 = (10 : Int32) ∨ b1 = (10 : Int32) ∨ b2 = (10 : Int32) ∨ b3 = (10 : Int32)))) := ⟨_, rfl⟩
  rw [← hQ, show h0.size = s.heap.size from by rw [hsh]]
  refine g_aconst_null K 0 d2_0 ?_
  refine g_astoreN K 1 #[.val (.ref tx), .val (.ref ar), .val .null, .unset, .unset, .unset, .unset] d2_1 rfl rfl ?_
  refine g_aloadN K 2 d2_2 rfl rfl ?_
  refine g_getstatic K 3 d2_3 (tw hw 14 rfl) S0 ?_
  refine g_aa_ne K 6 50 rfl rfl d2_6 (by decide) (by decide) ?_ ?_
  · intro c1
    exfalso
    exact c1 rfl
  · intro c1
    refine g_aloadN K 9 d2_9 rfl rfl ?_
    refine g_astoreN K 10 #[.val (.ref tx), .val (.ref ar), .val .null, .val (.ref ar), .unset, .unset, .unset] d2_10 rfl rfl ?_
    refine g_aloadN K 11 d2_11 rfl rfl ?_
    refine g_alen K 12 (4 : Int32) d2_12 A0 (show (4 : Nat).toInt32 = (4 : Int32) from by decide) ?_
    refine g_istore K 13 #[.val (.ref tx), .val (.ref ar), .val .null, .val (.ref ar), .val (.int (4 : Int32)), .unset, .unset] d2_13 rfl ?_
    refine g_iconst K 15 (0 : Int32) d2_15 (by decide) ?_
    refine g_istore K 16 #[.val (.ref tx), .val (.ref ar), .val .null, .val (.ref ar), .val (.int (4 : Int32)), .val (.int (0 : Int32)), .unset] d2_16 rfl ?_
    refine g_iload K 18 d2_18 rfl ?_
    refine g_iload K 20 d2_20 rfl ?_
    refine g_ii_ge K 22 50 d2_22 (by decide) (by decide) ?_ ?_
    · intro c2
      exact absurd c2 (by decide)
    · intro c2
      refine g_aloadN K 25 d2_25 rfl rfl ?_
      refine g_iload K 26 d2_26 rfl ?_
      refine g_baload K 28 b0 d2_28 A0 (by decide) (by rw [show (0 : Int32).toNatClampNeg = 0 from by decide]; rfl) ?_
      refine g_istore K 29 #[.val (.ref tx), .val (.ref ar), .val .null, .val (.ref ar), .val (.int (4 : Int32)), .val (.int (0 : Int32)), .val (.int b0)] d2_29 rfl ?_
      refine g_iload K 31 d2_31 rfl ?_
      refine g_bipush K 33 (10 : Int32) d2_33 (by decide) ?_
      refine g_ii_ne K 35 44 d2_35 (by decide) (by decide) ?_ ?_
      · intro c3
        refine g_iinc K 44 (1 : Int32) #[.val (.ref tx), .val (.ref ar), .val .null, .val (.ref ar), .val (.int (4 : Int32)), .val (.int ((0 : Int32) + (1 : Int32))), .val (.int b0)] d2_44 (by decide) rfl rfl ?_
        rw [show ((0 : Int32) + (1 : Int32)) = (1 : Int32) from by decide]
        refine g_goto K 47 18 d2_47 (by decide) (by decide) ?_
        refine g_iload K 18 d2_18 rfl ?_
        refine g_iload K 20 d2_20 rfl ?_
        refine g_ii_ge K 22 50 d2_22 (by decide) (by decide) ?_ ?_
        · intro c4
          exact absurd c4 (by decide)
        · intro c4
          refine g_aloadN K 25 d2_25 rfl rfl ?_
          refine g_iload K 26 d2_26 rfl ?_
          refine g_baload K 28 b1 d2_28 A0 (by decide) (by rw [show (1 : Int32).toNatClampNeg = 1 from by decide]; rfl) ?_
          refine g_istore K 29 #[.val (.ref tx), .val (.ref ar), .val .null, .val (.ref ar), .val (.int (4 : Int32)), .val (.int (1 : Int32)), .val (.int b1)] d2_29 rfl ?_
          refine g_iload K 31 d2_31 rfl ?_
          refine g_bipush K 33 (10 : Int32) d2_33 (by decide) ?_
          refine g_ii_ne K 35 44 d2_35 (by decide) (by decide) ?_ ?_
          · intro c5
            refine g_iinc K 44 (1 : Int32) #[.val (.ref tx), .val (.ref ar), .val .null, .val (.ref ar), .val (.int (4 : Int32)), .val (.int ((1 : Int32) + (1 : Int32))), .val (.int b1)] d2_44 (by decide) rfl rfl ?_
            rw [show ((1 : Int32) + (1 : Int32)) = (2 : Int32) from by decide]
            refine g_goto K 47 18 d2_47 (by decide) (by decide) ?_
            refine g_iload K 18 d2_18 rfl ?_
            refine g_iload K 20 d2_20 rfl ?_
            refine g_ii_ge K 22 50 d2_22 (by decide) (by decide) ?_ ?_
            · intro c6
              exact absurd c6 (by decide)
            · intro c6
              refine g_aloadN K 25 d2_25 rfl rfl ?_
              refine g_iload K 26 d2_26 rfl ?_
              refine g_baload K 28 b2 d2_28 A0 (by decide) (by rw [show (2 : Int32).toNatClampNeg = 2 from by decide]; rfl) ?_
              refine g_istore K 29 #[.val (.ref tx), .val (.ref ar), .val .null, .val (.ref ar), .val (.int (4 : Int32)), .val (.int (2 : Int32)), .val (.int b2)] d2_29 rfl ?_
              refine g_iload K 31 d2_31 rfl ?_
              refine g_bipush K 33 (10 : Int32) d2_33 (by decide) ?_
              refine g_ii_ne K 35 44 d2_35 (by decide) (by decide) ?_ ?_
              · intro c7
                refine g_iinc K 44 (1 : Int32) #[.val (.ref tx), .val (.ref ar), .val .null, .val (.ref ar), .val (.int (4 : Int32)), .val (.int ((2 : Int32) + (1 : Int32))), .val (.int b2)] d2_44 (by decide) rfl rfl ?_
                rw [show ((2 : Int32) + (1 : Int32)) = (3 : Int32) from by decide]
                refine g_goto K 47 18 d2_47 (by decide) (by decide) ?_
                refine g_iload K 18 d2_18 rfl ?_
                refine g_iload K 20 d2_20 rfl ?_
                refine g_ii_ge K 22 50 d2_22 (by decide) (by decide) ?_ ?_
                · intro c8
                  exact absurd c8 (by decide)
                · intro c8
                  refine g_aloadN K 25 d2_25 rfl rfl ?_
                  refine g_iload K 26 d2_26 rfl ?_
                  refine g_baload K 28 b3 d2_28 A0 (by decide) (by rw [show (3 : Int32).toNatClampNeg = 3 from by decide]; rfl) ?_
                  refine g_istore K 29 #[.val (.ref tx), .val (.ref ar), .val .null, .val (.ref ar), .val (.int (4 : Int32)), .val (.int (3 : Int32)), .val (.int b3)] d2_29 rfl ?_
                  refine g_iload K 31 d2_31 rfl ?_
                  refine g_bipush K 33 (10 : Int32) d2_33 (by decide) ?_
                  refine g_ii_ne K 35 44 d2_35 (by decide) (by decide) ?_ ?_
                  · intro c9
                    refine g_iinc K 44 (1 : Int32) #[.val (.ref tx), .val (.ref ar), .val .null, .val (.ref ar), .val (.int (4 : Int32)), .val (.int ((3 : Int32) + (1 : Int32))), .val (.int b3)] d2_44 (by decide) rfl rfl ?_
                    rw [show ((3 : Int32) + (1 : Int32)) = (4 : Int32) from by decide]
                    refine g_goto K 47 18 d2_47 (by decide) (by decide) ?_
                    refine g_iload K 18 d2_18 rfl ?_
                    refine g_iload K 20 d2_20 rfl ?_
                    refine g_ii_ge K 22 50 d2_22 (by decide) (by decide) ?_ ?_
                    · intro c10
                      refine g_aloadN K 50 d2_50 rfl rfl ?_
                      refine g_areturn K 51 (.object "java/lang/String") d2_51 rfl rfl rfl (by decide) (by decide) ?_
                      rw [hQ]
                      exact Or.inl ⟨rfl, rfl, by simp [c3, c5, c7, c9]⟩
                    · intro c10
                      exact absurd c10 (by decide)
                  · intro c9
                    refine g_ldcS K 38 212 (53 : Int32) own_txt d2_38 (tw hw 17 rfl) (own_wS hw) hZH (by rw [hsh]; exact Nat.le_refl _) (by rw [hsh]; exact hkp) hh hcw own_ht (by decide) (by decide) (by decide) (by decide) (by decide) (by decide) ?_
                    intro h11 vm12 a13 b14 Kp15 E16 F17 A18 KK19
                    refine g_astoreN KK19 40 #[.val (.ref tx), .val (.ref ar), .val (.ref a13), .val (.ref ar), .val (.int (4 : Int32)), .val (.int (3 : Int32)), .val (.int b3)] d2_40 rfl rfl ?_
                    refine g_goto KK19 41 50 d2_41 (by decide) (by decide) ?_
                    refine g_aloadN KK19 50 d2_50 rfl rfl ?_
                    refine g_areturn KK19 51 (.object "java/lang/String") d2_51 rfl rfl rfl (by decide) (by decide) ?_
                    rw [hQ]
                    exact Or.inr ⟨a13, b14, rfl, Kp15, E16, F17, A18, (Or.inr (Or.inr (Or.inr c9)))⟩
              · intro c7
                refine g_ldcS K 38 212 (53 : Int32) own_txt d2_38 (tw hw 17 rfl) (own_wS hw) hZH (by rw [hsh]; exact Nat.le_refl _) (by rw [hsh]; exact hkp) hh hcw own_ht (by decide) (by decide) (by decide) (by decide) (by decide) (by decide) ?_
                intro h20 vm21 a22 b23 Kp24 E25 F26 A27 KK28
                refine g_astoreN KK28 40 #[.val (.ref tx), .val (.ref ar), .val (.ref a22), .val (.ref ar), .val (.int (4 : Int32)), .val (.int (2 : Int32)), .val (.int b2)] d2_40 rfl rfl ?_
                refine g_goto KK28 41 50 d2_41 (by decide) (by decide) ?_
                refine g_aloadN KK28 50 d2_50 rfl rfl ?_
                refine g_areturn KK28 51 (.object "java/lang/String") d2_51 rfl rfl rfl (by decide) (by decide) ?_
                rw [hQ]
                exact Or.inr ⟨a22, b23, rfl, Kp24, E25, F26, A27, (Or.inr (Or.inr (Or.inl c7)))⟩
          · intro c5
            refine g_ldcS K 38 212 (53 : Int32) own_txt d2_38 (tw hw 17 rfl) (own_wS hw) hZH (by rw [hsh]; exact Nat.le_refl _) (by rw [hsh]; exact hkp) hh hcw own_ht (by decide) (by decide) (by decide) (by decide) (by decide) (by decide) ?_
            intro h29 vm30 a31 b32 Kp33 E34 F35 A36 KK37
            refine g_astoreN KK37 40 #[.val (.ref tx), .val (.ref ar), .val (.ref a31), .val (.ref ar), .val (.int (4 : Int32)), .val (.int (1 : Int32)), .val (.int b1)] d2_40 rfl rfl ?_
            refine g_goto KK37 41 50 d2_41 (by decide) (by decide) ?_
            refine g_aloadN KK37 50 d2_50 rfl rfl ?_
            refine g_areturn KK37 51 (.object "java/lang/String") d2_51 rfl rfl rfl (by decide) (by decide) ?_
            rw [hQ]
            exact Or.inr ⟨a31, b32, rfl, Kp33, E34, F35, A36, (Or.inr (Or.inl c5))⟩
      · intro c3
        refine g_ldcS K 38 212 (53 : Int32) own_txt d2_38 (tw hw 17 rfl) (own_wS hw) hZH (by rw [hsh]; exact Nat.le_refl _) (by rw [hsh]; exact hkp) hh hcw own_ht (by decide) (by decide) (by decide) (by decide) (by decide) (by decide) ?_
        intro h38 vm39 a40 b41 Kp42 E43 F44 A45 KK46
        refine g_astoreN KK46 40 #[.val (.ref tx), .val (.ref ar), .val (.ref a40), .val (.ref ar), .val (.int (4 : Int32)), .val (.int (0 : Int32)), .val (.int b0)] d2_40 rfl rfl ?_
        refine g_goto KK46 41 50 d2_41 (by decide) (by decide) ?_
        refine g_aloadN KK46 50 d2_50 rfl rfl ?_
        refine g_areturn KK46 51 (.object "java/lang/String") d2_51 rfl rfl rfl (by decide) (by decide) ?_
        rw [hQ]
        exact Or.inr ⟨a40, b41, rfl, Kp42, E43, F44, A45, (Or.inl c3)⟩
theorem own_len5 (p : Int32) : (p &&& (7 : Int32)) % (5 : Int32) = (0 : Int32) ∨ (p &&& (7 : Int32)) % (5 : Int32) = (1 : Int32) ∨ (p &&& (7 : Int32)) % (5 : Int32) = (2 : Int32) ∨ (p &&& (7 : Int32)) % (5 : Int32) = (3 : Int32) ∨ (p &&& (7 : Int32)) % (5 : Int32) = (4 : Int32) := by
  have hm := c_mask p 7 3 (by decide) (by decide)
  have hw := (c_irem (p &&& 7) 5 5 (by decide)).1 (by omega)
  generalize (p &&& (7 : Int32)) % (5 : Int32) = v at *
  have k : ∀ w : Int32, v = w ↔ v.toInt = w.toInt := fun w => Int32.toInt_inj.symm
  simp only [k, show (0 : Int32).toInt = 0 from by decide, show (1 : Int32).toInt = 1 from by decide, show (2 : Int32).toInt = 2 from by decide, show (3 : Int32).toInt = 3 from by decide, show (4 : Int32).toInt = 4 from by decide]
  omega
theorem own_nar {x v : Int32} (h : f_pick x = v) : nar .byte v = v := by
  subst h; unfold f_pick; split <;> simp [nar]
theorem own_ie : f_isEmpty own_txt = 0 := by decide +kernel
set_option maxRecDepth 65536 in
set_option maxHeartbeats 40000000 in
theorem rm_law (l : Launch) (Z : State) (a0 : Array Value) (hw : ∀ d ∈ tables_1, d.before a0 Z = true) (p0 : Int32) (p1 : Int32) (p2 : Int32) (p3 : Int32) (p4 : Int32) (p5 : Int32) (cd tx sq : Addr) (S1 : Sta Z Z.heap "com/example/caddis/caddis/SegmentFormat" "CADDIS" "Lcom/example/caddis/caddis/SegmentFormat;" (.ref cd)) (S2 : Sta Z Z.heap "com/example/caddis/caddis/SegmentFormat" "TEXT" "Lcom/example/caddis/caddis/SegmentFormat;" (.ref tx)) (S3 : Sta Z Z.heap "com/example/caddis/caddis/SegmentFormat" "SEQUENCE_FILE" "Lcom/example/caddis/caddis/SegmentFormat;" (.ref sq)) (E1 : Exa Z Z.heap cd "com/example/caddis/caddis/SegmentFormat") (E2 : Exa Z Z.heap tx "com/example/caddis/caddis/SegmentFormat") (E3 : Exa Z Z.heap sq "com/example/caddis/caddis/SegmentFormat") (ne1 : cd ≠ tx) (ne3 : sq ≠ tx) (hh : Jvm.Lit.constHeld Z "com/example/caddis/caddis/SegmentFormat" 72) (hcw : Jvm.Lit.compactW.before a0 Z = true) :
    MeetsL l x code maxLocals ret room_1 Z #[(.int p0), (.int p1), (.int p2), (.int p3), (.int p4), (.int p5)] Z.heap.size (fun v h => v = some (Value.int 1)) := by
  refine meetsL_of (plainFor_of_name pn0) (Ls := #[.val (.int p0), .val (.int p1), .val (.int p2), .val (.int p3), .val (.int p4), .val (.int p5), .unset, .unset, .unset, .unset, .unset, .unset, .unset, .unset, .unset, .unset, .unset, .unset, .unset]) (fun m => by first | (simp [entryFrame, mkF, argsToLocals, Value.category, maxLocals]; done) | rfl) ?_
  intro p e m below meth c K
  replace K : Kx Z "com/example/caddis/caddis/SegmentFormatRefusalOfPinLaw" "law" code maxLocals ret p Z m meth c (ReturnedEndW Z) 0 := K
  obtain ⟨Q, hQ⟩ : ∃ Q : Option Value → Heap → Prop, Q = (fun v h => v = some (Value.int 1)) := ⟨_, rfl⟩
  rw [← hQ]
  obtain ⟨n0, hn0⟩ : ∃ y : Nat, y = Z.heap.size := ⟨_, rfl⟩
  rw [← hn0]
  obtain ⟨h0, hh0⟩ : ∃ y : Heap, y = Z.heap := ⟨_, rfl⟩
  rw [← hh0] at S1 S2 S3 E1 E2 E3 hn0 ⊢
  have Z0 : n0 ≤ h0.size := Nat.le_of_eq hn0
  have KC0 : Keep Z.heap h0 [] := by rw [hh0]; exact Keep.refl _ _
  refine g_iloadN K 0 at_0 rfl ?_
  refine g_ldc K 1 (v := (2147483647 : Int32)) at_1 (tw hw 0 rfl) ?_
  refine g_iand K 3 at_3 ?_
  refine g_iconst K 4 (3 : Int32) at_4 (by decide) ?_
  refine g_irem K 5 at_5 (by decide) ?_
  generalize hv1 : ((p0 &&& (2147483647 : Int32)) % (3 : Int32)) = v1
  refine g_istore K 6 #[.val (.int p0), .val (.int p1), .val (.int p2), .val (.int p3), .val (.int p4), .val (.int p5), .val (.int v1), .unset, .unset, .unset, .unset, .unset, .unset, .unset, .unset, .unset, .unset, .unset, .unset] at_6 rfl ?_
  refine g_iload K 8 at_8 rfl ?_
  refine g_if_ne K 10 19 at_10 (by decide) (by decide) ?_ ?_
  · intro c2
    refine g_iload K 19 at_19 rfl ?_
    refine g_iconst K 21 (1 : Int32) at_21 (by decide) ?_
    refine g_ii_ne K 22 31 at_22 (by decide) (by decide) ?_ ?_
    · intro c3
      refine g_getstatic K 31 at_31 (tw hw 30 rfl) S3 ?_
      refine g_astore K 34 #[.val (.int p0), .val (.int p1), .val (.int p2), .val (.int p3), .val (.int p4), .val (.int p5), .val (.int v1), .val (.ref sq), .unset, .unset, .unset, .unset, .unset, .unset, .unset, .unset, .unset, .unset, .unset] at_34 rfl rfl ?_
      refine g_iloadN K 36 at_36 rfl ?_
      refine g_bipush K 37 (7 : Int32) at_37 (by decide) ?_
      refine g_iand K 39 at_39 ?_
      refine g_iconst K 40 (5 : Int32) at_40 (by decide) ?_
      refine g_irem K 41 at_41 (by decide) ?_
      rcases own_len5 p1 with hn | hn | hn | hn | hn
      · rw [hn]
        refine g_istore K 42 #[.val (.int p0), .val (.int p1), .val (.int p2), .val (.int p3), .val (.int p4), .val (.int p5), .val (.int v1), .val (.ref sq), .val (.int (0 : Int32)), .unset, .unset, .unset, .unset, .unset, .unset, .unset, .unset, .unset, .unset] at_42 rfl ?_
        refine g_iloadN K 44 at_44 rfl ?_
        refine g_callS K 45 [(.int p2)] 0 at_45 (rm_pick l Z a0 hw p2 h0 n0 Z0  ) (tw hw 4 rfl) (tw hw 5 rfl) (tw hw 6 rfl) (tw hw 7 rfl) (by decide) pd0 rfl (st := []) rfl (Nat.le_of_eq rfl) rfl (by decide) (by decide) (by decide) (by decide) ?_
        rintro _ _ ⟨hv, hh⟩
        rw [hv, hh]
        clear hv hh
        refine go_cast (k' := 0) (n' := 0) (st' := [(.int (f_pick p2))]) rfl rfl rfl ?_
        generalize hv4 : (f_pick p2) = v4
        refine g_istore K 48 #[.val (.int p0), .val (.int p1), .val (.int p2), .val (.int p3), .val (.int p4), .val (.int p5), .val (.int v1), .val (.ref sq), .val (.int (0 : Int32)), .val (.int v4), .unset, .unset, .unset, .unset, .unset, .unset, .unset, .unset, .unset] at_48 rfl ?_
        refine g_iloadN K 50 at_50 rfl ?_
        refine g_callS K 51 [(.int p3)] 0 at_51 (rm_pick l Z a0 hw p3 h0 n0 Z0  ) (tw hw 4 rfl) (tw hw 5 rfl) (tw hw 6 rfl) (tw hw 7 rfl) (by decide) pd0 rfl (st := []) rfl (Nat.le_of_eq rfl) rfl (by decide) (by decide) (by decide) (by decide) ?_
        rintro _ _ ⟨hv, hh⟩
        rw [hv, hh]
        clear hv hh
        refine go_cast (k' := 0) (n' := 0) (st' := [(.int (f_pick p3))]) rfl rfl rfl ?_
        generalize hv5 : (f_pick p3) = v5
        refine g_istore K 54 #[.val (.int p0), .val (.int p1), .val (.int p2), .val (.int p3), .val (.int p4), .val (.int p5), .val (.int v1), .val (.ref sq), .val (.int (0 : Int32)), .val (.int v4), .val (.int v5), .unset, .unset, .unset, .unset, .unset, .unset, .unset, .unset] at_54 rfl ?_
        refine g_iload K 56 at_56 rfl ?_
        refine g_callS K 58 [(.int p4)] 0 at_58 (rm_pick l Z a0 hw p4 h0 n0 Z0  ) (tw hw 4 rfl) (tw hw 5 rfl) (tw hw 6 rfl) (tw hw 7 rfl) (by decide) pd0 rfl (st := []) rfl (Nat.le_of_eq rfl) rfl (by decide) (by decide) (by decide) (by decide) ?_
        rintro _ _ ⟨hv, hh⟩
        rw [hv, hh]
        clear hv hh
        refine go_cast (k' := 0) (n' := 0) (st' := [(.int (f_pick p4))]) rfl rfl rfl ?_
        generalize hv6 : (f_pick p4) = v6
        refine g_istore K 61 #[.val (.int p0), .val (.int p1), .val (.int p2), .val (.int p3), .val (.int p4), .val (.int p5), .val (.int v1), .val (.ref sq), .val (.int (0 : Int32)), .val (.int v4), .val (.int v5), .val (.int v6), .unset, .unset, .unset, .unset, .unset, .unset, .unset] at_61 rfl ?_
        refine g_iload K 63 at_63 rfl ?_
        refine g_callS K 65 [(.int p5)] 0 at_65 (rm_pick l Z a0 hw p5 h0 n0 Z0  ) (tw hw 4 rfl) (tw hw 5 rfl) (tw hw 6 rfl) (tw hw 7 rfl) (by decide) pd0 rfl (st := []) rfl (Nat.le_of_eq rfl) rfl (by decide) (by decide) (by decide) (by decide) ?_
        rintro _ _ ⟨hv, hh⟩
        rw [hv, hh]
        clear hv hh
        refine go_cast (k' := 0) (n' := 0) (st' := [(.int (f_pick p5))]) rfl rfl rfl ?_
        generalize hv7 : (f_pick p5) = v7
        refine g_istore K 68 #[.val (.int p0), .val (.int p1), .val (.int p2), .val (.int p3), .val (.int p4), .val (.int p5), .val (.int v1), .val (.ref sq), .val (.int (0 : Int32)), .val (.int v4), .val (.int v5), .val (.int v6), .val (.int v7), .unset, .unset, .unset, .unset, .unset, .unset] at_68 rfl ?_
        refine g_iload K 70 at_70 rfl ?_
        refine g_newI K 72 .byte at_72 rfl rfl (tw hw 8 rfl) (by decide) 0 (by decide) (by decide) (by decide) (by decide) ?_
        intro h9 a8 eq12 Kp10 A11
        have g13 : n0 ≤ a8 := eq12 ▸ Z0
        have fr14 : Z.heap.size ≤ a8 := eq12 ▸ KC0.1
        have ne15 : cd ≠ a8 := own_ne_of_lt E1.lt eq12
        have ne16 : tx ≠ a8 := own_ne_of_lt E2.lt eq12
        have ne17 : sq ≠ a8 := own_ne_of_lt E3.lt eq12
        have S18 := sta_keep S1 Kp10 all0
        have S19 := sta_keep S2 Kp10 all0
        have S20 := sta_keep S3 Kp10 all0
        have E21 := E1.keep Kp10
        have E22 := E2.keep Kp10
        have E23 := E3.keep Kp10
        have Z24 := Nat.le_trans Z0 Kp10.1
        have KC25 := KC0.trans Kp10 all0
        have A26 : IA Z h9 a8 .byte [] := (by have q := A11; rw [show (0 : Int32).toNatClampNeg = 0 from by decide] at q; exact q)
        refine g_astore K 74 #[.val (.int p0), .val (.int p1), .val (.int p2), .val (.int p3), .val (.int p4), .val (.int p5), .val (.int v1), .val (.ref sq), .val (.int (0 : Int32)), .val (.int v4), .val (.int v5), .val (.int v6), .val (.int v7), .val (.ref a8), .unset, .unset, .unset, .unset, .unset] at_74 rfl rfl ?_
        refine g_iload K 76 at_76 rfl ?_
        refine g_if_le K 78 87 at_78 (by decide) (by decide) ?_ ?_
        · intro c27
          refine g_iload K 87 at_87 rfl ?_
          refine g_iconst K 89 (1 : Int32) at_89 (by decide) ?_
          refine g_ii_le K 90 99 at_90 (by decide) (by decide) ?_ ?_
          · intro c28
            refine g_iload K 99 at_99 rfl ?_
            refine g_iconst K 101 (2 : Int32) at_101 (by decide) ?_
            refine g_ii_le K 102 111 at_102 (by decide) (by decide) ?_ ?_
            · intro c29
              refine g_iload K 111 at_111 rfl ?_
              refine g_iconst K 113 (3 : Int32) at_113 (by decide) ?_
              refine g_ii_le K 114 123 at_114 (by decide) (by decide) ?_ ?_
              · intro c30
                refine g_iload K 123 at_123 rfl ?_
                refine g_if_le K 125 135 at_125 (by decide) (by decide) ?_ ?_
                · intro c31
                  refine g_iload K 135 at_135 rfl ?_
                  refine g_iconst K 137 (1 : Int32) at_137 (by decide) ?_
                  refine g_ii_le K 138 148 at_138 (by decide) (by decide) ?_ ?_
                  · intro c32
                    refine g_iload K 148 at_148 rfl ?_
                    refine g_iconst K 150 (2 : Int32) at_150 (by decide) ?_
                    refine g_ii_le K 151 161 at_151 (by decide) (by decide) ?_ ?_
                    · intro c33
                      refine g_iload K 161 at_161 rfl ?_
                      refine g_iconst K 163 (3 : Int32) at_163 (by decide) ?_
                      refine g_ii_le K 164 178 at_164 (by decide) (by decide) ?_ ?_
                      · intro c34
                        refine g_iconst K 178 (0 : Int32) at_178 (by decide) ?_
                        refine g_istore K 179 #[.val (.int p0), .val (.int p1), .val (.int p2), .val (.int p3), .val (.int p4), .val (.int p5), .val (.int v1), .val (.ref sq), .val (.int (0 : Int32)), .val (.int v4), .val (.int v5), .val (.int v6), .val (.int v7), .val (.ref a8), .val (.int (0 : Int32)), .unset, .unset, .unset, .unset] at_179 rfl ?_
                        refine g_iload K 181 at_181 rfl ?_
                        refine g_iconst K 183 (1 : Int32) at_183 (by decide) ?_
                        refine g_ii_ne K 184 196 at_184 (by decide) (by decide) ?_ ?_
                        · intro c35
                          refine g_iconst K 196 (0 : Int32) at_196 (by decide) ?_
                          refine g_istore K 197 #[.val (.int p0), .val (.int p1), .val (.int p2), .val (.int p3), .val (.int p4), .val (.int p5), .val (.int v1), .val (.ref sq), .val (.int (0 : Int32)), .val (.int v4), .val (.int v5), .val (.int v6), .val (.int v7), .val (.ref a8), .val (.int (0 : Int32)), .val (.int (0 : Int32)), .unset, .unset, .unset] at_197 rfl ?_
                          refine g_aload K 199 at_199 rfl rfl ?_
                          refine g_aload K 201 at_201 rfl rfl ?_
                          refine g_callVW K 203 [(.ref a8)] 0 at_203 (rm_refNo l Z a0 hw sq a8 h9 tx S19 ne3) Z24 E23 (tw hw 9 rfl) (tw hw 10 rfl) (tw hw 12 rfl) (tw hw 12 rfl) (tw hw 11 rfl) (tw hw 2 rfl) (tw hw 13 rfl) (by decide) pd1 rfl (st := []) rfl (Nat.le_of_eq rfl) rfl (by decide) (by decide) (by decide) (by decide) rfl ?_
                          intro v h36 vm37 hq hs39 KK38
                          obtain ⟨rfl, rfl⟩ := hq
                          refine go_cast (k' := ((0 + 1) + 2)) (n' := ((0 + 0) + 216)) (st' := [.null]) rfl rfl rfl ?_
                          refine g_astore KK38 206 #[.val (.int p0), .val (.int p1), .val (.int p2), .val (.int p3), .val (.int p4), .val (.int p5), .val (.int v1), .val (.ref sq), .val (.int (0 : Int32)), .val (.int v4), .val (.int v5), .val (.int v6), .val (.int v7), .val (.ref a8), .val (.int (0 : Int32)), .val (.int (0 : Int32)), .val .null, .unset, .unset] at_206 rfl rfl ?_
                          refine g_aload KK38 208 at_208 rfl rfl ?_
                          refine g_ifnull_null KK38 210 217 at_210 (by decide) (by decide) ?_
                          refine g_iconst KK38 217 (0 : Int32) at_217 (by decide) ?_
                          refine g_istore KK38 218 #[.val (.int p0), .val (.int p1), .val (.int p2), .val (.int p3), .val (.int p4), .val (.int p5), .val (.int v1), .val (.ref sq), .val (.int (0 : Int32)), .val (.int v4), .val (.int v5), .val (.int v6), .val (.int v7), .val (.ref a8), .val (.int (0 : Int32)), .val (.int (0 : Int32)), .val .null, .val (.int (0 : Int32)), .unset] at_218 rfl ?_
                          refine g_iload KK38 220 at_220 rfl ?_
                          refine g_iconst KK38 222 (1 : Int32) at_222 (by decide) ?_
                          refine g_ii_lt KK38 223 235 at_223 (by decide) (by decide) ?_ ?_
                          · intro c40
                            refine g_iload KK38 235 at_235 rfl ?_
                            refine g_iconst KK38 237 (2 : Int32) at_237 (by decide) ?_
                            refine g_ii_lt KK38 238 250 at_238 (by decide) (by decide) ?_ ?_
                            · intro c41
                              refine g_iload KK38 250 at_250 rfl ?_
                              refine g_iconst KK38 252 (3 : Int32) at_252 (by decide) ?_
                              refine g_ii_lt KK38 253 265 at_253 (by decide) (by decide) ?_ ?_
                              · intro c42
                                refine g_iload KK38 265 at_265 rfl ?_
                                refine g_iconst KK38 267 (4 : Int32) at_267 (by decide) ?_
                                refine g_ii_lt KK38 268 280 at_268 (by decide) (by decide) ?_ ?_
                                · intro c43
                                  refine g_iconst KK38 280 (1 : Int32) at_280 (by decide) ?_
                                  refine g_goto KK38 281 285 at_281 (by decide) (by decide) ?_
                                  refine g_istore KK38 285 #[.val (.int p0), .val (.int p1), .val (.int p2), .val (.int p3), .val (.int p4), .val (.int p5), .val (.int v1), .val (.ref sq), .val (.int (0 : Int32)), .val (.int v4), .val (.int v5), .val (.int v6), .val (.int v7), .val (.ref a8), .val (.int (0 : Int32)), .val (.int (0 : Int32)), .val .null, .val (.int (0 : Int32)), .val (.int (1 : Int32))] at_285 rfl ?_
                                  refine g_iload KK38 287 at_287 rfl ?_
                                  refine g_iload KK38 289 at_289 rfl ?_
                                  refine g_ii_ne KK38 291 316 at_291 (by decide) (by decide) ?_ ?_
                                  · intro c44
                                    exact absurd c44 (by decide)
                                  · intro c44
                                    refine g_iload KK38 294 at_294 rfl ?_
                                    refine g_if_eq KK38 296 307 at_296 (by decide) (by decide) ?_ ?_
                                    · intro c45
                                      refine g_iload KK38 307 at_307 rfl ?_
                                      refine g_if_eq KK38 309 316 at_309 (by decide) (by decide) ?_ ?_
                                      · intro c46
                                        exact absurd c46 (by decide)
                                      · intro c46
                                        refine g_iconst KK38 312 (1 : Int32) at_312 (by decide) ?_
                                        refine g_goto KK38 313 317 at_313 (by decide) (by decide) ?_
                                        refine g_retN KK38 317 .boolean at_317 rfl (by simp) (by decide) (by decide) ?_
                                        rw [hQ]
                                        rfl
                                    · intro c45
                                      exact absurd c45 (by decide)
                                · intro c43
                                  exact absurd c43 (by decide)
                              · intro c42
                                exact absurd c42 (by decide)
                            · intro c41
                              exact absurd c41 (by decide)
                          · intro c40
                            exact absurd c40 (by decide)
                        · intro c35
                          exact absurd c35 c3
                      · intro c34
                        exact absurd c34 (by decide)
                    · intro c33
                      exact absurd c33 (by decide)
                  · intro c32
                    exact absurd c32 (by decide)
                · intro c31
                  exact absurd c31 (by decide)
              · intro c30
                exact absurd c30 (by decide)
            · intro c29
              exact absurd c29 (by decide)
          · intro c28
            exact absurd c28 (by decide)
        · intro c27
          exact absurd c27 (by decide)
      · rw [hn]
        refine g_istore K 42 #[.val (.int p0), .val (.int p1), .val (.int p2), .val (.int p3), .val (.int p4), .val (.int p5), .val (.int v1), .val (.ref sq), .val (.int (1 : Int32)), .unset, .unset, .unset, .unset, .unset, .unset, .unset, .unset, .unset, .unset] at_42 rfl ?_
        refine g_iloadN K 44 at_44 rfl ?_
        refine g_callS K 45 [(.int p2)] 0 at_45 (rm_pick l Z a0 hw p2 h0 n0 Z0  ) (tw hw 4 rfl) (tw hw 5 rfl) (tw hw 6 rfl) (tw hw 7 rfl) (by decide) pd0 rfl (st := []) rfl (Nat.le_of_eq rfl) rfl (by decide) (by decide) (by decide) (by decide) ?_
        rintro _ _ ⟨hv, hh⟩
        rw [hv, hh]
        clear hv hh
        refine go_cast (k' := 0) (n' := 0) (st' := [(.int (f_pick p2))]) rfl rfl rfl ?_
        generalize hv47 : (f_pick p2) = v47
        refine g_istore K 48 #[.val (.int p0), .val (.int p1), .val (.int p2), .val (.int p3), .val (.int p4), .val (.int p5), .val (.int v1), .val (.ref sq), .val (.int (1 : Int32)), .val (.int v47), .unset, .unset, .unset, .unset, .unset, .unset, .unset, .unset, .unset] at_48 rfl ?_
        refine g_iloadN K 50 at_50 rfl ?_
        refine g_callS K 51 [(.int p3)] 0 at_51 (rm_pick l Z a0 hw p3 h0 n0 Z0  ) (tw hw 4 rfl) (tw hw 5 rfl) (tw hw 6 rfl) (tw hw 7 rfl) (by decide) pd0 rfl (st := []) rfl (Nat.le_of_eq rfl) rfl (by decide) (by decide) (by decide) (by decide) ?_
        rintro _ _ ⟨hv, hh⟩
        rw [hv, hh]
        clear hv hh
        refine go_cast (k' := 0) (n' := 0) (st' := [(.int (f_pick p3))]) rfl rfl rfl ?_
        generalize hv48 : (f_pick p3) = v48
        refine g_istore K 54 #[.val (.int p0), .val (.int p1), .val (.int p2), .val (.int p3), .val (.int p4), .val (.int p5), .val (.int v1), .val (.ref sq), .val (.int (1 : Int32)), .val (.int v47), .val (.int v48), .unset, .unset, .unset, .unset, .unset, .unset, .unset, .unset] at_54 rfl ?_
        refine g_iload K 56 at_56 rfl ?_
        refine g_callS K 58 [(.int p4)] 0 at_58 (rm_pick l Z a0 hw p4 h0 n0 Z0  ) (tw hw 4 rfl) (tw hw 5 rfl) (tw hw 6 rfl) (tw hw 7 rfl) (by decide) pd0 rfl (st := []) rfl (Nat.le_of_eq rfl) rfl (by decide) (by decide) (by decide) (by decide) ?_
        rintro _ _ ⟨hv, hh⟩
        rw [hv, hh]
        clear hv hh
        refine go_cast (k' := 0) (n' := 0) (st' := [(.int (f_pick p4))]) rfl rfl rfl ?_
        generalize hv49 : (f_pick p4) = v49
        refine g_istore K 61 #[.val (.int p0), .val (.int p1), .val (.int p2), .val (.int p3), .val (.int p4), .val (.int p5), .val (.int v1), .val (.ref sq), .val (.int (1 : Int32)), .val (.int v47), .val (.int v48), .val (.int v49), .unset, .unset, .unset, .unset, .unset, .unset, .unset] at_61 rfl ?_
        refine g_iload K 63 at_63 rfl ?_
        refine g_callS K 65 [(.int p5)] 0 at_65 (rm_pick l Z a0 hw p5 h0 n0 Z0  ) (tw hw 4 rfl) (tw hw 5 rfl) (tw hw 6 rfl) (tw hw 7 rfl) (by decide) pd0 rfl (st := []) rfl (Nat.le_of_eq rfl) rfl (by decide) (by decide) (by decide) (by decide) ?_
        rintro _ _ ⟨hv, hh⟩
        rw [hv, hh]
        clear hv hh
        refine go_cast (k' := 0) (n' := 0) (st' := [(.int (f_pick p5))]) rfl rfl rfl ?_
        generalize hv50 : (f_pick p5) = v50
        refine g_istore K 68 #[.val (.int p0), .val (.int p1), .val (.int p2), .val (.int p3), .val (.int p4), .val (.int p5), .val (.int v1), .val (.ref sq), .val (.int (1 : Int32)), .val (.int v47), .val (.int v48), .val (.int v49), .val (.int v50), .unset, .unset, .unset, .unset, .unset, .unset] at_68 rfl ?_
        refine g_iload K 70 at_70 rfl ?_
        refine g_newI K 72 .byte at_72 rfl rfl (tw hw 8 rfl) (by decide) 1 (by decide) (by decide) (by decide) (by decide) ?_
        intro h52 a51 eq55 Kp53 A54
        have g56 : n0 ≤ a51 := eq55 ▸ Z0
        have fr57 : Z.heap.size ≤ a51 := eq55 ▸ KC0.1
        have ne58 : cd ≠ a51 := own_ne_of_lt E1.lt eq55
        have ne59 : tx ≠ a51 := own_ne_of_lt E2.lt eq55
        have ne60 : sq ≠ a51 := own_ne_of_lt E3.lt eq55
        have S61 := sta_keep S1 Kp53 all0
        have S62 := sta_keep S2 Kp53 all0
        have S63 := sta_keep S3 Kp53 all0
        have E64 := E1.keep Kp53
        have E65 := E2.keep Kp53
        have E66 := E3.keep Kp53
        have Z67 := Nat.le_trans Z0 Kp53.1
        have KC68 := KC0.trans Kp53 all0
        have A69 : IA Z h52 a51 .byte [0] := (by have q := A54; rw [show (1 : Int32).toNatClampNeg = 1 from by decide] at q; exact q)
        refine g_astore K 74 #[.val (.int p0), .val (.int p1), .val (.int p2), .val (.int p3), .val (.int p4), .val (.int p5), .val (.int v1), .val (.ref sq), .val (.int (1 : Int32)), .val (.int v47), .val (.int v48), .val (.int v49), .val (.int v50), .val (.ref a51), .unset, .unset, .unset, .unset, .unset] at_74 rfl rfl ?_
        refine g_iload K 76 at_76 rfl ?_
        refine g_if_le K 78 87 at_78 (by decide) (by decide) ?_ ?_
        · intro c70
          exact absurd c70 (by decide)
        · intro c70
          refine g_aload K 81 at_81 rfl rfl ?_
          refine g_iconst K 83 (0 : Int32) at_83 (by decide) ?_
          refine g_iload K 84 at_84 rfl ?_
          refine g_bastore K 86 at_86 A69 (by decide) (show (0 : Int32).toNatClampNeg < 1 from by decide) g56 ?_
          intro h71 Kp72 A73
          have S74 := sta_keep S61 Kp72 (allS A69.nst all0)
          have S75 := sta_keep S62 Kp72 (allS A69.nst all0)
          have S76 := sta_keep S63 Kp72 (allS A69.nst all0)
          have E77 := E64.keep Kp72
          have E78 := E65.keep Kp72
          have E79 := E66.keep Kp72
          have Z80 := Nat.le_trans Z67 Kp72.1
          have KC81 := KC68.trans Kp72 (allS (Or.inr fr57) all0)
          have A82 : IA Z h71 a51 .byte [nar .byte v47] := (by have q := A73; rw [show (0 : Int32).toNatClampNeg = 0 from by decide] at q; exact q)
          refine g_iload K 87 at_87 rfl ?_
          refine g_iconst K 89 (1 : Int32) at_89 (by decide) ?_
          refine g_ii_le K 90 99 at_90 (by decide) (by decide) ?_ ?_
          · intro c83
            refine g_iload K 99 at_99 rfl ?_
            refine g_iconst K 101 (2 : Int32) at_101 (by decide) ?_
            refine g_ii_le K 102 111 at_102 (by decide) (by decide) ?_ ?_
            · intro c84
              refine g_iload K 111 at_111 rfl ?_
              refine g_iconst K 113 (3 : Int32) at_113 (by decide) ?_
              refine g_ii_le K 114 123 at_114 (by decide) (by decide) ?_ ?_
              · intro c85
                refine g_iload K 123 at_123 rfl ?_
                refine g_if_le K 125 135 at_125 (by decide) (by decide) ?_ ?_
                · intro c86
                  exact absurd c86 (by decide)
                · intro c86
                  refine g_iload K 128 at_128 rfl ?_
                  refine g_bipush K 130 (10 : Int32) at_130 (by decide) ?_
                  have J88 : ∀ (z87 : Int32), z87 = (if v47 = (10 : Int32) then (1 : Int32) else (0 : Int32)) → Go p l e room_1 Z m #[(.int p0), (.int p1), (.int p2), (.int p3), (.int p4), (.int p5)] below meth c n0 (ReturnedEndW Z) Q h71 (0 + 1) (0 + 1) (mkF m 179 #[.val (.int p0), .val (.int p1), .val (.int p2), .val (.int p3), .val (.int p4), .val (.int p5), .val (.int v1), .val (.ref sq), .val (.int (1 : Int32)), .val (.int v47), .val (.int v48), .val (.int v49), .val (.int v50), .val (.ref a51), .unset, .unset, .unset, .unset, .unset] [(.int z87)]) := by
                    intro z87 hz87
                    refine g_istore K 179 #[.val (.int p0), .val (.int p1), .val (.int p2), .val (.int p3), .val (.int p4), .val (.int p5), .val (.int v1), .val (.ref sq), .val (.int (1 : Int32)), .val (.int v47), .val (.int v48), .val (.int v49), .val (.int v50), .val (.ref a51), .val (.int z87), .unset, .unset, .unset, .unset] at_179 rfl ?_
                    refine g_iload K 181 at_181 rfl ?_
                    refine g_iconst K 183 (1 : Int32) at_183 (by decide) ?_
                    refine g_ii_ne K 184 196 at_184 (by decide) (by decide) ?_ ?_
                    · intro c89
                      refine g_iconst K 196 (0 : Int32) at_196 (by decide) ?_
                      refine g_istore K 197 #[.val (.int p0), .val (.int p1), .val (.int p2), .val (.int p3), .val (.int p4), .val (.int p5), .val (.int v1), .val (.ref sq), .val (.int (1 : Int32)), .val (.int v47), .val (.int v48), .val (.int v49), .val (.int v50), .val (.ref a51), .val (.int z87), .val (.int (0 : Int32)), .unset, .unset, .unset] at_197 rfl ?_
                      refine g_aload K 199 at_199 rfl rfl ?_
                      refine g_aload K 201 at_201 rfl rfl ?_
                      refine g_callVW K 203 [(.ref a51)] 0 at_203 (rm_refNo l Z a0 hw sq a51 h71 tx S75 ne3) Z80 E79 (tw hw 9 rfl) (tw hw 10 rfl) (tw hw 12 rfl) (tw hw 12 rfl) (tw hw 11 rfl) (tw hw 2 rfl) (tw hw 13 rfl) (by decide) pd1 rfl (st := []) rfl (Nat.le_of_eq rfl) rfl (by decide) (by decide) (by decide) (by decide) rfl ?_
                      intro v h90 vm91 hq hs93 KK92
                      obtain ⟨rfl, rfl⟩ := hq
                      refine go_cast (k' := ((0 + 1) + 2)) (n' := ((0 + 1) + 216)) (st' := [.null]) rfl rfl rfl ?_
                      refine g_astore KK92 206 #[.val (.int p0), .val (.int p1), .val (.int p2), .val (.int p3), .val (.int p4), .val (.int p5), .val (.int v1), .val (.ref sq), .val (.int (1 : Int32)), .val (.int v47), .val (.int v48), .val (.int v49), .val (.int v50), .val (.ref a51), .val (.int z87), .val (.int (0 : Int32)), .val .null, .unset, .unset] at_206 rfl rfl ?_
                      refine g_aload KK92 208 at_208 rfl rfl ?_
                      refine g_ifnull_null KK92 210 217 at_210 (by decide) (by decide) ?_
                      refine g_iconst KK92 217 (0 : Int32) at_217 (by decide) ?_
                      refine g_istore KK92 218 #[.val (.int p0), .val (.int p1), .val (.int p2), .val (.int p3), .val (.int p4), .val (.int p5), .val (.int v1), .val (.ref sq), .val (.int (1 : Int32)), .val (.int v47), .val (.int v48), .val (.int v49), .val (.int v50), .val (.ref a51), .val (.int z87), .val (.int (0 : Int32)), .val .null, .val (.int (0 : Int32)), .unset] at_218 rfl ?_
                      refine g_iload KK92 220 at_220 rfl ?_
                      refine g_iconst KK92 222 (1 : Int32) at_222 (by decide) ?_
                      refine g_ii_lt KK92 223 235 at_223 (by decide) (by decide) ?_ ?_
                      · intro c94
                        exact absurd c94 (by decide)
                      · intro c94
                        refine g_aload KK92 226 at_226 rfl rfl ?_
                        refine g_iconst KK92 228 (0 : Int32) at_228 (by decide) ?_
                        refine g_baload KK92 229 (nar .byte v47) at_229 A82 (by decide) (by rw [show (0 : Int32).toNatClampNeg = 0 from by decide]; rfl) ?_
                        refine g_iload KK92 230 at_230 rfl ?_
                        refine g_ii_ne KK92 232 284 at_232 (by decide) (by decide) ?_ ?_
                        · intro c95
                          exfalso
                          exact c95 (own_nar hv47)
                        · intro c95
                          refine g_iload KK92 235 at_235 rfl ?_
                          refine g_iconst KK92 237 (2 : Int32) at_237 (by decide) ?_
                          refine g_ii_lt KK92 238 250 at_238 (by decide) (by decide) ?_ ?_
                          · intro c96
                            refine g_iload KK92 250 at_250 rfl ?_
                            refine g_iconst KK92 252 (3 : Int32) at_252 (by decide) ?_
                            refine g_ii_lt KK92 253 265 at_253 (by decide) (by decide) ?_ ?_
                            · intro c97
                              refine g_iload KK92 265 at_265 rfl ?_
                              refine g_iconst KK92 267 (4 : Int32) at_267 (by decide) ?_
                              refine g_ii_lt KK92 268 280 at_268 (by decide) (by decide) ?_ ?_
                              · intro c98
                                refine g_iconst KK92 280 (1 : Int32) at_280 (by decide) ?_
                                refine g_goto KK92 281 285 at_281 (by decide) (by decide) ?_
                                refine g_istore KK92 285 #[.val (.int p0), .val (.int p1), .val (.int p2), .val (.int p3), .val (.int p4), .val (.int p5), .val (.int v1), .val (.ref sq), .val (.int (1 : Int32)), .val (.int v47), .val (.int v48), .val (.int v49), .val (.int v50), .val (.ref a51), .val (.int z87), .val (.int (0 : Int32)), .val .null, .val (.int (0 : Int32)), .val (.int (1 : Int32))] at_285 rfl ?_
                                refine g_iload KK92 287 at_287 rfl ?_
                                refine g_iload KK92 289 at_289 rfl ?_
                                refine g_ii_ne KK92 291 316 at_291 (by decide) (by decide) ?_ ?_
                                · intro c99
                                  exact absurd c99 (by decide)
                                · intro c99
                                  refine g_iload KK92 294 at_294 rfl ?_
                                  refine g_if_eq KK92 296 307 at_296 (by decide) (by decide) ?_ ?_
                                  · intro c100
                                    refine g_iload KK92 307 at_307 rfl ?_
                                    refine g_if_eq KK92 309 316 at_309 (by decide) (by decide) ?_ ?_
                                    · intro c101
                                      exact absurd c101 (by decide)
                                    · intro c101
                                      refine g_iconst KK92 312 (1 : Int32) at_312 (by decide) ?_
                                      refine g_goto KK92 313 317 at_313 (by decide) (by decide) ?_
                                      refine g_retN KK92 317 .boolean at_317 rfl (by simp) (by decide) (by decide) ?_
                                      rw [hQ]
                                      rfl
                                  · intro c100
                                    exact absurd c100 (by decide)
                              · intro c98
                                exact absurd c98 (by decide)
                            · intro c97
                              exact absurd c97 (by decide)
                          · intro c96
                            exact absurd c96 (by decide)
                    · intro c89
                      exact absurd c89 c3
                  refine g_ii_eq K 132 174 at_132 (by decide) (by decide) ?_ ?_
                  · intro c102
                    refine g_iconst K 174 (1 : Int32) at_174 (by decide) ?_
                    refine g_goto K 175 179 at_175 (by decide) (by decide) ?_
                    exact J88 _ (by rw [if_pos c102])
                  · intro c102
                    refine g_iload K 135 at_135 rfl ?_
                    refine g_iconst K 137 (1 : Int32) at_137 (by decide) ?_
                    refine g_ii_le K 138 148 at_138 (by decide) (by decide) ?_ ?_
                    · intro c103
                      refine g_iload K 148 at_148 rfl ?_
                      refine g_iconst K 150 (2 : Int32) at_150 (by decide) ?_
                      refine g_ii_le K 151 161 at_151 (by decide) (by decide) ?_ ?_
                      · intro c104
                        refine g_iload K 161 at_161 rfl ?_
                        refine g_iconst K 163 (3 : Int32) at_163 (by decide) ?_
                        refine g_ii_le K 164 178 at_164 (by decide) (by decide) ?_ ?_
                        · intro c105
                          refine g_iconst K 178 (0 : Int32) at_178 (by decide) ?_
                          exact J88 _ (by rw [if_neg c102])
                        · intro c105
                          exact absurd c105 (by decide)
                      · intro c104
                        exact absurd c104 (by decide)
                    · intro c103
                      exact absurd c103 (by decide)
              · intro c85
                exact absurd c85 (by decide)
            · intro c84
              exact absurd c84 (by decide)
          · intro c83
            exact absurd c83 (by decide)
      · rw [hn]
        refine g_istore K 42 #[.val (.int p0), .val (.int p1), .val (.int p2), .val (.int p3), .val (.int p4), .val (.int p5), .val (.int v1), .val (.ref sq), .val (.int (2 : Int32)), .unset, .unset, .unset, .unset, .unset, .unset, .unset, .unset, .unset, .unset] at_42 rfl ?_
        refine g_iloadN K 44 at_44 rfl ?_
        refine g_callS K 45 [(.int p2)] 0 at_45 (rm_pick l Z a0 hw p2 h0 n0 Z0  ) (tw hw 4 rfl) (tw hw 5 rfl) (tw hw 6 rfl) (tw hw 7 rfl) (by decide) pd0 rfl (st := []) rfl (Nat.le_of_eq rfl) rfl (by decide) (by decide) (by decide) (by decide) ?_
        rintro _ _ ⟨hv, hh⟩
        rw [hv, hh]
        clear hv hh
        refine go_cast (k' := 0) (n' := 0) (st' := [(.int (f_pick p2))]) rfl rfl rfl ?_
        generalize hv106 : (f_pick p2) = v106
        refine g_istore K 48 #[.val (.int p0), .val (.int p1), .val (.int p2), .val (.int p3), .val (.int p4), .val (.int p5), .val (.int v1), .val (.ref sq), .val (.int (2 : Int32)), .val (.int v106), .unset, .unset, .unset, .unset, .unset, .unset, .unset, .unset, .unset] at_48 rfl ?_
        refine g_iloadN K 50 at_50 rfl ?_
        refine g_callS K 51 [(.int p3)] 0 at_51 (rm_pick l Z a0 hw p3 h0 n0 Z0  ) (tw hw 4 rfl) (tw hw 5 rfl) (tw hw 6 rfl) (tw hw 7 rfl) (by decide) pd0 rfl (st := []) rfl (Nat.le_of_eq rfl) rfl (by decide) (by decide) (by decide) (by decide) ?_
        rintro _ _ ⟨hv, hh⟩
        rw [hv, hh]
        clear hv hh
        refine go_cast (k' := 0) (n' := 0) (st' := [(.int (f_pick p3))]) rfl rfl rfl ?_
        generalize hv107 : (f_pick p3) = v107
        refine g_istore K 54 #[.val (.int p0), .val (.int p1), .val (.int p2), .val (.int p3), .val (.int p4), .val (.int p5), .val (.int v1), .val (.ref sq), .val (.int (2 : Int32)), .val (.int v106), .val (.int v107), .unset, .unset, .unset, .unset, .unset, .unset, .unset, .unset] at_54 rfl ?_
        refine g_iload K 56 at_56 rfl ?_
        refine g_callS K 58 [(.int p4)] 0 at_58 (rm_pick l Z a0 hw p4 h0 n0 Z0  ) (tw hw 4 rfl) (tw hw 5 rfl) (tw hw 6 rfl) (tw hw 7 rfl) (by decide) pd0 rfl (st := []) rfl (Nat.le_of_eq rfl) rfl (by decide) (by decide) (by decide) (by decide) ?_
        rintro _ _ ⟨hv, hh⟩
        rw [hv, hh]
        clear hv hh
        refine go_cast (k' := 0) (n' := 0) (st' := [(.int (f_pick p4))]) rfl rfl rfl ?_
        generalize hv108 : (f_pick p4) = v108
        refine g_istore K 61 #[.val (.int p0), .val (.int p1), .val (.int p2), .val (.int p3), .val (.int p4), .val (.int p5), .val (.int v1), .val (.ref sq), .val (.int (2 : Int32)), .val (.int v106), .val (.int v107), .val (.int v108), .unset, .unset, .unset, .unset, .unset, .unset, .unset] at_61 rfl ?_
        refine g_iload K 63 at_63 rfl ?_
        refine g_callS K 65 [(.int p5)] 0 at_65 (rm_pick l Z a0 hw p5 h0 n0 Z0  ) (tw hw 4 rfl) (tw hw 5 rfl) (tw hw 6 rfl) (tw hw 7 rfl) (by decide) pd0 rfl (st := []) rfl (Nat.le_of_eq rfl) rfl (by decide) (by decide) (by decide) (by decide) ?_
        rintro _ _ ⟨hv, hh⟩
        rw [hv, hh]
        clear hv hh
        refine go_cast (k' := 0) (n' := 0) (st' := [(.int (f_pick p5))]) rfl rfl rfl ?_
        generalize hv109 : (f_pick p5) = v109
        refine g_istore K 68 #[.val (.int p0), .val (.int p1), .val (.int p2), .val (.int p3), .val (.int p4), .val (.int p5), .val (.int v1), .val (.ref sq), .val (.int (2 : Int32)), .val (.int v106), .val (.int v107), .val (.int v108), .val (.int v109), .unset, .unset, .unset, .unset, .unset, .unset] at_68 rfl ?_
        refine g_iload K 70 at_70 rfl ?_
        refine g_newI K 72 .byte at_72 rfl rfl (tw hw 8 rfl) (by decide) 2 (by decide) (by decide) (by decide) (by decide) ?_
        intro h111 a110 eq114 Kp112 A113
        have g115 : n0 ≤ a110 := eq114 ▸ Z0
        have fr116 : Z.heap.size ≤ a110 := eq114 ▸ KC0.1
        have ne117 : cd ≠ a110 := own_ne_of_lt E1.lt eq114
        have ne118 : tx ≠ a110 := own_ne_of_lt E2.lt eq114
        have ne119 : sq ≠ a110 := own_ne_of_lt E3.lt eq114
        have S120 := sta_keep S1 Kp112 all0
        have S121 := sta_keep S2 Kp112 all0
        have S122 := sta_keep S3 Kp112 all0
        have E123 := E1.keep Kp112
        have E124 := E2.keep Kp112
        have E125 := E3.keep Kp112
        have Z126 := Nat.le_trans Z0 Kp112.1
        have KC127 := KC0.trans Kp112 all0
        have A128 : IA Z h111 a110 .byte [0, 0] := (by have q := A113; rw [show (2 : Int32).toNatClampNeg = 2 from by decide] at q; exact q)
        refine g_astore K 74 #[.val (.int p0), .val (.int p1), .val (.int p2), .val (.int p3), .val (.int p4), .val (.int p5), .val (.int v1), .val (.ref sq), .val (.int (2 : Int32)), .val (.int v106), .val (.int v107), .val (.int v108), .val (.int v109), .val (.ref a110), .unset, .unset, .unset, .unset, .unset] at_74 rfl rfl ?_
        refine g_iload K 76 at_76 rfl ?_
        refine g_if_le K 78 87 at_78 (by decide) (by decide) ?_ ?_
        · intro c129
          exact absurd c129 (by decide)
        · intro c129
          refine g_aload K 81 at_81 rfl rfl ?_
          refine g_iconst K 83 (0 : Int32) at_83 (by decide) ?_
          refine g_iload K 84 at_84 rfl ?_
          refine g_bastore K 86 at_86 A128 (by decide) (show (0 : Int32).toNatClampNeg < 2 from by decide) g115 ?_
          intro h130 Kp131 A132
          have S133 := sta_keep S120 Kp131 (allS A128.nst all0)
          have S134 := sta_keep S121 Kp131 (allS A128.nst all0)
          have S135 := sta_keep S122 Kp131 (allS A128.nst all0)
          have E136 := E123.keep Kp131
          have E137 := E124.keep Kp131
          have E138 := E125.keep Kp131
          have Z139 := Nat.le_trans Z126 Kp131.1
          have KC140 := KC127.trans Kp131 (allS (Or.inr fr116) all0)
          have A141 : IA Z h130 a110 .byte [nar .byte v106, 0] := (by have q := A132; rw [show (0 : Int32).toNatClampNeg = 0 from by decide] at q; exact q)
          refine g_iload K 87 at_87 rfl ?_
          refine g_iconst K 89 (1 : Int32) at_89 (by decide) ?_
          refine g_ii_le K 90 99 at_90 (by decide) (by decide) ?_ ?_
          · intro c142
            exact absurd c142 (by decide)
          · intro c142
            refine g_aload K 93 at_93 rfl rfl ?_
            refine g_iconst K 95 (1 : Int32) at_95 (by decide) ?_
            refine g_iload K 96 at_96 rfl ?_
            refine g_bastore K 98 at_98 A141 (by decide) (show (1 : Int32).toNatClampNeg < 2 from by decide) g115 ?_
            intro h143 Kp144 A145
            have S146 := sta_keep S133 Kp144 (allS A141.nst all0)
            have S147 := sta_keep S134 Kp144 (allS A141.nst all0)
            have S148 := sta_keep S135 Kp144 (allS A141.nst all0)
            have E149 := E136.keep Kp144
            have E150 := E137.keep Kp144
            have E151 := E138.keep Kp144
            have Z152 := Nat.le_trans Z139 Kp144.1
            have KC153 := KC140.trans Kp144 (allS (Or.inr fr116) all0)
            have A154 : IA Z h143 a110 .byte [nar .byte v106, nar .byte v107] := (by have q := A145; rw [show (1 : Int32).toNatClampNeg = 1 from by decide] at q; exact q)
            refine g_iload K 99 at_99 rfl ?_
            refine g_iconst K 101 (2 : Int32) at_101 (by decide) ?_
            refine g_ii_le K 102 111 at_102 (by decide) (by decide) ?_ ?_
            · intro c155
              refine g_iload K 111 at_111 rfl ?_
              refine g_iconst K 113 (3 : Int32) at_113 (by decide) ?_
              refine g_ii_le K 114 123 at_114 (by decide) (by decide) ?_ ?_
              · intro c156
                refine g_iload K 123 at_123 rfl ?_
                refine g_if_le K 125 135 at_125 (by decide) (by decide) ?_ ?_
                · intro c157
                  exact absurd c157 (by decide)
                · intro c157
                  refine g_iload K 128 at_128 rfl ?_
                  refine g_bipush K 130 (10 : Int32) at_130 (by decide) ?_
                  have J159 : ∀ (z158 : Int32), z158 = (if v106 = (10 : Int32) then (1 : Int32) else (if v107 = (10 : Int32) then (1 : Int32) else (0 : Int32))) → Go p l e room_1 Z m #[(.int p0), (.int p1), (.int p2), (.int p3), (.int p4), (.int p5)] below meth c n0 (ReturnedEndW Z) Q h143 (0 + 1) (0 + 2) (mkF m 179 #[.val (.int p0), .val (.int p1), .val (.int p2), .val (.int p3), .val (.int p4), .val (.int p5), .val (.int v1), .val (.ref sq), .val (.int (2 : Int32)), .val (.int v106), .val (.int v107), .val (.int v108), .val (.int v109), .val (.ref a110), .unset, .unset, .unset, .unset, .unset] [(.int z158)]) := by
                    intro z158 hz158
                    refine g_istore K 179 #[.val (.int p0), .val (.int p1), .val (.int p2), .val (.int p3), .val (.int p4), .val (.int p5), .val (.int v1), .val (.ref sq), .val (.int (2 : Int32)), .val (.int v106), .val (.int v107), .val (.int v108), .val (.int v109), .val (.ref a110), .val (.int z158), .unset, .unset, .unset, .unset] at_179 rfl ?_
                    refine g_iload K 181 at_181 rfl ?_
                    refine g_iconst K 183 (1 : Int32) at_183 (by decide) ?_
                    refine g_ii_ne K 184 196 at_184 (by decide) (by decide) ?_ ?_
                    · intro c160
                      refine g_iconst K 196 (0 : Int32) at_196 (by decide) ?_
                      refine g_istore K 197 #[.val (.int p0), .val (.int p1), .val (.int p2), .val (.int p3), .val (.int p4), .val (.int p5), .val (.int v1), .val (.ref sq), .val (.int (2 : Int32)), .val (.int v106), .val (.int v107), .val (.int v108), .val (.int v109), .val (.ref a110), .val (.int z158), .val (.int (0 : Int32)), .unset, .unset, .unset] at_197 rfl ?_
                      refine g_aload K 199 at_199 rfl rfl ?_
                      refine g_aload K 201 at_201 rfl rfl ?_
                      refine g_callVW K 203 [(.ref a110)] 0 at_203 (rm_refNo l Z a0 hw sq a110 h143 tx S147 ne3) Z152 E151 (tw hw 9 rfl) (tw hw 10 rfl) (tw hw 12 rfl) (tw hw 12 rfl) (tw hw 11 rfl) (tw hw 2 rfl) (tw hw 13 rfl) (by decide) pd1 rfl (st := []) rfl (Nat.le_of_eq rfl) rfl (by decide) (by decide) (by decide) (by decide) rfl ?_
                      intro v h161 vm162 hq hs164 KK163
                      obtain ⟨rfl, rfl⟩ := hq
                      refine go_cast (k' := ((0 + 1) + 2)) (n' := ((0 + 2) + 216)) (st' := [.null]) rfl rfl rfl ?_
                      refine g_astore KK163 206 #[.val (.int p0), .val (.int p1), .val (.int p2), .val (.int p3), .val (.int p4), .val (.int p5), .val (.int v1), .val (.ref sq), .val (.int (2 : Int32)), .val (.int v106), .val (.int v107), .val (.int v108), .val (.int v109), .val (.ref a110), .val (.int z158), .val (.int (0 : Int32)), .val .null, .unset, .unset] at_206 rfl rfl ?_
                      refine g_aload KK163 208 at_208 rfl rfl ?_
                      refine g_ifnull_null KK163 210 217 at_210 (by decide) (by decide) ?_
                      refine g_iconst KK163 217 (0 : Int32) at_217 (by decide) ?_
                      refine g_istore KK163 218 #[.val (.int p0), .val (.int p1), .val (.int p2), .val (.int p3), .val (.int p4), .val (.int p5), .val (.int v1), .val (.ref sq), .val (.int (2 : Int32)), .val (.int v106), .val (.int v107), .val (.int v108), .val (.int v109), .val (.ref a110), .val (.int z158), .val (.int (0 : Int32)), .val .null, .val (.int (0 : Int32)), .unset] at_218 rfl ?_
                      refine g_iload KK163 220 at_220 rfl ?_
                      refine g_iconst KK163 222 (1 : Int32) at_222 (by decide) ?_
                      refine g_ii_lt KK163 223 235 at_223 (by decide) (by decide) ?_ ?_
                      · intro c165
                        exact absurd c165 (by decide)
                      · intro c165
                        refine g_aload KK163 226 at_226 rfl rfl ?_
                        refine g_iconst KK163 228 (0 : Int32) at_228 (by decide) ?_
                        refine g_baload KK163 229 (nar .byte v106) at_229 A154 (by decide) (by rw [show (0 : Int32).toNatClampNeg = 0 from by decide]; rfl) ?_
                        refine g_iload KK163 230 at_230 rfl ?_
                        refine g_ii_ne KK163 232 284 at_232 (by decide) (by decide) ?_ ?_
                        · intro c166
                          exfalso
                          exact c166 (own_nar hv106)
                        · intro c166
                          refine g_iload KK163 235 at_235 rfl ?_
                          refine g_iconst KK163 237 (2 : Int32) at_237 (by decide) ?_
                          refine g_ii_lt KK163 238 250 at_238 (by decide) (by decide) ?_ ?_
                          · intro c167
                            exact absurd c167 (by decide)
                          · intro c167
                            refine g_aload KK163 241 at_241 rfl rfl ?_
                            refine g_iconst KK163 243 (1 : Int32) at_243 (by decide) ?_
                            refine g_baload KK163 244 (nar .byte v107) at_244 A154 (by decide) (by rw [show (1 : Int32).toNatClampNeg = 1 from by decide]; rfl) ?_
                            refine g_iload KK163 245 at_245 rfl ?_
                            refine g_ii_ne KK163 247 284 at_247 (by decide) (by decide) ?_ ?_
                            · intro c168
                              exfalso
                              exact c168 (own_nar hv107)
                            · intro c168
                              refine g_iload KK163 250 at_250 rfl ?_
                              refine g_iconst KK163 252 (3 : Int32) at_252 (by decide) ?_
                              refine g_ii_lt KK163 253 265 at_253 (by decide) (by decide) ?_ ?_
                              · intro c169
                                refine g_iload KK163 265 at_265 rfl ?_
                                refine g_iconst KK163 267 (4 : Int32) at_267 (by decide) ?_
                                refine g_ii_lt KK163 268 280 at_268 (by decide) (by decide) ?_ ?_
                                · intro c170
                                  refine g_iconst KK163 280 (1 : Int32) at_280 (by decide) ?_
                                  refine g_goto KK163 281 285 at_281 (by decide) (by decide) ?_
                                  refine g_istore KK163 285 #[.val (.int p0), .val (.int p1), .val (.int p2), .val (.int p3), .val (.int p4), .val (.int p5), .val (.int v1), .val (.ref sq), .val (.int (2 : Int32)), .val (.int v106), .val (.int v107), .val (.int v108), .val (.int v109), .val (.ref a110), .val (.int z158), .val (.int (0 : Int32)), .val .null, .val (.int (0 : Int32)), .val (.int (1 : Int32))] at_285 rfl ?_
                                  refine g_iload KK163 287 at_287 rfl ?_
                                  refine g_iload KK163 289 at_289 rfl ?_
                                  refine g_ii_ne KK163 291 316 at_291 (by decide) (by decide) ?_ ?_
                                  · intro c171
                                    exact absurd c171 (by decide)
                                  · intro c171
                                    refine g_iload KK163 294 at_294 rfl ?_
                                    refine g_if_eq KK163 296 307 at_296 (by decide) (by decide) ?_ ?_
                                    · intro c172
                                      refine g_iload KK163 307 at_307 rfl ?_
                                      refine g_if_eq KK163 309 316 at_309 (by decide) (by decide) ?_ ?_
                                      · intro c173
                                        exact absurd c173 (by decide)
                                      · intro c173
                                        refine g_iconst KK163 312 (1 : Int32) at_312 (by decide) ?_
                                        refine g_goto KK163 313 317 at_313 (by decide) (by decide) ?_
                                        refine g_retN KK163 317 .boolean at_317 rfl (by simp) (by decide) (by decide) ?_
                                        rw [hQ]
                                        rfl
                                    · intro c172
                                      exact absurd c172 (by decide)
                                · intro c170
                                  exact absurd c170 (by decide)
                              · intro c169
                                exact absurd c169 (by decide)
                    · intro c160
                      exact absurd c160 c3
                  refine g_ii_eq K 132 174 at_132 (by decide) (by decide) ?_ ?_
                  · intro c174
                    refine g_iconst K 174 (1 : Int32) at_174 (by decide) ?_
                    refine g_goto K 175 179 at_175 (by decide) (by decide) ?_
                    exact J159 _ (by rw [if_pos c174])
                  · intro c174
                    refine g_iload K 135 at_135 rfl ?_
                    refine g_iconst K 137 (1 : Int32) at_137 (by decide) ?_
                    refine g_ii_le K 138 148 at_138 (by decide) (by decide) ?_ ?_
                    · intro c175
                      exact absurd c175 (by decide)
                    · intro c175
                      refine g_iload K 141 at_141 rfl ?_
                      refine g_bipush K 143 (10 : Int32) at_143 (by decide) ?_
                      refine g_ii_eq K 145 174 at_145 (by decide) (by decide) ?_ ?_
                      · intro c176
                        refine g_iconst K 174 (1 : Int32) at_174 (by decide) ?_
                        refine g_goto K 175 179 at_175 (by decide) (by decide) ?_
                        exact J159 _ (by rw [if_neg c174, if_pos c176])
                      · intro c176
                        refine g_iload K 148 at_148 rfl ?_
                        refine g_iconst K 150 (2 : Int32) at_150 (by decide) ?_
                        refine g_ii_le K 151 161 at_151 (by decide) (by decide) ?_ ?_
                        · intro c177
                          refine g_iload K 161 at_161 rfl ?_
                          refine g_iconst K 163 (3 : Int32) at_163 (by decide) ?_
                          refine g_ii_le K 164 178 at_164 (by decide) (by decide) ?_ ?_
                          · intro c178
                            refine g_iconst K 178 (0 : Int32) at_178 (by decide) ?_
                            exact J159 _ (by rw [if_neg c174, if_neg c176])
                          · intro c178
                            exact absurd c178 (by decide)
                        · intro c177
                          exact absurd c177 (by decide)
              · intro c156
                exact absurd c156 (by decide)
            · intro c155
              exact absurd c155 (by decide)
      · rw [hn]
        refine g_istore K 42 #[.val (.int p0), .val (.int p1), .val (.int p2), .val (.int p3), .val (.int p4), .val (.int p5), .val (.int v1), .val (.ref sq), .val (.int (3 : Int32)), .unset, .unset, .unset, .unset, .unset, .unset, .unset, .unset, .unset, .unset] at_42 rfl ?_
        refine g_iloadN K 44 at_44 rfl ?_
        refine g_callS K 45 [(.int p2)] 0 at_45 (rm_pick l Z a0 hw p2 h0 n0 Z0  ) (tw hw 4 rfl) (tw hw 5 rfl) (tw hw 6 rfl) (tw hw 7 rfl) (by decide) pd0 rfl (st := []) rfl (Nat.le_of_eq rfl) rfl (by decide) (by decide) (by decide) (by decide) ?_
        rintro _ _ ⟨hv, hh⟩
        rw [hv, hh]
        clear hv hh
        refine go_cast (k' := 0) (n' := 0) (st' := [(.int (f_pick p2))]) rfl rfl rfl ?_
        generalize hv179 : (f_pick p2) = v179
        refine g_istore K 48 #[.val (.int p0), .val (.int p1), .val (.int p2), .val (.int p3), .val (.int p4), .val (.int p5), .val (.int v1), .val (.ref sq), .val (.int (3 : Int32)), .val (.int v179), .unset, .unset, .unset, .unset, .unset, .unset, .unset, .unset, .unset] at_48 rfl ?_
        refine g_iloadN K 50 at_50 rfl ?_
        refine g_callS K 51 [(.int p3)] 0 at_51 (rm_pick l Z a0 hw p3 h0 n0 Z0  ) (tw hw 4 rfl) (tw hw 5 rfl) (tw hw 6 rfl) (tw hw 7 rfl) (by decide) pd0 rfl (st := []) rfl (Nat.le_of_eq rfl) rfl (by decide) (by decide) (by decide) (by decide) ?_
        rintro _ _ ⟨hv, hh⟩
        rw [hv, hh]
        clear hv hh
        refine go_cast (k' := 0) (n' := 0) (st' := [(.int (f_pick p3))]) rfl rfl rfl ?_
        generalize hv180 : (f_pick p3) = v180
        refine g_istore K 54 #[.val (.int p0), .val (.int p1), .val (.int p2), .val (.int p3), .val (.int p4), .val (.int p5), .val (.int v1), .val (.ref sq), .val (.int (3 : Int32)), .val (.int v179), .val (.int v180), .unset, .unset, .unset, .unset, .unset, .unset, .unset, .unset] at_54 rfl ?_
        refine g_iload K 56 at_56 rfl ?_
        refine g_callS K 58 [(.int p4)] 0 at_58 (rm_pick l Z a0 hw p4 h0 n0 Z0  ) (tw hw 4 rfl) (tw hw 5 rfl) (tw hw 6 rfl) (tw hw 7 rfl) (by decide) pd0 rfl (st := []) rfl (Nat.le_of_eq rfl) rfl (by decide) (by decide) (by decide) (by decide) ?_
        rintro _ _ ⟨hv, hh⟩
        rw [hv, hh]
        clear hv hh
        refine go_cast (k' := 0) (n' := 0) (st' := [(.int (f_pick p4))]) rfl rfl rfl ?_
        generalize hv181 : (f_pick p4) = v181
        refine g_istore K 61 #[.val (.int p0), .val (.int p1), .val (.int p2), .val (.int p3), .val (.int p4), .val (.int p5), .val (.int v1), .val (.ref sq), .val (.int (3 : Int32)), .val (.int v179), .val (.int v180), .val (.int v181), .unset, .unset, .unset, .unset, .unset, .unset, .unset] at_61 rfl ?_
        refine g_iload K 63 at_63 rfl ?_
        refine g_callS K 65 [(.int p5)] 0 at_65 (rm_pick l Z a0 hw p5 h0 n0 Z0  ) (tw hw 4 rfl) (tw hw 5 rfl) (tw hw 6 rfl) (tw hw 7 rfl) (by decide) pd0 rfl (st := []) rfl (Nat.le_of_eq rfl) rfl (by decide) (by decide) (by decide) (by decide) ?_
        rintro _ _ ⟨hv, hh⟩
        rw [hv, hh]
        clear hv hh
        refine go_cast (k' := 0) (n' := 0) (st' := [(.int (f_pick p5))]) rfl rfl rfl ?_
        generalize hv182 : (f_pick p5) = v182
        refine g_istore K 68 #[.val (.int p0), .val (.int p1), .val (.int p2), .val (.int p3), .val (.int p4), .val (.int p5), .val (.int v1), .val (.ref sq), .val (.int (3 : Int32)), .val (.int v179), .val (.int v180), .val (.int v181), .val (.int v182), .unset, .unset, .unset, .unset, .unset, .unset] at_68 rfl ?_
        refine g_iload K 70 at_70 rfl ?_
        refine g_newI K 72 .byte at_72 rfl rfl (tw hw 8 rfl) (by decide) 3 (by decide) (by decide) (by decide) (by decide) ?_
        intro h184 a183 eq187 Kp185 A186
        have g188 : n0 ≤ a183 := eq187 ▸ Z0
        have fr189 : Z.heap.size ≤ a183 := eq187 ▸ KC0.1
        have ne190 : cd ≠ a183 := own_ne_of_lt E1.lt eq187
        have ne191 : tx ≠ a183 := own_ne_of_lt E2.lt eq187
        have ne192 : sq ≠ a183 := own_ne_of_lt E3.lt eq187
        have S193 := sta_keep S1 Kp185 all0
        have S194 := sta_keep S2 Kp185 all0
        have S195 := sta_keep S3 Kp185 all0
        have E196 := E1.keep Kp185
        have E197 := E2.keep Kp185
        have E198 := E3.keep Kp185
        have Z199 := Nat.le_trans Z0 Kp185.1
        have KC200 := KC0.trans Kp185 all0
        have A201 : IA Z h184 a183 .byte [0, 0, 0] := (by have q := A186; rw [show (3 : Int32).toNatClampNeg = 3 from by decide] at q; exact q)
        refine g_astore K 74 #[.val (.int p0), .val (.int p1), .val (.int p2), .val (.int p3), .val (.int p4), .val (.int p5), .val (.int v1), .val (.ref sq), .val (.int (3 : Int32)), .val (.int v179), .val (.int v180), .val (.int v181), .val (.int v182), .val (.ref a183), .unset, .unset, .unset, .unset, .unset] at_74 rfl rfl ?_
        refine g_iload K 76 at_76 rfl ?_
        refine g_if_le K 78 87 at_78 (by decide) (by decide) ?_ ?_
        · intro c202
          exact absurd c202 (by decide)
        · intro c202
          refine g_aload K 81 at_81 rfl rfl ?_
          refine g_iconst K 83 (0 : Int32) at_83 (by decide) ?_
          refine g_iload K 84 at_84 rfl ?_
          refine g_bastore K 86 at_86 A201 (by decide) (show (0 : Int32).toNatClampNeg < 3 from by decide) g188 ?_
          intro h203 Kp204 A205
          have S206 := sta_keep S193 Kp204 (allS A201.nst all0)
          have S207 := sta_keep S194 Kp204 (allS A201.nst all0)
          have S208 := sta_keep S195 Kp204 (allS A201.nst all0)
          have E209 := E196.keep Kp204
          have E210 := E197.keep Kp204
          have E211 := E198.keep Kp204
          have Z212 := Nat.le_trans Z199 Kp204.1
          have KC213 := KC200.trans Kp204 (allS (Or.inr fr189) all0)
          have A214 : IA Z h203 a183 .byte [nar .byte v179, 0, 0] := (by have q := A205; rw [show (0 : Int32).toNatClampNeg = 0 from by decide] at q; exact q)
          refine g_iload K 87 at_87 rfl ?_
          refine g_iconst K 89 (1 : Int32) at_89 (by decide) ?_
          refine g_ii_le K 90 99 at_90 (by decide) (by decide) ?_ ?_
          · intro c215
            exact absurd c215 (by decide)
          · intro c215
            refine g_aload K 93 at_93 rfl rfl ?_
            refine g_iconst K 95 (1 : Int32) at_95 (by decide) ?_
            refine g_iload K 96 at_96 rfl ?_
            refine g_bastore K 98 at_98 A214 (by decide) (show (1 : Int32).toNatClampNeg < 3 from by decide) g188 ?_
            intro h216 Kp217 A218
            have S219 := sta_keep S206 Kp217 (allS A214.nst all0)
            have S220 := sta_keep S207 Kp217 (allS A214.nst all0)
            have S221 := sta_keep S208 Kp217 (allS A214.nst all0)
            have E222 := E209.keep Kp217
            have E223 := E210.keep Kp217
            have E224 := E211.keep Kp217
            have Z225 := Nat.le_trans Z212 Kp217.1
            have KC226 := KC213.trans Kp217 (allS (Or.inr fr189) all0)
            have A227 : IA Z h216 a183 .byte [nar .byte v179, nar .byte v180, 0] := (by have q := A218; rw [show (1 : Int32).toNatClampNeg = 1 from by decide] at q; exact q)
            refine g_iload K 99 at_99 rfl ?_
            refine g_iconst K 101 (2 : Int32) at_101 (by decide) ?_
            refine g_ii_le K 102 111 at_102 (by decide) (by decide) ?_ ?_
            · intro c228
              exact absurd c228 (by decide)
            · intro c228
              refine g_aload K 105 at_105 rfl rfl ?_
              refine g_iconst K 107 (2 : Int32) at_107 (by decide) ?_
              refine g_iload K 108 at_108 rfl ?_
              refine g_bastore K 110 at_110 A227 (by decide) (show (2 : Int32).toNatClampNeg < 3 from by decide) g188 ?_
              intro h229 Kp230 A231
              have S232 := sta_keep S219 Kp230 (allS A227.nst all0)
              have S233 := sta_keep S220 Kp230 (allS A227.nst all0)
              have S234 := sta_keep S221 Kp230 (allS A227.nst all0)
              have E235 := E222.keep Kp230
              have E236 := E223.keep Kp230
              have E237 := E224.keep Kp230
              have Z238 := Nat.le_trans Z225 Kp230.1
              have KC239 := KC226.trans Kp230 (allS (Or.inr fr189) all0)
              have A240 : IA Z h229 a183 .byte [nar .byte v179, nar .byte v180, nar .byte v181] := (by have q := A231; rw [show (2 : Int32).toNatClampNeg = 2 from by decide] at q; exact q)
              refine g_iload K 111 at_111 rfl ?_
              refine g_iconst K 113 (3 : Int32) at_113 (by decide) ?_
              refine g_ii_le K 114 123 at_114 (by decide) (by decide) ?_ ?_
              · intro c241
                refine g_iload K 123 at_123 rfl ?_
                refine g_if_le K 125 135 at_125 (by decide) (by decide) ?_ ?_
                · intro c242
                  exact absurd c242 (by decide)
                · intro c242
                  refine g_iload K 128 at_128 rfl ?_
                  refine g_bipush K 130 (10 : Int32) at_130 (by decide) ?_
                  have J244 : ∀ (z243 : Int32), z243 = (if v179 = (10 : Int32) then (1 : Int32) else (if v180 = (10 : Int32) then (1 : Int32) else (if v181 = (10 : Int32) then (1 : Int32) else (0 : Int32)))) → Go p l e room_1 Z m #[(.int p0), (.int p1), (.int p2), (.int p3), (.int p4), (.int p5)] below meth c n0 (ReturnedEndW Z) Q h229 (0 + 1) (0 + 3) (mkF m 179 #[.val (.int p0), .val (.int p1), .val (.int p2), .val (.int p3), .val (.int p4), .val (.int p5), .val (.int v1), .val (.ref sq), .val (.int (3 : Int32)), .val (.int v179), .val (.int v180), .val (.int v181), .val (.int v182), .val (.ref a183), .unset, .unset, .unset, .unset, .unset] [(.int z243)]) := by
                    intro z243 hz243
                    refine g_istore K 179 #[.val (.int p0), .val (.int p1), .val (.int p2), .val (.int p3), .val (.int p4), .val (.int p5), .val (.int v1), .val (.ref sq), .val (.int (3 : Int32)), .val (.int v179), .val (.int v180), .val (.int v181), .val (.int v182), .val (.ref a183), .val (.int z243), .unset, .unset, .unset, .unset] at_179 rfl ?_
                    refine g_iload K 181 at_181 rfl ?_
                    refine g_iconst K 183 (1 : Int32) at_183 (by decide) ?_
                    refine g_ii_ne K 184 196 at_184 (by decide) (by decide) ?_ ?_
                    · intro c245
                      refine g_iconst K 196 (0 : Int32) at_196 (by decide) ?_
                      refine g_istore K 197 #[.val (.int p0), .val (.int p1), .val (.int p2), .val (.int p3), .val (.int p4), .val (.int p5), .val (.int v1), .val (.ref sq), .val (.int (3 : Int32)), .val (.int v179), .val (.int v180), .val (.int v181), .val (.int v182), .val (.ref a183), .val (.int z243), .val (.int (0 : Int32)), .unset, .unset, .unset] at_197 rfl ?_
                      refine g_aload K 199 at_199 rfl rfl ?_
                      refine g_aload K 201 at_201 rfl rfl ?_
                      refine g_callVW K 203 [(.ref a183)] 0 at_203 (rm_refNo l Z a0 hw sq a183 h229 tx S233 ne3) Z238 E237 (tw hw 9 rfl) (tw hw 10 rfl) (tw hw 12 rfl) (tw hw 12 rfl) (tw hw 11 rfl) (tw hw 2 rfl) (tw hw 13 rfl) (by decide) pd1 rfl (st := []) rfl (Nat.le_of_eq rfl) rfl (by decide) (by decide) (by decide) (by decide) rfl ?_
                      intro v h246 vm247 hq hs249 KK248
                      obtain ⟨rfl, rfl⟩ := hq
                      refine go_cast (k' := ((0 + 1) + 2)) (n' := ((0 + 3) + 216)) (st' := [.null]) rfl rfl rfl ?_
                      refine g_astore KK248 206 #[.val (.int p0), .val (.int p1), .val (.int p2), .val (.int p3), .val (.int p4), .val (.int p5), .val (.int v1), .val (.ref sq), .val (.int (3 : Int32)), .val (.int v179), .val (.int v180), .val (.int v181), .val (.int v182), .val (.ref a183), .val (.int z243), .val (.int (0 : Int32)), .val .null, .unset, .unset] at_206 rfl rfl ?_
                      refine g_aload KK248 208 at_208 rfl rfl ?_
                      refine g_ifnull_null KK248 210 217 at_210 (by decide) (by decide) ?_
                      refine g_iconst KK248 217 (0 : Int32) at_217 (by decide) ?_
                      refine g_istore KK248 218 #[.val (.int p0), .val (.int p1), .val (.int p2), .val (.int p3), .val (.int p4), .val (.int p5), .val (.int v1), .val (.ref sq), .val (.int (3 : Int32)), .val (.int v179), .val (.int v180), .val (.int v181), .val (.int v182), .val (.ref a183), .val (.int z243), .val (.int (0 : Int32)), .val .null, .val (.int (0 : Int32)), .unset] at_218 rfl ?_
                      refine g_iload KK248 220 at_220 rfl ?_
                      refine g_iconst KK248 222 (1 : Int32) at_222 (by decide) ?_
                      refine g_ii_lt KK248 223 235 at_223 (by decide) (by decide) ?_ ?_
                      · intro c250
                        exact absurd c250 (by decide)
                      · intro c250
                        refine g_aload KK248 226 at_226 rfl rfl ?_
                        refine g_iconst KK248 228 (0 : Int32) at_228 (by decide) ?_
                        refine g_baload KK248 229 (nar .byte v179) at_229 A240 (by decide) (by rw [show (0 : Int32).toNatClampNeg = 0 from by decide]; rfl) ?_
                        refine g_iload KK248 230 at_230 rfl ?_
                        refine g_ii_ne KK248 232 284 at_232 (by decide) (by decide) ?_ ?_
                        · intro c251
                          exfalso
                          exact c251 (own_nar hv179)
                        · intro c251
                          refine g_iload KK248 235 at_235 rfl ?_
                          refine g_iconst KK248 237 (2 : Int32) at_237 (by decide) ?_
                          refine g_ii_lt KK248 238 250 at_238 (by decide) (by decide) ?_ ?_
                          · intro c252
                            exact absurd c252 (by decide)
                          · intro c252
                            refine g_aload KK248 241 at_241 rfl rfl ?_
                            refine g_iconst KK248 243 (1 : Int32) at_243 (by decide) ?_
                            refine g_baload KK248 244 (nar .byte v180) at_244 A240 (by decide) (by rw [show (1 : Int32).toNatClampNeg = 1 from by decide]; rfl) ?_
                            refine g_iload KK248 245 at_245 rfl ?_
                            refine g_ii_ne KK248 247 284 at_247 (by decide) (by decide) ?_ ?_
                            · intro c253
                              exfalso
                              exact c253 (own_nar hv180)
                            · intro c253
                              refine g_iload KK248 250 at_250 rfl ?_
                              refine g_iconst KK248 252 (3 : Int32) at_252 (by decide) ?_
                              refine g_ii_lt KK248 253 265 at_253 (by decide) (by decide) ?_ ?_
                              · intro c254
                                exact absurd c254 (by decide)
                              · intro c254
                                refine g_aload KK248 256 at_256 rfl rfl ?_
                                refine g_iconst KK248 258 (2 : Int32) at_258 (by decide) ?_
                                refine g_baload KK248 259 (nar .byte v181) at_259 A240 (by decide) (by rw [show (2 : Int32).toNatClampNeg = 2 from by decide]; rfl) ?_
                                refine g_iload KK248 260 at_260 rfl ?_
                                refine g_ii_ne KK248 262 284 at_262 (by decide) (by decide) ?_ ?_
                                · intro c255
                                  exfalso
                                  exact c255 (own_nar hv181)
                                · intro c255
                                  refine g_iload KK248 265 at_265 rfl ?_
                                  refine g_iconst KK248 267 (4 : Int32) at_267 (by decide) ?_
                                  refine g_ii_lt KK248 268 280 at_268 (by decide) (by decide) ?_ ?_
                                  · intro c256
                                    refine g_iconst KK248 280 (1 : Int32) at_280 (by decide) ?_
                                    refine g_goto KK248 281 285 at_281 (by decide) (by decide) ?_
                                    refine g_istore KK248 285 #[.val (.int p0), .val (.int p1), .val (.int p2), .val (.int p3), .val (.int p4), .val (.int p5), .val (.int v1), .val (.ref sq), .val (.int (3 : Int32)), .val (.int v179), .val (.int v180), .val (.int v181), .val (.int v182), .val (.ref a183), .val (.int z243), .val (.int (0 : Int32)), .val .null, .val (.int (0 : Int32)), .val (.int (1 : Int32))] at_285 rfl ?_
                                    refine g_iload KK248 287 at_287 rfl ?_
                                    refine g_iload KK248 289 at_289 rfl ?_
                                    refine g_ii_ne KK248 291 316 at_291 (by decide) (by decide) ?_ ?_
                                    · intro c257
                                      exact absurd c257 (by decide)
                                    · intro c257
                                      refine g_iload KK248 294 at_294 rfl ?_
                                      refine g_if_eq KK248 296 307 at_296 (by decide) (by decide) ?_ ?_
                                      · intro c258
                                        refine g_iload KK248 307 at_307 rfl ?_
                                        refine g_if_eq KK248 309 316 at_309 (by decide) (by decide) ?_ ?_
                                        · intro c259
                                          exact absurd c259 (by decide)
                                        · intro c259
                                          refine g_iconst KK248 312 (1 : Int32) at_312 (by decide) ?_
                                          refine g_goto KK248 313 317 at_313 (by decide) (by decide) ?_
                                          refine g_retN KK248 317 .boolean at_317 rfl (by simp) (by decide) (by decide) ?_
                                          rw [hQ]
                                          rfl
                                      · intro c258
                                        exact absurd c258 (by decide)
                                  · intro c256
                                    exact absurd c256 (by decide)
                    · intro c245
                      exact absurd c245 c3
                  refine g_ii_eq K 132 174 at_132 (by decide) (by decide) ?_ ?_
                  · intro c260
                    refine g_iconst K 174 (1 : Int32) at_174 (by decide) ?_
                    refine g_goto K 175 179 at_175 (by decide) (by decide) ?_
                    exact J244 _ (by rw [if_pos c260])
                  · intro c260
                    refine g_iload K 135 at_135 rfl ?_
                    refine g_iconst K 137 (1 : Int32) at_137 (by decide) ?_
                    refine g_ii_le K 138 148 at_138 (by decide) (by decide) ?_ ?_
                    · intro c261
                      exact absurd c261 (by decide)
                    · intro c261
                      refine g_iload K 141 at_141 rfl ?_
                      refine g_bipush K 143 (10 : Int32) at_143 (by decide) ?_
                      refine g_ii_eq K 145 174 at_145 (by decide) (by decide) ?_ ?_
                      · intro c262
                        refine g_iconst K 174 (1 : Int32) at_174 (by decide) ?_
                        refine g_goto K 175 179 at_175 (by decide) (by decide) ?_
                        exact J244 _ (by rw [if_neg c260, if_pos c262])
                      · intro c262
                        refine g_iload K 148 at_148 rfl ?_
                        refine g_iconst K 150 (2 : Int32) at_150 (by decide) ?_
                        refine g_ii_le K 151 161 at_151 (by decide) (by decide) ?_ ?_
                        · intro c263
                          exact absurd c263 (by decide)
                        · intro c263
                          refine g_iload K 154 at_154 rfl ?_
                          refine g_bipush K 156 (10 : Int32) at_156 (by decide) ?_
                          refine g_ii_eq K 158 174 at_158 (by decide) (by decide) ?_ ?_
                          · intro c264
                            refine g_iconst K 174 (1 : Int32) at_174 (by decide) ?_
                            refine g_goto K 175 179 at_175 (by decide) (by decide) ?_
                            exact J244 _ (by rw [if_neg c260, if_neg c262, if_pos c264])
                          · intro c264
                            refine g_iload K 161 at_161 rfl ?_
                            refine g_iconst K 163 (3 : Int32) at_163 (by decide) ?_
                            refine g_ii_le K 164 178 at_164 (by decide) (by decide) ?_ ?_
                            · intro c265
                              refine g_iconst K 178 (0 : Int32) at_178 (by decide) ?_
                              exact J244 _ (by rw [if_neg c260, if_neg c262, if_neg c264])
                            · intro c265
                              exact absurd c265 (by decide)
              · intro c241
                exact absurd c241 (by decide)
      · rw [hn]
        refine g_istore K 42 #[.val (.int p0), .val (.int p1), .val (.int p2), .val (.int p3), .val (.int p4), .val (.int p5), .val (.int v1), .val (.ref sq), .val (.int (4 : Int32)), .unset, .unset, .unset, .unset, .unset, .unset, .unset, .unset, .unset, .unset] at_42 rfl ?_
        refine g_iloadN K 44 at_44 rfl ?_
        refine g_callS K 45 [(.int p2)] 0 at_45 (rm_pick l Z a0 hw p2 h0 n0 Z0  ) (tw hw 4 rfl) (tw hw 5 rfl) (tw hw 6 rfl) (tw hw 7 rfl) (by decide) pd0 rfl (st := []) rfl (Nat.le_of_eq rfl) rfl (by decide) (by decide) (by decide) (by decide) ?_
        rintro _ _ ⟨hv, hh⟩
        rw [hv, hh]
        clear hv hh
        refine go_cast (k' := 0) (n' := 0) (st' := [(.int (f_pick p2))]) rfl rfl rfl ?_
        generalize hv266 : (f_pick p2) = v266
        refine g_istore K 48 #[.val (.int p0), .val (.int p1), .val (.int p2), .val (.int p3), .val (.int p4), .val (.int p5), .val (.int v1), .val (.ref sq), .val (.int (4 : Int32)), .val (.int v266), .unset, .unset, .unset, .unset, .unset, .unset, .unset, .unset, .unset] at_48 rfl ?_
        refine g_iloadN K 50 at_50 rfl ?_
        refine g_callS K 51 [(.int p3)] 0 at_51 (rm_pick l Z a0 hw p3 h0 n0 Z0  ) (tw hw 4 rfl) (tw hw 5 rfl) (tw hw 6 rfl) (tw hw 7 rfl) (by decide) pd0 rfl (st := []) rfl (Nat.le_of_eq rfl) rfl (by decide) (by decide) (by decide) (by decide) ?_
        rintro _ _ ⟨hv, hh⟩
        rw [hv, hh]
        clear hv hh
        refine go_cast (k' := 0) (n' := 0) (st' := [(.int (f_pick p3))]) rfl rfl rfl ?_
        generalize hv267 : (f_pick p3) = v267
        refine g_istore K 54 #[.val (.int p0), .val (.int p1), .val (.int p2), .val (.int p3), .val (.int p4), .val (.int p5), .val (.int v1), .val (.ref sq), .val (.int (4 : Int32)), .val (.int v266), .val (.int v267), .unset, .unset, .unset, .unset, .unset, .unset, .unset, .unset] at_54 rfl ?_
        refine g_iload K 56 at_56 rfl ?_
        refine g_callS K 58 [(.int p4)] 0 at_58 (rm_pick l Z a0 hw p4 h0 n0 Z0  ) (tw hw 4 rfl) (tw hw 5 rfl) (tw hw 6 rfl) (tw hw 7 rfl) (by decide) pd0 rfl (st := []) rfl (Nat.le_of_eq rfl) rfl (by decide) (by decide) (by decide) (by decide) ?_
        rintro _ _ ⟨hv, hh⟩
        rw [hv, hh]
        clear hv hh
        refine go_cast (k' := 0) (n' := 0) (st' := [(.int (f_pick p4))]) rfl rfl rfl ?_
        generalize hv268 : (f_pick p4) = v268
        refine g_istore K 61 #[.val (.int p0), .val (.int p1), .val (.int p2), .val (.int p3), .val (.int p4), .val (.int p5), .val (.int v1), .val (.ref sq), .val (.int (4 : Int32)), .val (.int v266), .val (.int v267), .val (.int v268), .unset, .unset, .unset, .unset, .unset, .unset, .unset] at_61 rfl ?_
        refine g_iload K 63 at_63 rfl ?_
        refine g_callS K 65 [(.int p5)] 0 at_65 (rm_pick l Z a0 hw p5 h0 n0 Z0  ) (tw hw 4 rfl) (tw hw 5 rfl) (tw hw 6 rfl) (tw hw 7 rfl) (by decide) pd0 rfl (st := []) rfl (Nat.le_of_eq rfl) rfl (by decide) (by decide) (by decide) (by decide) ?_
        rintro _ _ ⟨hv, hh⟩
        rw [hv, hh]
        clear hv hh
        refine go_cast (k' := 0) (n' := 0) (st' := [(.int (f_pick p5))]) rfl rfl rfl ?_
        generalize hv269 : (f_pick p5) = v269
        refine g_istore K 68 #[.val (.int p0), .val (.int p1), .val (.int p2), .val (.int p3), .val (.int p4), .val (.int p5), .val (.int v1), .val (.ref sq), .val (.int (4 : Int32)), .val (.int v266), .val (.int v267), .val (.int v268), .val (.int v269), .unset, .unset, .unset, .unset, .unset, .unset] at_68 rfl ?_
        refine g_iload K 70 at_70 rfl ?_
        refine g_newI K 72 .byte at_72 rfl rfl (tw hw 8 rfl) (by decide) 4 (by decide) (by decide) (by decide) (by decide) ?_
        intro h271 a270 eq274 Kp272 A273
        have g275 : n0 ≤ a270 := eq274 ▸ Z0
        have fr276 : Z.heap.size ≤ a270 := eq274 ▸ KC0.1
        have ne277 : cd ≠ a270 := own_ne_of_lt E1.lt eq274
        have ne278 : tx ≠ a270 := own_ne_of_lt E2.lt eq274
        have ne279 : sq ≠ a270 := own_ne_of_lt E3.lt eq274
        have S280 := sta_keep S1 Kp272 all0
        have S281 := sta_keep S2 Kp272 all0
        have S282 := sta_keep S3 Kp272 all0
        have E283 := E1.keep Kp272
        have E284 := E2.keep Kp272
        have E285 := E3.keep Kp272
        have Z286 := Nat.le_trans Z0 Kp272.1
        have KC287 := KC0.trans Kp272 all0
        have A288 : IA Z h271 a270 .byte [0, 0, 0, 0] := (by have q := A273; rw [show (4 : Int32).toNatClampNeg = 4 from by decide] at q; exact q)
        refine g_astore K 74 #[.val (.int p0), .val (.int p1), .val (.int p2), .val (.int p3), .val (.int p4), .val (.int p5), .val (.int v1), .val (.ref sq), .val (.int (4 : Int32)), .val (.int v266), .val (.int v267), .val (.int v268), .val (.int v269), .val (.ref a270), .unset, .unset, .unset, .unset, .unset] at_74 rfl rfl ?_
        refine g_iload K 76 at_76 rfl ?_
        refine g_if_le K 78 87 at_78 (by decide) (by decide) ?_ ?_
        · intro c289
          exact absurd c289 (by decide)
        · intro c289
          refine g_aload K 81 at_81 rfl rfl ?_
          refine g_iconst K 83 (0 : Int32) at_83 (by decide) ?_
          refine g_iload K 84 at_84 rfl ?_
          refine g_bastore K 86 at_86 A288 (by decide) (show (0 : Int32).toNatClampNeg < 4 from by decide) g275 ?_
          intro h290 Kp291 A292
          have S293 := sta_keep S280 Kp291 (allS A288.nst all0)
          have S294 := sta_keep S281 Kp291 (allS A288.nst all0)
          have S295 := sta_keep S282 Kp291 (allS A288.nst all0)
          have E296 := E283.keep Kp291
          have E297 := E284.keep Kp291
          have E298 := E285.keep Kp291
          have Z299 := Nat.le_trans Z286 Kp291.1
          have KC300 := KC287.trans Kp291 (allS (Or.inr fr276) all0)
          have A301 : IA Z h290 a270 .byte [nar .byte v266, 0, 0, 0] := (by have q := A292; rw [show (0 : Int32).toNatClampNeg = 0 from by decide] at q; exact q)
          refine g_iload K 87 at_87 rfl ?_
          refine g_iconst K 89 (1 : Int32) at_89 (by decide) ?_
          refine g_ii_le K 90 99 at_90 (by decide) (by decide) ?_ ?_
          · intro c302
            exact absurd c302 (by decide)
          · intro c302
            refine g_aload K 93 at_93 rfl rfl ?_
            refine g_iconst K 95 (1 : Int32) at_95 (by decide) ?_
            refine g_iload K 96 at_96 rfl ?_
            refine g_bastore K 98 at_98 A301 (by decide) (show (1 : Int32).toNatClampNeg < 4 from by decide) g275 ?_
            intro h303 Kp304 A305
            have S306 := sta_keep S293 Kp304 (allS A301.nst all0)
            have S307 := sta_keep S294 Kp304 (allS A301.nst all0)
            have S308 := sta_keep S295 Kp304 (allS A301.nst all0)
            have E309 := E296.keep Kp304
            have E310 := E297.keep Kp304
            have E311 := E298.keep Kp304
            have Z312 := Nat.le_trans Z299 Kp304.1
            have KC313 := KC300.trans Kp304 (allS (Or.inr fr276) all0)
            have A314 : IA Z h303 a270 .byte [nar .byte v266, nar .byte v267, 0, 0] := (by have q := A305; rw [show (1 : Int32).toNatClampNeg = 1 from by decide] at q; exact q)
            refine g_iload K 99 at_99 rfl ?_
            refine g_iconst K 101 (2 : Int32) at_101 (by decide) ?_
            refine g_ii_le K 102 111 at_102 (by decide) (by decide) ?_ ?_
            · intro c315
              exact absurd c315 (by decide)
            · intro c315
              refine g_aload K 105 at_105 rfl rfl ?_
              refine g_iconst K 107 (2 : Int32) at_107 (by decide) ?_
              refine g_iload K 108 at_108 rfl ?_
              refine g_bastore K 110 at_110 A314 (by decide) (show (2 : Int32).toNatClampNeg < 4 from by decide) g275 ?_
              intro h316 Kp317 A318
              have S319 := sta_keep S306 Kp317 (allS A314.nst all0)
              have S320 := sta_keep S307 Kp317 (allS A314.nst all0)
              have S321 := sta_keep S308 Kp317 (allS A314.nst all0)
              have E322 := E309.keep Kp317
              have E323 := E310.keep Kp317
              have E324 := E311.keep Kp317
              have Z325 := Nat.le_trans Z312 Kp317.1
              have KC326 := KC313.trans Kp317 (allS (Or.inr fr276) all0)
              have A327 : IA Z h316 a270 .byte [nar .byte v266, nar .byte v267, nar .byte v268, 0] := (by have q := A318; rw [show (2 : Int32).toNatClampNeg = 2 from by decide] at q; exact q)
              refine g_iload K 111 at_111 rfl ?_
              refine g_iconst K 113 (3 : Int32) at_113 (by decide) ?_
              refine g_ii_le K 114 123 at_114 (by decide) (by decide) ?_ ?_
              · intro c328
                exact absurd c328 (by decide)
              · intro c328
                refine g_aload K 117 at_117 rfl rfl ?_
                refine g_iconst K 119 (3 : Int32) at_119 (by decide) ?_
                refine g_iload K 120 at_120 rfl ?_
                refine g_bastore K 122 at_122 A327 (by decide) (show (3 : Int32).toNatClampNeg < 4 from by decide) g275 ?_
                intro h329 Kp330 A331
                have S332 := sta_keep S319 Kp330 (allS A327.nst all0)
                have S333 := sta_keep S320 Kp330 (allS A327.nst all0)
                have S334 := sta_keep S321 Kp330 (allS A327.nst all0)
                have E335 := E322.keep Kp330
                have E336 := E323.keep Kp330
                have E337 := E324.keep Kp330
                have Z338 := Nat.le_trans Z325 Kp330.1
                have KC339 := KC326.trans Kp330 (allS (Or.inr fr276) all0)
                have A340 : IA Z h329 a270 .byte [nar .byte v266, nar .byte v267, nar .byte v268, nar .byte v269] := (by have q := A331; rw [show (3 : Int32).toNatClampNeg = 3 from by decide] at q; exact q)
                refine g_iload K 123 at_123 rfl ?_
                refine g_if_le K 125 135 at_125 (by decide) (by decide) ?_ ?_
                · intro c341
                  exact absurd c341 (by decide)
                · intro c341
                  refine g_iload K 128 at_128 rfl ?_
                  refine g_bipush K 130 (10 : Int32) at_130 (by decide) ?_
                  have J343 : ∀ (z342 : Int32), z342 = (if v266 = (10 : Int32) then (1 : Int32) else (if v267 = (10 : Int32) then (1 : Int32) else (if v268 = (10 : Int32) then (1 : Int32) else (if v269 = (10 : Int32) then (1 : Int32) else (0 : Int32))))) → Go p l e room_1 Z m #[(.int p0), (.int p1), (.int p2), (.int p3), (.int p4), (.int p5)] below meth c n0 (ReturnedEndW Z) Q h329 (0 + 1) (0 + 4) (mkF m 179 #[.val (.int p0), .val (.int p1), .val (.int p2), .val (.int p3), .val (.int p4), .val (.int p5), .val (.int v1), .val (.ref sq), .val (.int (4 : Int32)), .val (.int v266), .val (.int v267), .val (.int v268), .val (.int v269), .val (.ref a270), .unset, .unset, .unset, .unset, .unset] [(.int z342)]) := by
                    intro z342 hz342
                    refine g_istore K 179 #[.val (.int p0), .val (.int p1), .val (.int p2), .val (.int p3), .val (.int p4), .val (.int p5), .val (.int v1), .val (.ref sq), .val (.int (4 : Int32)), .val (.int v266), .val (.int v267), .val (.int v268), .val (.int v269), .val (.ref a270), .val (.int z342), .unset, .unset, .unset, .unset] at_179 rfl ?_
                    refine g_iload K 181 at_181 rfl ?_
                    refine g_iconst K 183 (1 : Int32) at_183 (by decide) ?_
                    refine g_ii_ne K 184 196 at_184 (by decide) (by decide) ?_ ?_
                    · intro c344
                      refine g_iconst K 196 (0 : Int32) at_196 (by decide) ?_
                      refine g_istore K 197 #[.val (.int p0), .val (.int p1), .val (.int p2), .val (.int p3), .val (.int p4), .val (.int p5), .val (.int v1), .val (.ref sq), .val (.int (4 : Int32)), .val (.int v266), .val (.int v267), .val (.int v268), .val (.int v269), .val (.ref a270), .val (.int z342), .val (.int (0 : Int32)), .unset, .unset, .unset] at_197 rfl ?_
                      refine g_aload K 199 at_199 rfl rfl ?_
                      refine g_aload K 201 at_201 rfl rfl ?_
                      refine g_callVW K 203 [(.ref a270)] 0 at_203 (rm_refNo l Z a0 hw sq a270 h329 tx S333 ne3) Z338 E337 (tw hw 9 rfl) (tw hw 10 rfl) (tw hw 12 rfl) (tw hw 12 rfl) (tw hw 11 rfl) (tw hw 2 rfl) (tw hw 13 rfl) (by decide) pd1 rfl (st := []) rfl (Nat.le_of_eq rfl) rfl (by decide) (by decide) (by decide) (by decide) rfl ?_
                      intro v h345 vm346 hq hs348 KK347
                      obtain ⟨rfl, rfl⟩ := hq
                      refine go_cast (k' := ((0 + 1) + 2)) (n' := ((0 + 4) + 216)) (st' := [.null]) rfl rfl rfl ?_
                      refine g_astore KK347 206 #[.val (.int p0), .val (.int p1), .val (.int p2), .val (.int p3), .val (.int p4), .val (.int p5), .val (.int v1), .val (.ref sq), .val (.int (4 : Int32)), .val (.int v266), .val (.int v267), .val (.int v268), .val (.int v269), .val (.ref a270), .val (.int z342), .val (.int (0 : Int32)), .val .null, .unset, .unset] at_206 rfl rfl ?_
                      refine g_aload KK347 208 at_208 rfl rfl ?_
                      refine g_ifnull_null KK347 210 217 at_210 (by decide) (by decide) ?_
                      refine g_iconst KK347 217 (0 : Int32) at_217 (by decide) ?_
                      refine g_istore KK347 218 #[.val (.int p0), .val (.int p1), .val (.int p2), .val (.int p3), .val (.int p4), .val (.int p5), .val (.int v1), .val (.ref sq), .val (.int (4 : Int32)), .val (.int v266), .val (.int v267), .val (.int v268), .val (.int v269), .val (.ref a270), .val (.int z342), .val (.int (0 : Int32)), .val .null, .val (.int (0 : Int32)), .unset] at_218 rfl ?_
                      refine g_iload KK347 220 at_220 rfl ?_
                      refine g_iconst KK347 222 (1 : Int32) at_222 (by decide) ?_
                      refine g_ii_lt KK347 223 235 at_223 (by decide) (by decide) ?_ ?_
                      · intro c349
                        exact absurd c349 (by decide)
                      · intro c349
                        refine g_aload KK347 226 at_226 rfl rfl ?_
                        refine g_iconst KK347 228 (0 : Int32) at_228 (by decide) ?_
                        refine g_baload KK347 229 (nar .byte v266) at_229 A340 (by decide) (by rw [show (0 : Int32).toNatClampNeg = 0 from by decide]; rfl) ?_
                        refine g_iload KK347 230 at_230 rfl ?_
                        refine g_ii_ne KK347 232 284 at_232 (by decide) (by decide) ?_ ?_
                        · intro c350
                          exfalso
                          exact c350 (own_nar hv266)
                        · intro c350
                          refine g_iload KK347 235 at_235 rfl ?_
                          refine g_iconst KK347 237 (2 : Int32) at_237 (by decide) ?_
                          refine g_ii_lt KK347 238 250 at_238 (by decide) (by decide) ?_ ?_
                          · intro c351
                            exact absurd c351 (by decide)
                          · intro c351
                            refine g_aload KK347 241 at_241 rfl rfl ?_
                            refine g_iconst KK347 243 (1 : Int32) at_243 (by decide) ?_
                            refine g_baload KK347 244 (nar .byte v267) at_244 A340 (by decide) (by rw [show (1 : Int32).toNatClampNeg = 1 from by decide]; rfl) ?_
                            refine g_iload KK347 245 at_245 rfl ?_
                            refine g_ii_ne KK347 247 284 at_247 (by decide) (by decide) ?_ ?_
                            · intro c352
                              exfalso
                              exact c352 (own_nar hv267)
                            · intro c352
                              refine g_iload KK347 250 at_250 rfl ?_
                              refine g_iconst KK347 252 (3 : Int32) at_252 (by decide) ?_
                              refine g_ii_lt KK347 253 265 at_253 (by decide) (by decide) ?_ ?_
                              · intro c353
                                exact absurd c353 (by decide)
                              · intro c353
                                refine g_aload KK347 256 at_256 rfl rfl ?_
                                refine g_iconst KK347 258 (2 : Int32) at_258 (by decide) ?_
                                refine g_baload KK347 259 (nar .byte v268) at_259 A340 (by decide) (by rw [show (2 : Int32).toNatClampNeg = 2 from by decide]; rfl) ?_
                                refine g_iload KK347 260 at_260 rfl ?_
                                refine g_ii_ne KK347 262 284 at_262 (by decide) (by decide) ?_ ?_
                                · intro c354
                                  exfalso
                                  exact c354 (own_nar hv268)
                                · intro c354
                                  refine g_iload KK347 265 at_265 rfl ?_
                                  refine g_iconst KK347 267 (4 : Int32) at_267 (by decide) ?_
                                  refine g_ii_lt KK347 268 280 at_268 (by decide) (by decide) ?_ ?_
                                  · intro c355
                                    exact absurd c355 (by decide)
                                  · intro c355
                                    refine g_aload KK347 271 at_271 rfl rfl ?_
                                    refine g_iconst KK347 273 (3 : Int32) at_273 (by decide) ?_
                                    refine g_baload KK347 274 (nar .byte v269) at_274 A340 (by decide) (by rw [show (3 : Int32).toNatClampNeg = 3 from by decide]; rfl) ?_
                                    refine g_iload KK347 275 at_275 rfl ?_
                                    refine g_ii_ne KK347 277 284 at_277 (by decide) (by decide) ?_ ?_
                                    · intro c356
                                      exfalso
                                      exact c356 (own_nar hv269)
                                    · intro c356
                                      refine g_iconst KK347 280 (1 : Int32) at_280 (by decide) ?_
                                      refine g_goto KK347 281 285 at_281 (by decide) (by decide) ?_
                                      refine g_istore KK347 285 #[.val (.int p0), .val (.int p1), .val (.int p2), .val (.int p3), .val (.int p4), .val (.int p5), .val (.int v1), .val (.ref sq), .val (.int (4 : Int32)), .val (.int v266), .val (.int v267), .val (.int v268), .val (.int v269), .val (.ref a270), .val (.int z342), .val (.int (0 : Int32)), .val .null, .val (.int (0 : Int32)), .val (.int (1 : Int32))] at_285 rfl ?_
                                      refine g_iload KK347 287 at_287 rfl ?_
                                      refine g_iload KK347 289 at_289 rfl ?_
                                      refine g_ii_ne KK347 291 316 at_291 (by decide) (by decide) ?_ ?_
                                      · intro c357
                                        exact absurd c357 (by decide)
                                      · intro c357
                                        refine g_iload KK347 294 at_294 rfl ?_
                                        refine g_if_eq KK347 296 307 at_296 (by decide) (by decide) ?_ ?_
                                        · intro c358
                                          refine g_iload KK347 307 at_307 rfl ?_
                                          refine g_if_eq KK347 309 316 at_309 (by decide) (by decide) ?_ ?_
                                          · intro c359
                                            exact absurd c359 (by decide)
                                          · intro c359
                                            refine g_iconst KK347 312 (1 : Int32) at_312 (by decide) ?_
                                            refine g_goto KK347 313 317 at_313 (by decide) (by decide) ?_
                                            refine g_retN KK347 317 .boolean at_317 rfl (by simp) (by decide) (by decide) ?_
                                            rw [hQ]
                                            rfl
                                        · intro c358
                                          exact absurd c358 (by decide)
                    · intro c344
                      exact absurd c344 c3
                  refine g_ii_eq K 132 174 at_132 (by decide) (by decide) ?_ ?_
                  · intro c360
                    refine g_iconst K 174 (1 : Int32) at_174 (by decide) ?_
                    refine g_goto K 175 179 at_175 (by decide) (by decide) ?_
                    exact J343 _ (by rw [if_pos c360])
                  · intro c360
                    refine g_iload K 135 at_135 rfl ?_
                    refine g_iconst K 137 (1 : Int32) at_137 (by decide) ?_
                    refine g_ii_le K 138 148 at_138 (by decide) (by decide) ?_ ?_
                    · intro c361
                      exact absurd c361 (by decide)
                    · intro c361
                      refine g_iload K 141 at_141 rfl ?_
                      refine g_bipush K 143 (10 : Int32) at_143 (by decide) ?_
                      refine g_ii_eq K 145 174 at_145 (by decide) (by decide) ?_ ?_
                      · intro c362
                        refine g_iconst K 174 (1 : Int32) at_174 (by decide) ?_
                        refine g_goto K 175 179 at_175 (by decide) (by decide) ?_
                        exact J343 _ (by rw [if_neg c360, if_pos c362])
                      · intro c362
                        refine g_iload K 148 at_148 rfl ?_
                        refine g_iconst K 150 (2 : Int32) at_150 (by decide) ?_
                        refine g_ii_le K 151 161 at_151 (by decide) (by decide) ?_ ?_
                        · intro c363
                          exact absurd c363 (by decide)
                        · intro c363
                          refine g_iload K 154 at_154 rfl ?_
                          refine g_bipush K 156 (10 : Int32) at_156 (by decide) ?_
                          refine g_ii_eq K 158 174 at_158 (by decide) (by decide) ?_ ?_
                          · intro c364
                            refine g_iconst K 174 (1 : Int32) at_174 (by decide) ?_
                            refine g_goto K 175 179 at_175 (by decide) (by decide) ?_
                            exact J343 _ (by rw [if_neg c360, if_neg c362, if_pos c364])
                          · intro c364
                            refine g_iload K 161 at_161 rfl ?_
                            refine g_iconst K 163 (3 : Int32) at_163 (by decide) ?_
                            refine g_ii_le K 164 178 at_164 (by decide) (by decide) ?_ ?_
                            · intro c365
                              exact absurd c365 (by decide)
                            · intro c365
                              refine g_iload K 167 at_167 rfl ?_
                              refine g_bipush K 169 (10 : Int32) at_169 (by decide) ?_
                              refine g_ii_ne K 171 178 at_171 (by decide) (by decide) ?_ ?_
                              · intro c366
                                refine g_iconst K 178 (0 : Int32) at_178 (by decide) ?_
                                exact J343 _ (by rw [if_neg c360, if_neg c362, if_neg c364, if_neg c366])
                              · intro c366
                                refine g_iconst K 174 (1 : Int32) at_174 (by decide) ?_
                                refine g_goto K 175 179 at_175 (by decide) (by decide) ?_
                                exact J343 _ (by rw [if_neg c360, if_neg c362, if_neg c364, if_pos c366])
    · intro c3
      refine g_getstatic K 25 at_25 (tw hw 16 rfl) S2 ?_
      refine g_goto K 28 34 at_28 (by decide) (by decide) ?_
      refine g_astore K 34 #[.val (.int p0), .val (.int p1), .val (.int p2), .val (.int p3), .val (.int p4), .val (.int p5), .val (.int v1), .val (.ref tx), .unset, .unset, .unset, .unset, .unset, .unset, .unset, .unset, .unset, .unset, .unset] at_34 rfl rfl ?_
      refine g_iloadN K 36 at_36 rfl ?_
      refine g_bipush K 37 (7 : Int32) at_37 (by decide) ?_
      refine g_iand K 39 at_39 ?_
      refine g_iconst K 40 (5 : Int32) at_40 (by decide) ?_
      refine g_irem K 41 at_41 (by decide) ?_
      rcases own_len5 p1 with hn | hn | hn | hn | hn
      · rw [hn]
        refine g_istore K 42 #[.val (.int p0), .val (.int p1), .val (.int p2), .val (.int p3), .val (.int p4), .val (.int p5), .val (.int v1), .val (.ref tx), .val (.int (0 : Int32)), .unset, .unset, .unset, .unset, .unset, .unset, .unset, .unset, .unset, .unset] at_42 rfl ?_
        refine g_iloadN K 44 at_44 rfl ?_
        refine g_callS K 45 [(.int p2)] 0 at_45 (rm_pick l Z a0 hw p2 h0 n0 Z0  ) (tw hw 4 rfl) (tw hw 5 rfl) (tw hw 6 rfl) (tw hw 7 rfl) (by decide) pd0 rfl (st := []) rfl (Nat.le_of_eq rfl) rfl (by decide) (by decide) (by decide) (by decide) ?_
        rintro _ _ ⟨hv, hh⟩
        rw [hv, hh]
        clear hv hh
        refine go_cast (k' := 0) (n' := 0) (st' := [(.int (f_pick p2))]) rfl rfl rfl ?_
        generalize hv367 : (f_pick p2) = v367
        refine g_istore K 48 #[.val (.int p0), .val (.int p1), .val (.int p2), .val (.int p3), .val (.int p4), .val (.int p5), .val (.int v1), .val (.ref tx), .val (.int (0 : Int32)), .val (.int v367), .unset, .unset, .unset, .unset, .unset, .unset, .unset, .unset, .unset] at_48 rfl ?_
        refine g_iloadN K 50 at_50 rfl ?_
        refine g_callS K 51 [(.int p3)] 0 at_51 (rm_pick l Z a0 hw p3 h0 n0 Z0  ) (tw hw 4 rfl) (tw hw 5 rfl) (tw hw 6 rfl) (tw hw 7 rfl) (by decide) pd0 rfl (st := []) rfl (Nat.le_of_eq rfl) rfl (by decide) (by decide) (by decide) (by decide) ?_
        rintro _ _ ⟨hv, hh⟩
        rw [hv, hh]
        clear hv hh
        refine go_cast (k' := 0) (n' := 0) (st' := [(.int (f_pick p3))]) rfl rfl rfl ?_
        generalize hv368 : (f_pick p3) = v368
        refine g_istore K 54 #[.val (.int p0), .val (.int p1), .val (.int p2), .val (.int p3), .val (.int p4), .val (.int p5), .val (.int v1), .val (.ref tx), .val (.int (0 : Int32)), .val (.int v367), .val (.int v368), .unset, .unset, .unset, .unset, .unset, .unset, .unset, .unset] at_54 rfl ?_
        refine g_iload K 56 at_56 rfl ?_
        refine g_callS K 58 [(.int p4)] 0 at_58 (rm_pick l Z a0 hw p4 h0 n0 Z0  ) (tw hw 4 rfl) (tw hw 5 rfl) (tw hw 6 rfl) (tw hw 7 rfl) (by decide) pd0 rfl (st := []) rfl (Nat.le_of_eq rfl) rfl (by decide) (by decide) (by decide) (by decide) ?_
        rintro _ _ ⟨hv, hh⟩
        rw [hv, hh]
        clear hv hh
        refine go_cast (k' := 0) (n' := 0) (st' := [(.int (f_pick p4))]) rfl rfl rfl ?_
        generalize hv369 : (f_pick p4) = v369
        refine g_istore K 61 #[.val (.int p0), .val (.int p1), .val (.int p2), .val (.int p3), .val (.int p4), .val (.int p5), .val (.int v1), .val (.ref tx), .val (.int (0 : Int32)), .val (.int v367), .val (.int v368), .val (.int v369), .unset, .unset, .unset, .unset, .unset, .unset, .unset] at_61 rfl ?_
        refine g_iload K 63 at_63 rfl ?_
        refine g_callS K 65 [(.int p5)] 0 at_65 (rm_pick l Z a0 hw p5 h0 n0 Z0  ) (tw hw 4 rfl) (tw hw 5 rfl) (tw hw 6 rfl) (tw hw 7 rfl) (by decide) pd0 rfl (st := []) rfl (Nat.le_of_eq rfl) rfl (by decide) (by decide) (by decide) (by decide) ?_
        rintro _ _ ⟨hv, hh⟩
        rw [hv, hh]
        clear hv hh
        refine go_cast (k' := 0) (n' := 0) (st' := [(.int (f_pick p5))]) rfl rfl rfl ?_
        generalize hv370 : (f_pick p5) = v370
        refine g_istore K 68 #[.val (.int p0), .val (.int p1), .val (.int p2), .val (.int p3), .val (.int p4), .val (.int p5), .val (.int v1), .val (.ref tx), .val (.int (0 : Int32)), .val (.int v367), .val (.int v368), .val (.int v369), .val (.int v370), .unset, .unset, .unset, .unset, .unset, .unset] at_68 rfl ?_
        refine g_iload K 70 at_70 rfl ?_
        refine g_newI K 72 .byte at_72 rfl rfl (tw hw 8 rfl) (by decide) 0 (by decide) (by decide) (by decide) (by decide) ?_
        intro h372 a371 eq375 Kp373 A374
        have g376 : n0 ≤ a371 := eq375 ▸ Z0
        have fr377 : Z.heap.size ≤ a371 := eq375 ▸ KC0.1
        have ne378 : cd ≠ a371 := own_ne_of_lt E1.lt eq375
        have ne379 : tx ≠ a371 := own_ne_of_lt E2.lt eq375
        have ne380 : sq ≠ a371 := own_ne_of_lt E3.lt eq375
        have S381 := sta_keep S1 Kp373 all0
        have S382 := sta_keep S2 Kp373 all0
        have S383 := sta_keep S3 Kp373 all0
        have E384 := E1.keep Kp373
        have E385 := E2.keep Kp373
        have E386 := E3.keep Kp373
        have Z387 := Nat.le_trans Z0 Kp373.1
        have KC388 := KC0.trans Kp373 all0
        have A389 : IA Z h372 a371 .byte [] := (by have q := A374; rw [show (0 : Int32).toNatClampNeg = 0 from by decide] at q; exact q)
        refine g_astore K 74 #[.val (.int p0), .val (.int p1), .val (.int p2), .val (.int p3), .val (.int p4), .val (.int p5), .val (.int v1), .val (.ref tx), .val (.int (0 : Int32)), .val (.int v367), .val (.int v368), .val (.int v369), .val (.int v370), .val (.ref a371), .unset, .unset, .unset, .unset, .unset] at_74 rfl rfl ?_
        refine g_iload K 76 at_76 rfl ?_
        refine g_if_le K 78 87 at_78 (by decide) (by decide) ?_ ?_
        · intro c390
          refine g_iload K 87 at_87 rfl ?_
          refine g_iconst K 89 (1 : Int32) at_89 (by decide) ?_
          refine g_ii_le K 90 99 at_90 (by decide) (by decide) ?_ ?_
          · intro c391
            refine g_iload K 99 at_99 rfl ?_
            refine g_iconst K 101 (2 : Int32) at_101 (by decide) ?_
            refine g_ii_le K 102 111 at_102 (by decide) (by decide) ?_ ?_
            · intro c392
              refine g_iload K 111 at_111 rfl ?_
              refine g_iconst K 113 (3 : Int32) at_113 (by decide) ?_
              refine g_ii_le K 114 123 at_114 (by decide) (by decide) ?_ ?_
              · intro c393
                refine g_iload K 123 at_123 rfl ?_
                refine g_if_le K 125 135 at_125 (by decide) (by decide) ?_ ?_
                · intro c394
                  refine g_iload K 135 at_135 rfl ?_
                  refine g_iconst K 137 (1 : Int32) at_137 (by decide) ?_
                  refine g_ii_le K 138 148 at_138 (by decide) (by decide) ?_ ?_
                  · intro c395
                    refine g_iload K 148 at_148 rfl ?_
                    refine g_iconst K 150 (2 : Int32) at_150 (by decide) ?_
                    refine g_ii_le K 151 161 at_151 (by decide) (by decide) ?_ ?_
                    · intro c396
                      refine g_iload K 161 at_161 rfl ?_
                      refine g_iconst K 163 (3 : Int32) at_163 (by decide) ?_
                      refine g_ii_le K 164 178 at_164 (by decide) (by decide) ?_ ?_
                      · intro c397
                        refine g_iconst K 178 (0 : Int32) at_178 (by decide) ?_
                        refine g_istore K 179 #[.val (.int p0), .val (.int p1), .val (.int p2), .val (.int p3), .val (.int p4), .val (.int p5), .val (.int v1), .val (.ref tx), .val (.int (0 : Int32)), .val (.int v367), .val (.int v368), .val (.int v369), .val (.int v370), .val (.ref a371), .val (.int (0 : Int32)), .unset, .unset, .unset, .unset] at_179 rfl ?_
                        refine g_iload K 181 at_181 rfl ?_
                        refine g_iconst K 183 (1 : Int32) at_183 (by decide) ?_
                        refine g_ii_ne K 184 196 at_184 (by decide) (by decide) ?_ ?_
                        · intro c398
                          exact absurd c3 c398
                        · intro c398
                          refine g_iload K 187 at_187 rfl ?_
                          have J399 :   Go p l e room_1 Z m #[(.int p0), (.int p1), (.int p2), (.int p3), (.int p4), (.int p5)] below meth c n0 (ReturnedEndW Z) Q h372 (0 + 1) (0 + 0) (mkF m 197 #[.val (.int p0), .val (.int p1), .val (.int p2), .val (.int p3), .val (.int p4), .val (.int p5), .val (.int v1), .val (.ref tx), .val (.int (0 : Int32)), .val (.int v367), .val (.int v368), .val (.int v369), .val (.int v370), .val (.ref a371), .val (.int (0 : Int32)), .unset, .unset, .unset, .unset] [(.int (0 : Int32))]) := by
                            refine g_istore K 197 #[.val (.int p0), .val (.int p1), .val (.int p2), .val (.int p3), .val (.int p4), .val (.int p5), .val (.int v1), .val (.ref tx), .val (.int (0 : Int32)), .val (.int v367), .val (.int v368), .val (.int v369), .val (.int v370), .val (.ref a371), .val (.int (0 : Int32)), .val (.int (0 : Int32)), .unset, .unset, .unset] at_197 rfl ?_
                            refine g_aload K 199 at_199 rfl rfl ?_
                            refine g_aload K 201 at_201 rfl rfl ?_
                            refine g_callVW K 203 [(.ref a371)] 0 at_203 (rm_ref0 l Z a0 hw tx a371 h372  A389 S382 (fun b cl q => KC388.2.1 b cl q nin0) hh hcw) Z387 E385 (tw hw 9 rfl) (tw hw 10 rfl) (tw hw 12 rfl) (tw hw 12 rfl) (tw hw 11 rfl) (tw hw 2 rfl) (tw hw 13 rfl) (by decide) pd1 rfl (st := []) rfl (Nat.le_of_eq rfl) rfl (by decide) (by decide) (by decide) (by decide) rfl ?_
                            intro v h400 vm401 hq hs403 KK402
                            rcases hq with ⟨rfl, rfl, hlf⟩ | ⟨a404, b405, rfl, Kp406, E407, F408, A409, hlf⟩
                            ·
                              refine go_cast (k' := ((0 + 1) + 2)) (n' := ((0 + 0) + 216)) (st' := [.null]) rfl rfl rfl ?_
                              refine g_astore KK402 206 #[.val (.int p0), .val (.int p1), .val (.int p2), .val (.int p3), .val (.int p4), .val (.int p5), .val (.int v1), .val (.ref tx), .val (.int (0 : Int32)), .val (.int v367), .val (.int v368), .val (.int v369), .val (.int v370), .val (.ref a371), .val (.int (0 : Int32)), .val (.int (0 : Int32)), .val .null, .unset, .unset] at_206 rfl rfl ?_
                              refine g_aload KK402 208 at_208 rfl rfl ?_
                              refine g_ifnull_null KK402 210 217 at_210 (by decide) (by decide) ?_
                              refine g_iconst KK402 217 (0 : Int32) at_217 (by decide) ?_
                              refine g_istore KK402 218 #[.val (.int p0), .val (.int p1), .val (.int p2), .val (.int p3), .val (.int p4), .val (.int p5), .val (.int v1), .val (.ref tx), .val (.int (0 : Int32)), .val (.int v367), .val (.int v368), .val (.int v369), .val (.int v370), .val (.ref a371), .val (.int (0 : Int32)), .val (.int (0 : Int32)), .val .null, .val (.int (0 : Int32)), .unset] at_218 rfl ?_
                              refine g_iload KK402 220 at_220 rfl ?_
                              refine g_iconst KK402 222 (1 : Int32) at_222 (by decide) ?_
                              refine g_ii_lt KK402 223 235 at_223 (by decide) (by decide) ?_ ?_
                              · intro c410
                                refine g_iload KK402 235 at_235 rfl ?_
                                refine g_iconst KK402 237 (2 : Int32) at_237 (by decide) ?_
                                refine g_ii_lt KK402 238 250 at_238 (by decide) (by decide) ?_ ?_
                                · intro c411
                                  refine g_iload KK402 250 at_250 rfl ?_
                                  refine g_iconst KK402 252 (3 : Int32) at_252 (by decide) ?_
                                  refine g_ii_lt KK402 253 265 at_253 (by decide) (by decide) ?_ ?_
                                  · intro c412
                                    refine g_iload KK402 265 at_265 rfl ?_
                                    refine g_iconst KK402 267 (4 : Int32) at_267 (by decide) ?_
                                    refine g_ii_lt KK402 268 280 at_268 (by decide) (by decide) ?_ ?_
                                    · intro c413
                                      refine g_iconst KK402 280 (1 : Int32) at_280 (by decide) ?_
                                      refine g_goto KK402 281 285 at_281 (by decide) (by decide) ?_
                                      refine g_istore KK402 285 #[.val (.int p0), .val (.int p1), .val (.int p2), .val (.int p3), .val (.int p4), .val (.int p5), .val (.int v1), .val (.ref tx), .val (.int (0 : Int32)), .val (.int v367), .val (.int v368), .val (.int v369), .val (.int v370), .val (.ref a371), .val (.int (0 : Int32)), .val (.int (0 : Int32)), .val .null, .val (.int (0 : Int32)), .val (.int (1 : Int32))] at_285 rfl ?_
                                      refine g_iload KK402 287 at_287 rfl ?_
                                      refine g_iload KK402 289 at_289 rfl ?_
                                      refine g_ii_ne KK402 291 316 at_291 (by decide) (by decide) ?_ ?_
                                      · intro c414
                                        exact absurd c414 (by decide)
                                      · intro c414
                                        refine g_iload KK402 294 at_294 rfl ?_
                                        refine g_if_eq KK402 296 307 at_296 (by decide) (by decide) ?_ ?_
                                        · intro c415
                                          refine g_iload KK402 307 at_307 rfl ?_
                                          refine g_if_eq KK402 309 316 at_309 (by decide) (by decide) ?_ ?_
                                          · intro c416
                                            exact absurd c416 (by decide)
                                          · intro c416
                                            refine g_iconst KK402 312 (1 : Int32) at_312 (by decide) ?_
                                            refine g_goto KK402 313 317 at_313 (by decide) (by decide) ?_
                                            refine g_retN KK402 317 .boolean at_317 rfl (by simp) (by decide) (by decide) ?_
                                            rw [hQ]
                                            rfl
                                        · intro c415
                                          exact absurd c415 (by decide)
                                    · intro c413
                                      exact absurd c413 (by decide)
                                  · intro c412
                                    exact absurd c412 (by decide)
                                · intro c411
                                  exact absurd c411 (by decide)
                              · intro c410
                                exact absurd c410 (by decide)
                            ·
                              have Z417 := Nat.le_trans Z387 Kp406.1
                              have F418 := A389.keep Kp406 nin0
                              refine go_cast (k' := ((0 + 1) + 2)) (n' := ((0 + 0) + 216)) (st' := [(.ref a404)]) rfl rfl rfl ?_
                              refine g_astore KK402 206 #[.val (.int p0), .val (.int p1), .val (.int p2), .val (.int p3), .val (.int p4), .val (.int p5), .val (.int v1), .val (.ref tx), .val (.int (0 : Int32)), .val (.int v367), .val (.int v368), .val (.int v369), .val (.int v370), .val (.ref a371), .val (.int (0 : Int32)), .val (.int (0 : Int32)), .val (.ref a404), .unset, .unset] at_206 rfl rfl ?_
                              refine g_aload KK402 208 at_208 rfl rfl ?_
                              refine g_ifnull_ref KK402 210 at_210 ?_
                              refine g_iconst KK402 213 (1 : Int32) at_213 (by decide) ?_
                              refine g_goto KK402 214 218 at_214 (by decide) (by decide) ?_
                              refine g_istore KK402 218 #[.val (.int p0), .val (.int p1), .val (.int p2), .val (.int p3), .val (.int p4), .val (.int p5), .val (.int v1), .val (.ref tx), .val (.int (0 : Int32)), .val (.int v367), .val (.int v368), .val (.int v369), .val (.int v370), .val (.ref a371), .val (.int (0 : Int32)), .val (.int (0 : Int32)), .val (.ref a404), .val (.int (1 : Int32)), .unset] at_218 rfl ?_
                              refine g_iload KK402 220 at_220 rfl ?_
                              refine g_iconst KK402 222 (1 : Int32) at_222 (by decide) ?_
                              refine g_ii_lt KK402 223 235 at_223 (by decide) (by decide) ?_ ?_
                              · intro c419
                                refine g_iload KK402 235 at_235 rfl ?_
                                refine g_iconst KK402 237 (2 : Int32) at_237 (by decide) ?_
                                refine g_ii_lt KK402 238 250 at_238 (by decide) (by decide) ?_ ?_
                                · intro c420
                                  refine g_iload KK402 250 at_250 rfl ?_
                                  refine g_iconst KK402 252 (3 : Int32) at_252 (by decide) ?_
                                  refine g_ii_lt KK402 253 265 at_253 (by decide) (by decide) ?_ ?_
                                  · intro c421
                                    refine g_iload KK402 265 at_265 rfl ?_
                                    refine g_iconst KK402 267 (4 : Int32) at_267 (by decide) ?_
                                    refine g_ii_lt KK402 268 280 at_268 (by decide) (by decide) ?_ ?_
                                    · intro c422
                                      refine g_iconst KK402 280 (1 : Int32) at_280 (by decide) ?_
                                      refine g_goto KK402 281 285 at_281 (by decide) (by decide) ?_
                                      refine g_istore KK402 285 #[.val (.int p0), .val (.int p1), .val (.int p2), .val (.int p3), .val (.int p4), .val (.int p5), .val (.int v1), .val (.ref tx), .val (.int (0 : Int32)), .val (.int v367), .val (.int v368), .val (.int v369), .val (.int v370), .val (.ref a371), .val (.int (0 : Int32)), .val (.int (0 : Int32)), .val (.ref a404), .val (.int (1 : Int32)), .val (.int (1 : Int32))] at_285 rfl ?_
                                      refine g_iload KK402 287 at_287 rfl ?_
                                      refine g_iload KK402 289 at_289 rfl ?_
                                      refine g_ii_ne KK402 291 316 at_291 (by decide) (by decide) ?_ ?_
                                      · intro c423
                                        exfalso
                                        exact hlf
                                      · intro c423
                                        exact absurd c423 (by decide)
                                    · intro c422
                                      exact absurd c422 (by decide)
                                  · intro c421
                                    exact absurd c421 (by decide)
                                · intro c420
                                  exact absurd c420 (by decide)
                              · intro c419
                                exact absurd c419 (by decide)
                          refine g_if_eq K 189 196 at_189 (by decide) (by decide) ?_ ?_
                          · intro c424
                            refine g_iconst K 196 (0 : Int32) at_196 (by decide) ?_
                            exact J399  
                          · intro c424
                            exact absurd c424 (by decide)
                      · intro c397
                        exact absurd c397 (by decide)
                    · intro c396
                      exact absurd c396 (by decide)
                  · intro c395
                    exact absurd c395 (by decide)
                · intro c394
                  exact absurd c394 (by decide)
              · intro c393
                exact absurd c393 (by decide)
            · intro c392
              exact absurd c392 (by decide)
          · intro c391
            exact absurd c391 (by decide)
        · intro c390
          exact absurd c390 (by decide)
      · rw [hn]
        refine g_istore K 42 #[.val (.int p0), .val (.int p1), .val (.int p2), .val (.int p3), .val (.int p4), .val (.int p5), .val (.int v1), .val (.ref tx), .val (.int (1 : Int32)), .unset, .unset, .unset, .unset, .unset, .unset, .unset, .unset, .unset, .unset] at_42 rfl ?_
        refine g_iloadN K 44 at_44 rfl ?_
        refine g_callS K 45 [(.int p2)] 0 at_45 (rm_pick l Z a0 hw p2 h0 n0 Z0  ) (tw hw 4 rfl) (tw hw 5 rfl) (tw hw 6 rfl) (tw hw 7 rfl) (by decide) pd0 rfl (st := []) rfl (Nat.le_of_eq rfl) rfl (by decide) (by decide) (by decide) (by decide) ?_
        rintro _ _ ⟨hv, hh⟩
        rw [hv, hh]
        clear hv hh
        refine go_cast (k' := 0) (n' := 0) (st' := [(.int (f_pick p2))]) rfl rfl rfl ?_
        generalize hv425 : (f_pick p2) = v425
        refine g_istore K 48 #[.val (.int p0), .val (.int p1), .val (.int p2), .val (.int p3), .val (.int p4), .val (.int p5), .val (.int v1), .val (.ref tx), .val (.int (1 : Int32)), .val (.int v425), .unset, .unset, .unset, .unset, .unset, .unset, .unset, .unset, .unset] at_48 rfl ?_
        refine g_iloadN K 50 at_50 rfl ?_
        refine g_callS K 51 [(.int p3)] 0 at_51 (rm_pick l Z a0 hw p3 h0 n0 Z0  ) (tw hw 4 rfl) (tw hw 5 rfl) (tw hw 6 rfl) (tw hw 7 rfl) (by decide) pd0 rfl (st := []) rfl (Nat.le_of_eq rfl) rfl (by decide) (by decide) (by decide) (by decide) ?_
        rintro _ _ ⟨hv, hh⟩
        rw [hv, hh]
        clear hv hh
        refine go_cast (k' := 0) (n' := 0) (st' := [(.int (f_pick p3))]) rfl rfl rfl ?_
        generalize hv426 : (f_pick p3) = v426
        refine g_istore K 54 #[.val (.int p0), .val (.int p1), .val (.int p2), .val (.int p3), .val (.int p4), .val (.int p5), .val (.int v1), .val (.ref tx), .val (.int (1 : Int32)), .val (.int v425), .val (.int v426), .unset, .unset, .unset, .unset, .unset, .unset, .unset, .unset] at_54 rfl ?_
        refine g_iload K 56 at_56 rfl ?_
        refine g_callS K 58 [(.int p4)] 0 at_58 (rm_pick l Z a0 hw p4 h0 n0 Z0  ) (tw hw 4 rfl) (tw hw 5 rfl) (tw hw 6 rfl) (tw hw 7 rfl) (by decide) pd0 rfl (st := []) rfl (Nat.le_of_eq rfl) rfl (by decide) (by decide) (by decide) (by decide) ?_
        rintro _ _ ⟨hv, hh⟩
        rw [hv, hh]
        clear hv hh
        refine go_cast (k' := 0) (n' := 0) (st' := [(.int (f_pick p4))]) rfl rfl rfl ?_
        generalize hv427 : (f_pick p4) = v427
        refine g_istore K 61 #[.val (.int p0), .val (.int p1), .val (.int p2), .val (.int p3), .val (.int p4), .val (.int p5), .val (.int v1), .val (.ref tx), .val (.int (1 : Int32)), .val (.int v425), .val (.int v426), .val (.int v427), .unset, .unset, .unset, .unset, .unset, .unset, .unset] at_61 rfl ?_
        refine g_iload K 63 at_63 rfl ?_
        refine g_callS K 65 [(.int p5)] 0 at_65 (rm_pick l Z a0 hw p5 h0 n0 Z0  ) (tw hw 4 rfl) (tw hw 5 rfl) (tw hw 6 rfl) (tw hw 7 rfl) (by decide) pd0 rfl (st := []) rfl (Nat.le_of_eq rfl) rfl (by decide) (by decide) (by decide) (by decide) ?_
        rintro _ _ ⟨hv, hh⟩
        rw [hv, hh]
        clear hv hh
        refine go_cast (k' := 0) (n' := 0) (st' := [(.int (f_pick p5))]) rfl rfl rfl ?_
        generalize hv428 : (f_pick p5) = v428
        refine g_istore K 68 #[.val (.int p0), .val (.int p1), .val (.int p2), .val (.int p3), .val (.int p4), .val (.int p5), .val (.int v1), .val (.ref tx), .val (.int (1 : Int32)), .val (.int v425), .val (.int v426), .val (.int v427), .val (.int v428), .unset, .unset, .unset, .unset, .unset, .unset] at_68 rfl ?_
        refine g_iload K 70 at_70 rfl ?_
        refine g_newI K 72 .byte at_72 rfl rfl (tw hw 8 rfl) (by decide) 1 (by decide) (by decide) (by decide) (by decide) ?_
        intro h430 a429 eq433 Kp431 A432
        have g434 : n0 ≤ a429 := eq433 ▸ Z0
        have fr435 : Z.heap.size ≤ a429 := eq433 ▸ KC0.1
        have ne436 : cd ≠ a429 := own_ne_of_lt E1.lt eq433
        have ne437 : tx ≠ a429 := own_ne_of_lt E2.lt eq433
        have ne438 : sq ≠ a429 := own_ne_of_lt E3.lt eq433
        have S439 := sta_keep S1 Kp431 all0
        have S440 := sta_keep S2 Kp431 all0
        have S441 := sta_keep S3 Kp431 all0
        have E442 := E1.keep Kp431
        have E443 := E2.keep Kp431
        have E444 := E3.keep Kp431
        have Z445 := Nat.le_trans Z0 Kp431.1
        have KC446 := KC0.trans Kp431 all0
        have A447 : IA Z h430 a429 .byte [0] := (by have q := A432; rw [show (1 : Int32).toNatClampNeg = 1 from by decide] at q; exact q)
        refine g_astore K 74 #[.val (.int p0), .val (.int p1), .val (.int p2), .val (.int p3), .val (.int p4), .val (.int p5), .val (.int v1), .val (.ref tx), .val (.int (1 : Int32)), .val (.int v425), .val (.int v426), .val (.int v427), .val (.int v428), .val (.ref a429), .unset, .unset, .unset, .unset, .unset] at_74 rfl rfl ?_
        refine g_iload K 76 at_76 rfl ?_
        refine g_if_le K 78 87 at_78 (by decide) (by decide) ?_ ?_
        · intro c448
          exact absurd c448 (by decide)
        · intro c448
          refine g_aload K 81 at_81 rfl rfl ?_
          refine g_iconst K 83 (0 : Int32) at_83 (by decide) ?_
          refine g_iload K 84 at_84 rfl ?_
          refine g_bastore K 86 at_86 A447 (by decide) (show (0 : Int32).toNatClampNeg < 1 from by decide) g434 ?_
          intro h449 Kp450 A451
          have S452 := sta_keep S439 Kp450 (allS A447.nst all0)
          have S453 := sta_keep S440 Kp450 (allS A447.nst all0)
          have S454 := sta_keep S441 Kp450 (allS A447.nst all0)
          have E455 := E442.keep Kp450
          have E456 := E443.keep Kp450
          have E457 := E444.keep Kp450
          have Z458 := Nat.le_trans Z445 Kp450.1
          have KC459 := KC446.trans Kp450 (allS (Or.inr fr435) all0)
          have A460 : IA Z h449 a429 .byte [nar .byte v425] := (by have q := A451; rw [show (0 : Int32).toNatClampNeg = 0 from by decide] at q; exact q)
          refine g_iload K 87 at_87 rfl ?_
          refine g_iconst K 89 (1 : Int32) at_89 (by decide) ?_
          refine g_ii_le K 90 99 at_90 (by decide) (by decide) ?_ ?_
          · intro c461
            refine g_iload K 99 at_99 rfl ?_
            refine g_iconst K 101 (2 : Int32) at_101 (by decide) ?_
            refine g_ii_le K 102 111 at_102 (by decide) (by decide) ?_ ?_
            · intro c462
              refine g_iload K 111 at_111 rfl ?_
              refine g_iconst K 113 (3 : Int32) at_113 (by decide) ?_
              refine g_ii_le K 114 123 at_114 (by decide) (by decide) ?_ ?_
              · intro c463
                refine g_iload K 123 at_123 rfl ?_
                refine g_if_le K 125 135 at_125 (by decide) (by decide) ?_ ?_
                · intro c464
                  exact absurd c464 (by decide)
                · intro c464
                  refine g_iload K 128 at_128 rfl ?_
                  refine g_bipush K 130 (10 : Int32) at_130 (by decide) ?_
                  have J466 : ∀ (z465 : Int32), z465 = (if v425 = (10 : Int32) then (1 : Int32) else (0 : Int32)) → Go p l e room_1 Z m #[(.int p0), (.int p1), (.int p2), (.int p3), (.int p4), (.int p5)] below meth c n0 (ReturnedEndW Z) Q h449 (0 + 1) (0 + 1) (mkF m 179 #[.val (.int p0), .val (.int p1), .val (.int p2), .val (.int p3), .val (.int p4), .val (.int p5), .val (.int v1), .val (.ref tx), .val (.int (1 : Int32)), .val (.int v425), .val (.int v426), .val (.int v427), .val (.int v428), .val (.ref a429), .unset, .unset, .unset, .unset, .unset] [(.int z465)]) := by
                    intro z465 hz465
                    refine g_istore K 179 #[.val (.int p0), .val (.int p1), .val (.int p2), .val (.int p3), .val (.int p4), .val (.int p5), .val (.int v1), .val (.ref tx), .val (.int (1 : Int32)), .val (.int v425), .val (.int v426), .val (.int v427), .val (.int v428), .val (.ref a429), .val (.int z465), .unset, .unset, .unset, .unset] at_179 rfl ?_
                    refine g_iload K 181 at_181 rfl ?_
                    refine g_iconst K 183 (1 : Int32) at_183 (by decide) ?_
                    refine g_ii_ne K 184 196 at_184 (by decide) (by decide) ?_ ?_
                    · intro c467
                      exact absurd c3 c467
                    · intro c467
                      refine g_iload K 187 at_187 rfl ?_
                      have J469 : ∀ (z468 : Int32), z468 = (if z465 = 0 then (0 : Int32) else (1 : Int32)) → Go p l e room_1 Z m #[(.int p0), (.int p1), (.int p2), (.int p3), (.int p4), (.int p5)] below meth c n0 (ReturnedEndW Z) Q h449 (0 + 1) (0 + 1) (mkF m 197 #[.val (.int p0), .val (.int p1), .val (.int p2), .val (.int p3), .val (.int p4), .val (.int p5), .val (.int v1), .val (.ref tx), .val (.int (1 : Int32)), .val (.int v425), .val (.int v426), .val (.int v427), .val (.int v428), .val (.ref a429), .val (.int z465), .unset, .unset, .unset, .unset] [(.int z468)]) := by
                        intro z468 hz468
                        refine g_istore K 197 #[.val (.int p0), .val (.int p1), .val (.int p2), .val (.int p3), .val (.int p4), .val (.int p5), .val (.int v1), .val (.ref tx), .val (.int (1 : Int32)), .val (.int v425), .val (.int v426), .val (.int v427), .val (.int v428), .val (.ref a429), .val (.int z465), .val (.int z468), .unset, .unset, .unset] at_197 rfl ?_
                        refine g_aload K 199 at_199 rfl rfl ?_
                        refine g_aload K 201 at_201 rfl rfl ?_
                        refine g_callVW K 203 [(.ref a429)] 0 at_203 (rm_ref1 l Z a0 hw tx a429 h449 (nar .byte v425) A460 S453 (fun b cl q => KC459.2.1 b cl q nin0) hh hcw) Z458 E456 (tw hw 9 rfl) (tw hw 10 rfl) (tw hw 12 rfl) (tw hw 12 rfl) (tw hw 11 rfl) (tw hw 2 rfl) (tw hw 13 rfl) (by decide) pd1 rfl (st := []) rfl (Nat.le_of_eq rfl) rfl (by decide) (by decide) (by decide) (by decide) rfl ?_
                        intro v h470 vm471 hq hs473 KK472
                        rcases hq with ⟨rfl, rfl, hlf⟩ | ⟨a474, b475, rfl, Kp476, E477, F478, A479, hlf⟩
                        ·
                          refine go_cast (k' := ((0 + 1) + 2)) (n' := ((0 + 1) + 216)) (st' := [.null]) rfl rfl rfl ?_
                          refine g_astore KK472 206 #[.val (.int p0), .val (.int p1), .val (.int p2), .val (.int p3), .val (.int p4), .val (.int p5), .val (.int v1), .val (.ref tx), .val (.int (1 : Int32)), .val (.int v425), .val (.int v426), .val (.int v427), .val (.int v428), .val (.ref a429), .val (.int z465), .val (.int z468), .val .null, .unset, .unset] at_206 rfl rfl ?_
                          refine g_aload KK472 208 at_208 rfl rfl ?_
                          refine g_ifnull_null KK472 210 217 at_210 (by decide) (by decide) ?_
                          refine g_iconst KK472 217 (0 : Int32) at_217 (by decide) ?_
                          refine g_istore KK472 218 #[.val (.int p0), .val (.int p1), .val (.int p2), .val (.int p3), .val (.int p4), .val (.int p5), .val (.int v1), .val (.ref tx), .val (.int (1 : Int32)), .val (.int v425), .val (.int v426), .val (.int v427), .val (.int v428), .val (.ref a429), .val (.int z465), .val (.int z468), .val .null, .val (.int (0 : Int32)), .unset] at_218 rfl ?_
                          refine g_iload KK472 220 at_220 rfl ?_
                          refine g_iconst KK472 222 (1 : Int32) at_222 (by decide) ?_
                          refine g_ii_lt KK472 223 235 at_223 (by decide) (by decide) ?_ ?_
                          · intro c480
                            exact absurd c480 (by decide)
                          · intro c480
                            refine g_aload KK472 226 at_226 rfl rfl ?_
                            refine g_iconst KK472 228 (0 : Int32) at_228 (by decide) ?_
                            refine g_baload KK472 229 (nar .byte v425) at_229 A460 (by decide) (by rw [show (0 : Int32).toNatClampNeg = 0 from by decide]; rfl) ?_
                            refine g_iload KK472 230 at_230 rfl ?_
                            refine g_ii_ne KK472 232 284 at_232 (by decide) (by decide) ?_ ?_
                            · intro c481
                              exfalso
                              exact c481 (own_nar hv425)
                            · intro c481
                              refine g_iload KK472 235 at_235 rfl ?_
                              refine g_iconst KK472 237 (2 : Int32) at_237 (by decide) ?_
                              refine g_ii_lt KK472 238 250 at_238 (by decide) (by decide) ?_ ?_
                              · intro c482
                                refine g_iload KK472 250 at_250 rfl ?_
                                refine g_iconst KK472 252 (3 : Int32) at_252 (by decide) ?_
                                refine g_ii_lt KK472 253 265 at_253 (by decide) (by decide) ?_ ?_
                                · intro c483
                                  refine g_iload KK472 265 at_265 rfl ?_
                                  refine g_iconst KK472 267 (4 : Int32) at_267 (by decide) ?_
                                  refine g_ii_lt KK472 268 280 at_268 (by decide) (by decide) ?_ ?_
                                  · intro c484
                                    refine g_iconst KK472 280 (1 : Int32) at_280 (by decide) ?_
                                    refine g_goto KK472 281 285 at_281 (by decide) (by decide) ?_
                                    refine g_istore KK472 285 #[.val (.int p0), .val (.int p1), .val (.int p2), .val (.int p3), .val (.int p4), .val (.int p5), .val (.int v1), .val (.ref tx), .val (.int (1 : Int32)), .val (.int v425), .val (.int v426), .val (.int v427), .val (.int v428), .val (.ref a429), .val (.int z465), .val (.int z468), .val .null, .val (.int (0 : Int32)), .val (.int (1 : Int32))] at_285 rfl ?_
                                    refine g_iload KK472 287 at_287 rfl ?_
                                    refine g_iload KK472 289 at_289 rfl ?_
                                    refine g_ii_ne KK472 291 316 at_291 (by decide) (by decide) ?_ ?_
                                    · intro c485
                                      exfalso
                                      rw [own_nar hv425] at hlf; simp [hz468, hz465, hlf] at c485
                                    · intro c485
                                      refine g_iload KK472 294 at_294 rfl ?_
                                      refine g_if_eq KK472 296 307 at_296 (by decide) (by decide) ?_ ?_
                                      · intro c486
                                        refine g_iload KK472 307 at_307 rfl ?_
                                        refine g_if_eq KK472 309 316 at_309 (by decide) (by decide) ?_ ?_
                                        · intro c487
                                          exact absurd c487 (by decide)
                                        · intro c487
                                          refine g_iconst KK472 312 (1 : Int32) at_312 (by decide) ?_
                                          refine g_goto KK472 313 317 at_313 (by decide) (by decide) ?_
                                          refine g_retN KK472 317 .boolean at_317 rfl (by simp) (by decide) (by decide) ?_
                                          rw [hQ]
                                          rfl
                                      · intro c486
                                        exact absurd c486 (by decide)
                                  · intro c484
                                    exact absurd c484 (by decide)
                                · intro c483
                                  exact absurd c483 (by decide)
                              · intro c482
                                exact absurd c482 (by decide)
                        ·
                          have Z488 := Nat.le_trans Z458 Kp476.1
                          have F489 := A460.keep Kp476 nin0
                          refine go_cast (k' := ((0 + 1) + 2)) (n' := ((0 + 1) + 216)) (st' := [(.ref a474)]) rfl rfl rfl ?_
                          refine g_astore KK472 206 #[.val (.int p0), .val (.int p1), .val (.int p2), .val (.int p3), .val (.int p4), .val (.int p5), .val (.int v1), .val (.ref tx), .val (.int (1 : Int32)), .val (.int v425), .val (.int v426), .val (.int v427), .val (.int v428), .val (.ref a429), .val (.int z465), .val (.int z468), .val (.ref a474), .unset, .unset] at_206 rfl rfl ?_
                          refine g_aload KK472 208 at_208 rfl rfl ?_
                          refine g_ifnull_ref KK472 210 at_210 ?_
                          refine g_iconst KK472 213 (1 : Int32) at_213 (by decide) ?_
                          refine g_goto KK472 214 218 at_214 (by decide) (by decide) ?_
                          refine g_istore KK472 218 #[.val (.int p0), .val (.int p1), .val (.int p2), .val (.int p3), .val (.int p4), .val (.int p5), .val (.int v1), .val (.ref tx), .val (.int (1 : Int32)), .val (.int v425), .val (.int v426), .val (.int v427), .val (.int v428), .val (.ref a429), .val (.int z465), .val (.int z468), .val (.ref a474), .val (.int (1 : Int32)), .unset] at_218 rfl ?_
                          refine g_iload KK472 220 at_220 rfl ?_
                          refine g_iconst KK472 222 (1 : Int32) at_222 (by decide) ?_
                          refine g_ii_lt KK472 223 235 at_223 (by decide) (by decide) ?_ ?_
                          · intro c490
                            exact absurd c490 (by decide)
                          · intro c490
                            refine g_aload KK472 226 at_226 rfl rfl ?_
                            refine g_iconst KK472 228 (0 : Int32) at_228 (by decide) ?_
                            refine g_baload KK472 229 (nar .byte v425) at_229 F489 (by decide) (by rw [show (0 : Int32).toNatClampNeg = 0 from by decide]; rfl) ?_
                            refine g_iload KK472 230 at_230 rfl ?_
                            refine g_ii_ne KK472 232 284 at_232 (by decide) (by decide) ?_ ?_
                            · intro c491
                              exfalso
                              exact c491 (own_nar hv425)
                            · intro c491
                              refine g_iload KK472 235 at_235 rfl ?_
                              refine g_iconst KK472 237 (2 : Int32) at_237 (by decide) ?_
                              refine g_ii_lt KK472 238 250 at_238 (by decide) (by decide) ?_ ?_
                              · intro c492
                                refine g_iload KK472 250 at_250 rfl ?_
                                refine g_iconst KK472 252 (3 : Int32) at_252 (by decide) ?_
                                refine g_ii_lt KK472 253 265 at_253 (by decide) (by decide) ?_ ?_
                                · intro c493
                                  refine g_iload KK472 265 at_265 rfl ?_
                                  refine g_iconst KK472 267 (4 : Int32) at_267 (by decide) ?_
                                  refine g_ii_lt KK472 268 280 at_268 (by decide) (by decide) ?_ ?_
                                  · intro c494
                                    refine g_iconst KK472 280 (1 : Int32) at_280 (by decide) ?_
                                    refine g_goto KK472 281 285 at_281 (by decide) (by decide) ?_
                                    refine g_istore KK472 285 #[.val (.int p0), .val (.int p1), .val (.int p2), .val (.int p3), .val (.int p4), .val (.int p5), .val (.int v1), .val (.ref tx), .val (.int (1 : Int32)), .val (.int v425), .val (.int v426), .val (.int v427), .val (.int v428), .val (.ref a429), .val (.int z465), .val (.int z468), .val (.ref a474), .val (.int (1 : Int32)), .val (.int (1 : Int32))] at_285 rfl ?_
                                    refine g_iload KK472 287 at_287 rfl ?_
                                    refine g_iload KK472 289 at_289 rfl ?_
                                    refine g_ii_ne KK472 291 316 at_291 (by decide) (by decide) ?_ ?_
                                    · intro c495
                                      exfalso
                                      rw [own_nar hv425] at hlf; simp [hz468, hz465, hlf] at c495
                                    · intro c495
                                      refine g_iload KK472 294 at_294 rfl ?_
                                      refine g_if_eq KK472 296 307 at_296 (by decide) (by decide) ?_ ?_
                                      · intro c496
                                        exact absurd c496 (by decide)
                                      · intro c496
                                        refine g_aload KK472 299 at_299 rfl rfl ?_
                                        refine g_callV KK472 301 [] 0 at_301 (rm_isEmpty l Z a0 hw a474 h470 n0 Z488 own_txt b475 F478 A479) E477 (tw hw 24 rfl) (tw hw 25 rfl) (tw hw 27 rfl) (tw hw 27 rfl) (tw hw 26 rfl) (tw hw 18 rfl) (tw hw 28 rfl) (by decide) pd2 rfl (st := []) rfl (Nat.le_of_eq rfl) rfl (by decide) (by decide) (by decide) (by decide) ?_
                                        rintro _ _ ⟨hv, hh⟩
                                        rw [hv, hh]
                                        clear hv hh
                                        refine go_cast (k' := ((0 + 1) + 2)) (n' := ((0 + 1) + 216)) (st' := [(.int (f_isEmpty own_txt))]) rfl rfl rfl ?_
                                        refine g_if_ne KK472 304 316 at_304 (by decide) (by decide) ?_ ?_
                                        · intro c497
                                          exfalso
                                          exact c497 own_ie
                                        · intro c497
                                          refine g_iload KK472 307 at_307 rfl ?_
                                          refine g_if_eq KK472 309 316 at_309 (by decide) (by decide) ?_ ?_
                                          · intro c498
                                            exact absurd c498 (by decide)
                                          · intro c498
                                            refine g_iconst KK472 312 (1 : Int32) at_312 (by decide) ?_
                                            refine g_goto KK472 313 317 at_313 (by decide) (by decide) ?_
                                            refine g_retN KK472 317 .boolean at_317 rfl (by simp) (by decide) (by decide) ?_
                                            rw [hQ]
                                            rfl
                                  · intro c494
                                    exact absurd c494 (by decide)
                                · intro c493
                                  exact absurd c493 (by decide)
                              · intro c492
                                exact absurd c492 (by decide)
                      refine g_if_eq K 189 196 at_189 (by decide) (by decide) ?_ ?_
                      · intro c499
                        refine g_iconst K 196 (0 : Int32) at_196 (by decide) ?_
                        exact J469 _ (by rw [if_pos c499])
                      · intro c499
                        refine g_iconst K 192 (1 : Int32) at_192 (by decide) ?_
                        refine g_goto K 193 197 at_193 (by decide) (by decide) ?_
                        exact J469 _ (by rw [if_neg c499])
                  refine g_ii_eq K 132 174 at_132 (by decide) (by decide) ?_ ?_
                  · intro c500
                    refine g_iconst K 174 (1 : Int32) at_174 (by decide) ?_
                    refine g_goto K 175 179 at_175 (by decide) (by decide) ?_
                    exact J466 _ (by rw [if_pos c500])
                  · intro c500
                    refine g_iload K 135 at_135 rfl ?_
                    refine g_iconst K 137 (1 : Int32) at_137 (by decide) ?_
                    refine g_ii_le K 138 148 at_138 (by decide) (by decide) ?_ ?_
                    · intro c501
                      refine g_iload K 148 at_148 rfl ?_
                      refine g_iconst K 150 (2 : Int32) at_150 (by decide) ?_
                      refine g_ii_le K 151 161 at_151 (by decide) (by decide) ?_ ?_
                      · intro c502
                        refine g_iload K 161 at_161 rfl ?_
                        refine g_iconst K 163 (3 : Int32) at_163 (by decide) ?_
                        refine g_ii_le K 164 178 at_164 (by decide) (by decide) ?_ ?_
                        · intro c503
                          refine g_iconst K 178 (0 : Int32) at_178 (by decide) ?_
                          exact J466 _ (by rw [if_neg c500])
                        · intro c503
                          exact absurd c503 (by decide)
                      · intro c502
                        exact absurd c502 (by decide)
                    · intro c501
                      exact absurd c501 (by decide)
              · intro c463
                exact absurd c463 (by decide)
            · intro c462
              exact absurd c462 (by decide)
          · intro c461
            exact absurd c461 (by decide)
      · rw [hn]
        refine g_istore K 42 #[.val (.int p0), .val (.int p1), .val (.int p2), .val (.int p3), .val (.int p4), .val (.int p5), .val (.int v1), .val (.ref tx), .val (.int (2 : Int32)), .unset, .unset, .unset, .unset, .unset, .unset, .unset, .unset, .unset, .unset] at_42 rfl ?_
        refine g_iloadN K 44 at_44 rfl ?_
        refine g_callS K 45 [(.int p2)] 0 at_45 (rm_pick l Z a0 hw p2 h0 n0 Z0  ) (tw hw 4 rfl) (tw hw 5 rfl) (tw hw 6 rfl) (tw hw 7 rfl) (by decide) pd0 rfl (st := []) rfl (Nat.le_of_eq rfl) rfl (by decide) (by decide) (by decide) (by decide) ?_
        rintro _ _ ⟨hv, hh⟩
        rw [hv, hh]
        clear hv hh
        refine go_cast (k' := 0) (n' := 0) (st' := [(.int (f_pick p2))]) rfl rfl rfl ?_
        generalize hv504 : (f_pick p2) = v504
        refine g_istore K 48 #[.val (.int p0), .val (.int p1), .val (.int p2), .val (.int p3), .val (.int p4), .val (.int p5), .val (.int v1), .val (.ref tx), .val (.int (2 : Int32)), .val (.int v504), .unset, .unset, .unset, .unset, .unset, .unset, .unset, .unset, .unset] at_48 rfl ?_
        refine g_iloadN K 50 at_50 rfl ?_
        refine g_callS K 51 [(.int p3)] 0 at_51 (rm_pick l Z a0 hw p3 h0 n0 Z0  ) (tw hw 4 rfl) (tw hw 5 rfl) (tw hw 6 rfl) (tw hw 7 rfl) (by decide) pd0 rfl (st := []) rfl (Nat.le_of_eq rfl) rfl (by decide) (by decide) (by decide) (by decide) ?_
        rintro _ _ ⟨hv, hh⟩
        rw [hv, hh]
        clear hv hh
        refine go_cast (k' := 0) (n' := 0) (st' := [(.int (f_pick p3))]) rfl rfl rfl ?_
        generalize hv505 : (f_pick p3) = v505
        refine g_istore K 54 #[.val (.int p0), .val (.int p1), .val (.int p2), .val (.int p3), .val (.int p4), .val (.int p5), .val (.int v1), .val (.ref tx), .val (.int (2 : Int32)), .val (.int v504), .val (.int v505), .unset, .unset, .unset, .unset, .unset, .unset, .unset, .unset] at_54 rfl ?_
        refine g_iload K 56 at_56 rfl ?_
        refine g_callS K 58 [(.int p4)] 0 at_58 (rm_pick l Z a0 hw p4 h0 n0 Z0  ) (tw hw 4 rfl) (tw hw 5 rfl) (tw hw 6 rfl) (tw hw 7 rfl) (by decide) pd0 rfl (st := []) rfl (Nat.le_of_eq rfl) rfl (by decide) (by decide) (by decide) (by decide) ?_
        rintro _ _ ⟨hv, hh⟩
        rw [hv, hh]
        clear hv hh
        refine go_cast (k' := 0) (n' := 0) (st' := [(.int (f_pick p4))]) rfl rfl rfl ?_
        generalize hv506 : (f_pick p4) = v506
        refine g_istore K 61 #[.val (.int p0), .val (.int p1), .val (.int p2), .val (.int p3), .val (.int p4), .val (.int p5), .val (.int v1), .val (.ref tx), .val (.int (2 : Int32)), .val (.int v504), .val (.int v505), .val (.int v506), .unset, .unset, .unset, .unset, .unset, .unset, .unset] at_61 rfl ?_
        refine g_iload K 63 at_63 rfl ?_
        refine g_callS K 65 [(.int p5)] 0 at_65 (rm_pick l Z a0 hw p5 h0 n0 Z0  ) (tw hw 4 rfl) (tw hw 5 rfl) (tw hw 6 rfl) (tw hw 7 rfl) (by decide) pd0 rfl (st := []) rfl (Nat.le_of_eq rfl) rfl (by decide) (by decide) (by decide) (by decide) ?_
        rintro _ _ ⟨hv, hh⟩
        rw [hv, hh]
        clear hv hh
        refine go_cast (k' := 0) (n' := 0) (st' := [(.int (f_pick p5))]) rfl rfl rfl ?_
        generalize hv507 : (f_pick p5) = v507
        refine g_istore K 68 #[.val (.int p0), .val (.int p1), .val (.int p2), .val (.int p3), .val (.int p4), .val (.int p5), .val (.int v1), .val (.ref tx), .val (.int (2 : Int32)), .val (.int v504), .val (.int v505), .val (.int v506), .val (.int v507), .unset, .unset, .unset, .unset, .unset, .unset] at_68 rfl ?_
        refine g_iload K 70 at_70 rfl ?_
        refine g_newI K 72 .byte at_72 rfl rfl (tw hw 8 rfl) (by decide) 2 (by decide) (by decide) (by decide) (by decide) ?_
        intro h509 a508 eq512 Kp510 A511
        have g513 : n0 ≤ a508 := eq512 ▸ Z0
        have fr514 : Z.heap.size ≤ a508 := eq512 ▸ KC0.1
        have ne515 : cd ≠ a508 := own_ne_of_lt E1.lt eq512
        have ne516 : tx ≠ a508 := own_ne_of_lt E2.lt eq512
        have ne517 : sq ≠ a508 := own_ne_of_lt E3.lt eq512
        have S518 := sta_keep S1 Kp510 all0
        have S519 := sta_keep S2 Kp510 all0
        have S520 := sta_keep S3 Kp510 all0
        have E521 := E1.keep Kp510
        have E522 := E2.keep Kp510
        have E523 := E3.keep Kp510
        have Z524 := Nat.le_trans Z0 Kp510.1
        have KC525 := KC0.trans Kp510 all0
        have A526 : IA Z h509 a508 .byte [0, 0] := (by have q := A511; rw [show (2 : Int32).toNatClampNeg = 2 from by decide] at q; exact q)
        refine g_astore K 74 #[.val (.int p0), .val (.int p1), .val (.int p2), .val (.int p3), .val (.int p4), .val (.int p5), .val (.int v1), .val (.ref tx), .val (.int (2 : Int32)), .val (.int v504), .val (.int v505), .val (.int v506), .val (.int v507), .val (.ref a508), .unset, .unset, .unset, .unset, .unset] at_74 rfl rfl ?_
        refine g_iload K 76 at_76 rfl ?_
        refine g_if_le K 78 87 at_78 (by decide) (by decide) ?_ ?_
        · intro c527
          exact absurd c527 (by decide)
        · intro c527
          refine g_aload K 81 at_81 rfl rfl ?_
          refine g_iconst K 83 (0 : Int32) at_83 (by decide) ?_
          refine g_iload K 84 at_84 rfl ?_
          refine g_bastore K 86 at_86 A526 (by decide) (show (0 : Int32).toNatClampNeg < 2 from by decide) g513 ?_
          intro h528 Kp529 A530
          have S531 := sta_keep S518 Kp529 (allS A526.nst all0)
          have S532 := sta_keep S519 Kp529 (allS A526.nst all0)
          have S533 := sta_keep S520 Kp529 (allS A526.nst all0)
          have E534 := E521.keep Kp529
          have E535 := E522.keep Kp529
          have E536 := E523.keep Kp529
          have Z537 := Nat.le_trans Z524 Kp529.1
          have KC538 := KC525.trans Kp529 (allS (Or.inr fr514) all0)
          have A539 : IA Z h528 a508 .byte [nar .byte v504, 0] := (by have q := A530; rw [show (0 : Int32).toNatClampNeg = 0 from by decide] at q; exact q)
          refine g_iload K 87 at_87 rfl ?_
          refine g_iconst K 89 (1 : Int32) at_89 (by decide) ?_
          refine g_ii_le K 90 99 at_90 (by decide) (by decide) ?_ ?_
          · intro c540
            exact absurd c540 (by decide)
          · intro c540
            refine g_aload K 93 at_93 rfl rfl ?_
            refine g_iconst K 95 (1 : Int32) at_95 (by decide) ?_
            refine g_iload K 96 at_96 rfl ?_
            refine g_bastore K 98 at_98 A539 (by decide) (show (1 : Int32).toNatClampNeg < 2 from by decide) g513 ?_
            intro h541 Kp542 A543
            have S544 := sta_keep S531 Kp542 (allS A539.nst all0)
            have S545 := sta_keep S532 Kp542 (allS A539.nst all0)
            have S546 := sta_keep S533 Kp542 (allS A539.nst all0)
            have E547 := E534.keep Kp542
            have E548 := E535.keep Kp542
            have E549 := E536.keep Kp542
            have Z550 := Nat.le_trans Z537 Kp542.1
            have KC551 := KC538.trans Kp542 (allS (Or.inr fr514) all0)
            have A552 : IA Z h541 a508 .byte [nar .byte v504, nar .byte v505] := (by have q := A543; rw [show (1 : Int32).toNatClampNeg = 1 from by decide] at q; exact q)
            refine g_iload K 99 at_99 rfl ?_
            refine g_iconst K 101 (2 : Int32) at_101 (by decide) ?_
            refine g_ii_le K 102 111 at_102 (by decide) (by decide) ?_ ?_
            · intro c553
              refine g_iload K 111 at_111 rfl ?_
              refine g_iconst K 113 (3 : Int32) at_113 (by decide) ?_
              refine g_ii_le K 114 123 at_114 (by decide) (by decide) ?_ ?_
              · intro c554
                refine g_iload K 123 at_123 rfl ?_
                refine g_if_le K 125 135 at_125 (by decide) (by decide) ?_ ?_
                · intro c555
                  exact absurd c555 (by decide)
                · intro c555
                  refine g_iload K 128 at_128 rfl ?_
                  refine g_bipush K 130 (10 : Int32) at_130 (by decide) ?_
                  have J557 : ∀ (z556 : Int32), z556 = (if v504 = (10 : Int32) then (1 : Int32) else (if v505 = (10 : Int32) then (1 : Int32) else (0 : Int32))) → Go p l e room_1 Z m #[(.int p0), (.int p1), (.int p2), (.int p3), (.int p4), (.int p5)] below meth c n0 (ReturnedEndW Z) Q h541 (0 + 1) (0 + 2) (mkF m 179 #[.val (.int p0), .val (.int p1), .val (.int p2), .val (.int p3), .val (.int p4), .val (.int p5), .val (.int v1), .val (.ref tx), .val (.int (2 : Int32)), .val (.int v504), .val (.int v505), .val (.int v506), .val (.int v507), .val (.ref a508), .unset, .unset, .unset, .unset, .unset] [(.int z556)]) := by
                    intro z556 hz556
                    refine g_istore K 179 #[.val (.int p0), .val (.int p1), .val (.int p2), .val (.int p3), .val (.int p4), .val (.int p5), .val (.int v1), .val (.ref tx), .val (.int (2 : Int32)), .val (.int v504), .val (.int v505), .val (.int v506), .val (.int v507), .val (.ref a508), .val (.int z556), .unset, .unset, .unset, .unset] at_179 rfl ?_
                    refine g_iload K 181 at_181 rfl ?_
                    refine g_iconst K 183 (1 : Int32) at_183 (by decide) ?_
                    refine g_ii_ne K 184 196 at_184 (by decide) (by decide) ?_ ?_
                    · intro c558
                      exact absurd c3 c558
                    · intro c558
                      refine g_iload K 187 at_187 rfl ?_
                      have J560 : ∀ (z559 : Int32), z559 = (if z556 = 0 then (0 : Int32) else (1 : Int32)) → Go p l e room_1 Z m #[(.int p0), (.int p1), (.int p2), (.int p3), (.int p4), (.int p5)] below meth c n0 (ReturnedEndW Z) Q h541 (0 + 1) (0 + 2) (mkF m 197 #[.val (.int p0), .val (.int p1), .val (.int p2), .val (.int p3), .val (.int p4), .val (.int p5), .val (.int v1), .val (.ref tx), .val (.int (2 : Int32)), .val (.int v504), .val (.int v505), .val (.int v506), .val (.int v507), .val (.ref a508), .val (.int z556), .unset, .unset, .unset, .unset] [(.int z559)]) := by
                        intro z559 hz559
                        refine g_istore K 197 #[.val (.int p0), .val (.int p1), .val (.int p2), .val (.int p3), .val (.int p4), .val (.int p5), .val (.int v1), .val (.ref tx), .val (.int (2 : Int32)), .val (.int v504), .val (.int v505), .val (.int v506), .val (.int v507), .val (.ref a508), .val (.int z556), .val (.int z559), .unset, .unset, .unset] at_197 rfl ?_
                        refine g_aload K 199 at_199 rfl rfl ?_
                        refine g_aload K 201 at_201 rfl rfl ?_
                        refine g_callVW K 203 [(.ref a508)] 0 at_203 (rm_ref2 l Z a0 hw tx a508 h541 (nar .byte v504) (nar .byte v505) A552 S545 (fun b cl q => KC551.2.1 b cl q nin0) hh hcw) Z550 E548 (tw hw 9 rfl) (tw hw 10 rfl) (tw hw 12 rfl) (tw hw 12 rfl) (tw hw 11 rfl) (tw hw 2 rfl) (tw hw 13 rfl) (by decide) pd1 rfl (st := []) rfl (Nat.le_of_eq rfl) rfl (by decide) (by decide) (by decide) (by decide) rfl ?_
                        intro v h561 vm562 hq hs564 KK563
                        rcases hq with ⟨rfl, rfl, hlf⟩ | ⟨a565, b566, rfl, Kp567, E568, F569, A570, hlf⟩
                        ·
                          refine go_cast (k' := ((0 + 1) + 2)) (n' := ((0 + 2) + 216)) (st' := [.null]) rfl rfl rfl ?_
                          refine g_astore KK563 206 #[.val (.int p0), .val (.int p1), .val (.int p2), .val (.int p3), .val (.int p4), .val (.int p5), .val (.int v1), .val (.ref tx), .val (.int (2 : Int32)), .val (.int v504), .val (.int v505), .val (.int v506), .val (.int v507), .val (.ref a508), .val (.int z556), .val (.int z559), .val .null, .unset, .unset] at_206 rfl rfl ?_
                          refine g_aload KK563 208 at_208 rfl rfl ?_
                          refine g_ifnull_null KK563 210 217 at_210 (by decide) (by decide) ?_
                          refine g_iconst KK563 217 (0 : Int32) at_217 (by decide) ?_
                          refine g_istore KK563 218 #[.val (.int p0), .val (.int p1), .val (.int p2), .val (.int p3), .val (.int p4), .val (.int p5), .val (.int v1), .val (.ref tx), .val (.int (2 : Int32)), .val (.int v504), .val (.int v505), .val (.int v506), .val (.int v507), .val (.ref a508), .val (.int z556), .val (.int z559), .val .null, .val (.int (0 : Int32)), .unset] at_218 rfl ?_
                          refine g_iload KK563 220 at_220 rfl ?_
                          refine g_iconst KK563 222 (1 : Int32) at_222 (by decide) ?_
                          refine g_ii_lt KK563 223 235 at_223 (by decide) (by decide) ?_ ?_
                          · intro c571
                            exact absurd c571 (by decide)
                          · intro c571
                            refine g_aload KK563 226 at_226 rfl rfl ?_
                            refine g_iconst KK563 228 (0 : Int32) at_228 (by decide) ?_
                            refine g_baload KK563 229 (nar .byte v504) at_229 A552 (by decide) (by rw [show (0 : Int32).toNatClampNeg = 0 from by decide]; rfl) ?_
                            refine g_iload KK563 230 at_230 rfl ?_
                            refine g_ii_ne KK563 232 284 at_232 (by decide) (by decide) ?_ ?_
                            · intro c572
                              exfalso
                              exact c572 (own_nar hv504)
                            · intro c572
                              refine g_iload KK563 235 at_235 rfl ?_
                              refine g_iconst KK563 237 (2 : Int32) at_237 (by decide) ?_
                              refine g_ii_lt KK563 238 250 at_238 (by decide) (by decide) ?_ ?_
                              · intro c573
                                exact absurd c573 (by decide)
                              · intro c573
                                refine g_aload KK563 241 at_241 rfl rfl ?_
                                refine g_iconst KK563 243 (1 : Int32) at_243 (by decide) ?_
                                refine g_baload KK563 244 (nar .byte v505) at_244 A552 (by decide) (by rw [show (1 : Int32).toNatClampNeg = 1 from by decide]; rfl) ?_
                                refine g_iload KK563 245 at_245 rfl ?_
                                refine g_ii_ne KK563 247 284 at_247 (by decide) (by decide) ?_ ?_
                                · intro c574
                                  exfalso
                                  exact c574 (own_nar hv505)
                                · intro c574
                                  refine g_iload KK563 250 at_250 rfl ?_
                                  refine g_iconst KK563 252 (3 : Int32) at_252 (by decide) ?_
                                  refine g_ii_lt KK563 253 265 at_253 (by decide) (by decide) ?_ ?_
                                  · intro c575
                                    refine g_iload KK563 265 at_265 rfl ?_
                                    refine g_iconst KK563 267 (4 : Int32) at_267 (by decide) ?_
                                    refine g_ii_lt KK563 268 280 at_268 (by decide) (by decide) ?_ ?_
                                    · intro c576
                                      refine g_iconst KK563 280 (1 : Int32) at_280 (by decide) ?_
                                      refine g_goto KK563 281 285 at_281 (by decide) (by decide) ?_
                                      refine g_istore KK563 285 #[.val (.int p0), .val (.int p1), .val (.int p2), .val (.int p3), .val (.int p4), .val (.int p5), .val (.int v1), .val (.ref tx), .val (.int (2 : Int32)), .val (.int v504), .val (.int v505), .val (.int v506), .val (.int v507), .val (.ref a508), .val (.int z556), .val (.int z559), .val .null, .val (.int (0 : Int32)), .val (.int (1 : Int32))] at_285 rfl ?_
                                      refine g_iload KK563 287 at_287 rfl ?_
                                      refine g_iload KK563 289 at_289 rfl ?_
                                      refine g_ii_ne KK563 291 316 at_291 (by decide) (by decide) ?_ ?_
                                      · intro c577
                                        exfalso
                                        rw [own_nar hv504, own_nar hv505] at hlf; simp only [not_or] at hlf; simp [hz559, hz556, hlf] at c577
                                      · intro c577
                                        refine g_iload KK563 294 at_294 rfl ?_
                                        refine g_if_eq KK563 296 307 at_296 (by decide) (by decide) ?_ ?_
                                        · intro c578
                                          refine g_iload KK563 307 at_307 rfl ?_
                                          refine g_if_eq KK563 309 316 at_309 (by decide) (by decide) ?_ ?_
                                          · intro c579
                                            exact absurd c579 (by decide)
                                          · intro c579
                                            refine g_iconst KK563 312 (1 : Int32) at_312 (by decide) ?_
                                            refine g_goto KK563 313 317 at_313 (by decide) (by decide) ?_
                                            refine g_retN KK563 317 .boolean at_317 rfl (by simp) (by decide) (by decide) ?_
                                            rw [hQ]
                                            rfl
                                        · intro c578
                                          exact absurd c578 (by decide)
                                    · intro c576
                                      exact absurd c576 (by decide)
                                  · intro c575
                                    exact absurd c575 (by decide)
                        ·
                          have Z580 := Nat.le_trans Z550 Kp567.1
                          have F581 := A552.keep Kp567 nin0
                          refine go_cast (k' := ((0 + 1) + 2)) (n' := ((0 + 2) + 216)) (st' := [(.ref a565)]) rfl rfl rfl ?_
                          refine g_astore KK563 206 #[.val (.int p0), .val (.int p1), .val (.int p2), .val (.int p3), .val (.int p4), .val (.int p5), .val (.int v1), .val (.ref tx), .val (.int (2 : Int32)), .val (.int v504), .val (.int v505), .val (.int v506), .val (.int v507), .val (.ref a508), .val (.int z556), .val (.int z559), .val (.ref a565), .unset, .unset] at_206 rfl rfl ?_
                          refine g_aload KK563 208 at_208 rfl rfl ?_
                          refine g_ifnull_ref KK563 210 at_210 ?_
                          refine g_iconst KK563 213 (1 : Int32) at_213 (by decide) ?_
                          refine g_goto KK563 214 218 at_214 (by decide) (by decide) ?_
                          refine g_istore KK563 218 #[.val (.int p0), .val (.int p1), .val (.int p2), .val (.int p3), .val (.int p4), .val (.int p5), .val (.int v1), .val (.ref tx), .val (.int (2 : Int32)), .val (.int v504), .val (.int v505), .val (.int v506), .val (.int v507), .val (.ref a508), .val (.int z556), .val (.int z559), .val (.ref a565), .val (.int (1 : Int32)), .unset] at_218 rfl ?_
                          refine g_iload KK563 220 at_220 rfl ?_
                          refine g_iconst KK563 222 (1 : Int32) at_222 (by decide) ?_
                          refine g_ii_lt KK563 223 235 at_223 (by decide) (by decide) ?_ ?_
                          · intro c582
                            exact absurd c582 (by decide)
                          · intro c582
                            refine g_aload KK563 226 at_226 rfl rfl ?_
                            refine g_iconst KK563 228 (0 : Int32) at_228 (by decide) ?_
                            refine g_baload KK563 229 (nar .byte v504) at_229 F581 (by decide) (by rw [show (0 : Int32).toNatClampNeg = 0 from by decide]; rfl) ?_
                            refine g_iload KK563 230 at_230 rfl ?_
                            refine g_ii_ne KK563 232 284 at_232 (by decide) (by decide) ?_ ?_
                            · intro c583
                              exfalso
                              exact c583 (own_nar hv504)
                            · intro c583
                              refine g_iload KK563 235 at_235 rfl ?_
                              refine g_iconst KK563 237 (2 : Int32) at_237 (by decide) ?_
                              refine g_ii_lt KK563 238 250 at_238 (by decide) (by decide) ?_ ?_
                              · intro c584
                                exact absurd c584 (by decide)
                              · intro c584
                                refine g_aload KK563 241 at_241 rfl rfl ?_
                                refine g_iconst KK563 243 (1 : Int32) at_243 (by decide) ?_
                                refine g_baload KK563 244 (nar .byte v505) at_244 F581 (by decide) (by rw [show (1 : Int32).toNatClampNeg = 1 from by decide]; rfl) ?_
                                refine g_iload KK563 245 at_245 rfl ?_
                                refine g_ii_ne KK563 247 284 at_247 (by decide) (by decide) ?_ ?_
                                · intro c585
                                  exfalso
                                  exact c585 (own_nar hv505)
                                · intro c585
                                  refine g_iload KK563 250 at_250 rfl ?_
                                  refine g_iconst KK563 252 (3 : Int32) at_252 (by decide) ?_
                                  refine g_ii_lt KK563 253 265 at_253 (by decide) (by decide) ?_ ?_
                                  · intro c586
                                    refine g_iload KK563 265 at_265 rfl ?_
                                    refine g_iconst KK563 267 (4 : Int32) at_267 (by decide) ?_
                                    refine g_ii_lt KK563 268 280 at_268 (by decide) (by decide) ?_ ?_
                                    · intro c587
                                      refine g_iconst KK563 280 (1 : Int32) at_280 (by decide) ?_
                                      refine g_goto KK563 281 285 at_281 (by decide) (by decide) ?_
                                      refine g_istore KK563 285 #[.val (.int p0), .val (.int p1), .val (.int p2), .val (.int p3), .val (.int p4), .val (.int p5), .val (.int v1), .val (.ref tx), .val (.int (2 : Int32)), .val (.int v504), .val (.int v505), .val (.int v506), .val (.int v507), .val (.ref a508), .val (.int z556), .val (.int z559), .val (.ref a565), .val (.int (1 : Int32)), .val (.int (1 : Int32))] at_285 rfl ?_
                                      refine g_iload KK563 287 at_287 rfl ?_
                                      refine g_iload KK563 289 at_289 rfl ?_
                                      refine g_ii_ne KK563 291 316 at_291 (by decide) (by decide) ?_ ?_
                                      · intro c588
                                        exfalso
                                        rw [own_nar hv504, own_nar hv505] at hlf; rcases hlf with hlf | hlf <;> simp [hz559, hz556, hlf] at c588
                                      · intro c588
                                        refine g_iload KK563 294 at_294 rfl ?_
                                        refine g_if_eq KK563 296 307 at_296 (by decide) (by decide) ?_ ?_
                                        · intro c589
                                          exact absurd c589 (by decide)
                                        · intro c589
                                          refine g_aload KK563 299 at_299 rfl rfl ?_
                                          refine g_callV KK563 301 [] 0 at_301 (rm_isEmpty l Z a0 hw a565 h561 n0 Z580 own_txt b566 F569 A570) E568 (tw hw 24 rfl) (tw hw 25 rfl) (tw hw 27 rfl) (tw hw 27 rfl) (tw hw 26 rfl) (tw hw 18 rfl) (tw hw 28 rfl) (by decide) pd2 rfl (st := []) rfl (Nat.le_of_eq rfl) rfl (by decide) (by decide) (by decide) (by decide) ?_
                                          rintro _ _ ⟨hv, hh⟩
                                          rw [hv, hh]
                                          clear hv hh
                                          refine go_cast (k' := ((0 + 1) + 2)) (n' := ((0 + 2) + 216)) (st' := [(.int (f_isEmpty own_txt))]) rfl rfl rfl ?_
                                          refine g_if_ne KK563 304 316 at_304 (by decide) (by decide) ?_ ?_
                                          · intro c590
                                            exfalso
                                            exact c590 own_ie
                                          · intro c590
                                            refine g_iload KK563 307 at_307 rfl ?_
                                            refine g_if_eq KK563 309 316 at_309 (by decide) (by decide) ?_ ?_
                                            · intro c591
                                              exact absurd c591 (by decide)
                                            · intro c591
                                              refine g_iconst KK563 312 (1 : Int32) at_312 (by decide) ?_
                                              refine g_goto KK563 313 317 at_313 (by decide) (by decide) ?_
                                              refine g_retN KK563 317 .boolean at_317 rfl (by simp) (by decide) (by decide) ?_
                                              rw [hQ]
                                              rfl
                                    · intro c587
                                      exact absurd c587 (by decide)
                                  · intro c586
                                    exact absurd c586 (by decide)
                      refine g_if_eq K 189 196 at_189 (by decide) (by decide) ?_ ?_
                      · intro c592
                        refine g_iconst K 196 (0 : Int32) at_196 (by decide) ?_
                        exact J560 _ (by rw [if_pos c592])
                      · intro c592
                        refine g_iconst K 192 (1 : Int32) at_192 (by decide) ?_
                        refine g_goto K 193 197 at_193 (by decide) (by decide) ?_
                        exact J560 _ (by rw [if_neg c592])
                  refine g_ii_eq K 132 174 at_132 (by decide) (by decide) ?_ ?_
                  · intro c593
                    refine g_iconst K 174 (1 : Int32) at_174 (by decide) ?_
                    refine g_goto K 175 179 at_175 (by decide) (by decide) ?_
                    exact J557 _ (by rw [if_pos c593])
                  · intro c593
                    refine g_iload K 135 at_135 rfl ?_
                    refine g_iconst K 137 (1 : Int32) at_137 (by decide) ?_
                    refine g_ii_le K 138 148 at_138 (by decide) (by decide) ?_ ?_
                    · intro c594
                      exact absurd c594 (by decide)
                    · intro c594
                      refine g_iload K 141 at_141 rfl ?_
                      refine g_bipush K 143 (10 : Int32) at_143 (by decide) ?_
                      refine g_ii_eq K 145 174 at_145 (by decide) (by decide) ?_ ?_
                      · intro c595
                        refine g_iconst K 174 (1 : Int32) at_174 (by decide) ?_
                        refine g_goto K 175 179 at_175 (by decide) (by decide) ?_
                        exact J557 _ (by rw [if_neg c593, if_pos c595])
                      · intro c595
                        refine g_iload K 148 at_148 rfl ?_
                        refine g_iconst K 150 (2 : Int32) at_150 (by decide) ?_
                        refine g_ii_le K 151 161 at_151 (by decide) (by decide) ?_ ?_
                        · intro c596
                          refine g_iload K 161 at_161 rfl ?_
                          refine g_iconst K 163 (3 : Int32) at_163 (by decide) ?_
                          refine g_ii_le K 164 178 at_164 (by decide) (by decide) ?_ ?_
                          · intro c597
                            refine g_iconst K 178 (0 : Int32) at_178 (by decide) ?_
                            exact J557 _ (by rw [if_neg c593, if_neg c595])
                          · intro c597
                            exact absurd c597 (by decide)
                        · intro c596
                          exact absurd c596 (by decide)
              · intro c554
                exact absurd c554 (by decide)
            · intro c553
              exact absurd c553 (by decide)
      · rw [hn]
        refine g_istore K 42 #[.val (.int p0), .val (.int p1), .val (.int p2), .val (.int p3), .val (.int p4), .val (.int p5), .val (.int v1), .val (.ref tx), .val (.int (3 : Int32)), .unset, .unset, .unset, .unset, .unset, .unset, .unset, .unset, .unset, .unset] at_42 rfl ?_
        refine g_iloadN K 44 at_44 rfl ?_
        refine g_callS K 45 [(.int p2)] 0 at_45 (rm_pick l Z a0 hw p2 h0 n0 Z0  ) (tw hw 4 rfl) (tw hw 5 rfl) (tw hw 6 rfl) (tw hw 7 rfl) (by decide) pd0 rfl (st := []) rfl (Nat.le_of_eq rfl) rfl (by decide) (by decide) (by decide) (by decide) ?_
        rintro _ _ ⟨hv, hh⟩
        rw [hv, hh]
        clear hv hh
        refine go_cast (k' := 0) (n' := 0) (st' := [(.int (f_pick p2))]) rfl rfl rfl ?_
        generalize hv598 : (f_pick p2) = v598
        refine g_istore K 48 #[.val (.int p0), .val (.int p1), .val (.int p2), .val (.int p3), .val (.int p4), .val (.int p5), .val (.int v1), .val (.ref tx), .val (.int (3 : Int32)), .val (.int v598), .unset, .unset, .unset, .unset, .unset, .unset, .unset, .unset, .unset] at_48 rfl ?_
        refine g_iloadN K 50 at_50 rfl ?_
        refine g_callS K 51 [(.int p3)] 0 at_51 (rm_pick l Z a0 hw p3 h0 n0 Z0  ) (tw hw 4 rfl) (tw hw 5 rfl) (tw hw 6 rfl) (tw hw 7 rfl) (by decide) pd0 rfl (st := []) rfl (Nat.le_of_eq rfl) rfl (by decide) (by decide) (by decide) (by decide) ?_
        rintro _ _ ⟨hv, hh⟩
        rw [hv, hh]
        clear hv hh
        refine go_cast (k' := 0) (n' := 0) (st' := [(.int (f_pick p3))]) rfl rfl rfl ?_
        generalize hv599 : (f_pick p3) = v599
        refine g_istore K 54 #[.val (.int p0), .val (.int p1), .val (.int p2), .val (.int p3), .val (.int p4), .val (.int p5), .val (.int v1), .val (.ref tx), .val (.int (3 : Int32)), .val (.int v598), .val (.int v599), .unset, .unset, .unset, .unset, .unset, .unset, .unset, .unset] at_54 rfl ?_
        refine g_iload K 56 at_56 rfl ?_
        refine g_callS K 58 [(.int p4)] 0 at_58 (rm_pick l Z a0 hw p4 h0 n0 Z0  ) (tw hw 4 rfl) (tw hw 5 rfl) (tw hw 6 rfl) (tw hw 7 rfl) (by decide) pd0 rfl (st := []) rfl (Nat.le_of_eq rfl) rfl (by decide) (by decide) (by decide) (by decide) ?_
        rintro _ _ ⟨hv, hh⟩
        rw [hv, hh]
        clear hv hh
        refine go_cast (k' := 0) (n' := 0) (st' := [(.int (f_pick p4))]) rfl rfl rfl ?_
        generalize hv600 : (f_pick p4) = v600
        refine g_istore K 61 #[.val (.int p0), .val (.int p1), .val (.int p2), .val (.int p3), .val (.int p4), .val (.int p5), .val (.int v1), .val (.ref tx), .val (.int (3 : Int32)), .val (.int v598), .val (.int v599), .val (.int v600), .unset, .unset, .unset, .unset, .unset, .unset, .unset] at_61 rfl ?_
        refine g_iload K 63 at_63 rfl ?_
        refine g_callS K 65 [(.int p5)] 0 at_65 (rm_pick l Z a0 hw p5 h0 n0 Z0  ) (tw hw 4 rfl) (tw hw 5 rfl) (tw hw 6 rfl) (tw hw 7 rfl) (by decide) pd0 rfl (st := []) rfl (Nat.le_of_eq rfl) rfl (by decide) (by decide) (by decide) (by decide) ?_
        rintro _ _ ⟨hv, hh⟩
        rw [hv, hh]
        clear hv hh
        refine go_cast (k' := 0) (n' := 0) (st' := [(.int (f_pick p5))]) rfl rfl rfl ?_
        generalize hv601 : (f_pick p5) = v601
        refine g_istore K 68 #[.val (.int p0), .val (.int p1), .val (.int p2), .val (.int p3), .val (.int p4), .val (.int p5), .val (.int v1), .val (.ref tx), .val (.int (3 : Int32)), .val (.int v598), .val (.int v599), .val (.int v600), .val (.int v601), .unset, .unset, .unset, .unset, .unset, .unset] at_68 rfl ?_
        refine g_iload K 70 at_70 rfl ?_
        refine g_newI K 72 .byte at_72 rfl rfl (tw hw 8 rfl) (by decide) 3 (by decide) (by decide) (by decide) (by decide) ?_
        intro h603 a602 eq606 Kp604 A605
        have g607 : n0 ≤ a602 := eq606 ▸ Z0
        have fr608 : Z.heap.size ≤ a602 := eq606 ▸ KC0.1
        have ne609 : cd ≠ a602 := own_ne_of_lt E1.lt eq606
        have ne610 : tx ≠ a602 := own_ne_of_lt E2.lt eq606
        have ne611 : sq ≠ a602 := own_ne_of_lt E3.lt eq606
        have S612 := sta_keep S1 Kp604 all0
        have S613 := sta_keep S2 Kp604 all0
        have S614 := sta_keep S3 Kp604 all0
        have E615 := E1.keep Kp604
        have E616 := E2.keep Kp604
        have E617 := E3.keep Kp604
        have Z618 := Nat.le_trans Z0 Kp604.1
        have KC619 := KC0.trans Kp604 all0
        have A620 : IA Z h603 a602 .byte [0, 0, 0] := (by have q := A605; rw [show (3 : Int32).toNatClampNeg = 3 from by decide] at q; exact q)
        refine g_astore K 74 #[.val (.int p0), .val (.int p1), .val (.int p2), .val (.int p3), .val (.int p4), .val (.int p5), .val (.int v1), .val (.ref tx), .val (.int (3 : Int32)), .val (.int v598), .val (.int v599), .val (.int v600), .val (.int v601), .val (.ref a602), .unset, .unset, .unset, .unset, .unset] at_74 rfl rfl ?_
        refine g_iload K 76 at_76 rfl ?_
        refine g_if_le K 78 87 at_78 (by decide) (by decide) ?_ ?_
        · intro c621
          exact absurd c621 (by decide)
        · intro c621
          refine g_aload K 81 at_81 rfl rfl ?_
          refine g_iconst K 83 (0 : Int32) at_83 (by decide) ?_
          refine g_iload K 84 at_84 rfl ?_
          refine g_bastore K 86 at_86 A620 (by decide) (show (0 : Int32).toNatClampNeg < 3 from by decide) g607 ?_
          intro h622 Kp623 A624
          have S625 := sta_keep S612 Kp623 (allS A620.nst all0)
          have S626 := sta_keep S613 Kp623 (allS A620.nst all0)
          have S627 := sta_keep S614 Kp623 (allS A620.nst all0)
          have E628 := E615.keep Kp623
          have E629 := E616.keep Kp623
          have E630 := E617.keep Kp623
          have Z631 := Nat.le_trans Z618 Kp623.1
          have KC632 := KC619.trans Kp623 (allS (Or.inr fr608) all0)
          have A633 : IA Z h622 a602 .byte [nar .byte v598, 0, 0] := (by have q := A624; rw [show (0 : Int32).toNatClampNeg = 0 from by decide] at q; exact q)
          refine g_iload K 87 at_87 rfl ?_
          refine g_iconst K 89 (1 : Int32) at_89 (by decide) ?_
          refine g_ii_le K 90 99 at_90 (by decide) (by decide) ?_ ?_
          · intro c634
            exact absurd c634 (by decide)
          · intro c634
            refine g_aload K 93 at_93 rfl rfl ?_
            refine g_iconst K 95 (1 : Int32) at_95 (by decide) ?_
            refine g_iload K 96 at_96 rfl ?_
            refine g_bastore K 98 at_98 A633 (by decide) (show (1 : Int32).toNatClampNeg < 3 from by decide) g607 ?_
            intro h635 Kp636 A637
            have S638 := sta_keep S625 Kp636 (allS A633.nst all0)
            have S639 := sta_keep S626 Kp636 (allS A633.nst all0)
            have S640 := sta_keep S627 Kp636 (allS A633.nst all0)
            have E641 := E628.keep Kp636
            have E642 := E629.keep Kp636
            have E643 := E630.keep Kp636
            have Z644 := Nat.le_trans Z631 Kp636.1
            have KC645 := KC632.trans Kp636 (allS (Or.inr fr608) all0)
            have A646 : IA Z h635 a602 .byte [nar .byte v598, nar .byte v599, 0] := (by have q := A637; rw [show (1 : Int32).toNatClampNeg = 1 from by decide] at q; exact q)
            refine g_iload K 99 at_99 rfl ?_
            refine g_iconst K 101 (2 : Int32) at_101 (by decide) ?_
            refine g_ii_le K 102 111 at_102 (by decide) (by decide) ?_ ?_
            · intro c647
              exact absurd c647 (by decide)
            · intro c647
              refine g_aload K 105 at_105 rfl rfl ?_
              refine g_iconst K 107 (2 : Int32) at_107 (by decide) ?_
              refine g_iload K 108 at_108 rfl ?_
              refine g_bastore K 110 at_110 A646 (by decide) (show (2 : Int32).toNatClampNeg < 3 from by decide) g607 ?_
              intro h648 Kp649 A650
              have S651 := sta_keep S638 Kp649 (allS A646.nst all0)
              have S652 := sta_keep S639 Kp649 (allS A646.nst all0)
              have S653 := sta_keep S640 Kp649 (allS A646.nst all0)
              have E654 := E641.keep Kp649
              have E655 := E642.keep Kp649
              have E656 := E643.keep Kp649
              have Z657 := Nat.le_trans Z644 Kp649.1
              have KC658 := KC645.trans Kp649 (allS (Or.inr fr608) all0)
              have A659 : IA Z h648 a602 .byte [nar .byte v598, nar .byte v599, nar .byte v600] := (by have q := A650; rw [show (2 : Int32).toNatClampNeg = 2 from by decide] at q; exact q)
              refine g_iload K 111 at_111 rfl ?_
              refine g_iconst K 113 (3 : Int32) at_113 (by decide) ?_
              refine g_ii_le K 114 123 at_114 (by decide) (by decide) ?_ ?_
              · intro c660
                refine g_iload K 123 at_123 rfl ?_
                refine g_if_le K 125 135 at_125 (by decide) (by decide) ?_ ?_
                · intro c661
                  exact absurd c661 (by decide)
                · intro c661
                  refine g_iload K 128 at_128 rfl ?_
                  refine g_bipush K 130 (10 : Int32) at_130 (by decide) ?_
                  have J663 : ∀ (z662 : Int32), z662 = (if v598 = (10 : Int32) then (1 : Int32) else (if v599 = (10 : Int32) then (1 : Int32) else (if v600 = (10 : Int32) then (1 : Int32) else (0 : Int32)))) → Go p l e room_1 Z m #[(.int p0), (.int p1), (.int p2), (.int p3), (.int p4), (.int p5)] below meth c n0 (ReturnedEndW Z) Q h648 (0 + 1) (0 + 3) (mkF m 179 #[.val (.int p0), .val (.int p1), .val (.int p2), .val (.int p3), .val (.int p4), .val (.int p5), .val (.int v1), .val (.ref tx), .val (.int (3 : Int32)), .val (.int v598), .val (.int v599), .val (.int v600), .val (.int v601), .val (.ref a602), .unset, .unset, .unset, .unset, .unset] [(.int z662)]) := by
                    intro z662 hz662
                    refine g_istore K 179 #[.val (.int p0), .val (.int p1), .val (.int p2), .val (.int p3), .val (.int p4), .val (.int p5), .val (.int v1), .val (.ref tx), .val (.int (3 : Int32)), .val (.int v598), .val (.int v599), .val (.int v600), .val (.int v601), .val (.ref a602), .val (.int z662), .unset, .unset, .unset, .unset] at_179 rfl ?_
                    refine g_iload K 181 at_181 rfl ?_
                    refine g_iconst K 183 (1 : Int32) at_183 (by decide) ?_
                    refine g_ii_ne K 184 196 at_184 (by decide) (by decide) ?_ ?_
                    · intro c664
                      exact absurd c3 c664
                    · intro c664
                      refine g_iload K 187 at_187 rfl ?_
                      have J666 : ∀ (z665 : Int32), z665 = (if z662 = 0 then (0 : Int32) else (1 : Int32)) → Go p l e room_1 Z m #[(.int p0), (.int p1), (.int p2), (.int p3), (.int p4), (.int p5)] below meth c n0 (ReturnedEndW Z) Q h648 (0 + 1) (0 + 3) (mkF m 197 #[.val (.int p0), .val (.int p1), .val (.int p2), .val (.int p3), .val (.int p4), .val (.int p5), .val (.int v1), .val (.ref tx), .val (.int (3 : Int32)), .val (.int v598), .val (.int v599), .val (.int v600), .val (.int v601), .val (.ref a602), .val (.int z662), .unset, .unset, .unset, .unset] [(.int z665)]) := by
                        intro z665 hz665
                        refine g_istore K 197 #[.val (.int p0), .val (.int p1), .val (.int p2), .val (.int p3), .val (.int p4), .val (.int p5), .val (.int v1), .val (.ref tx), .val (.int (3 : Int32)), .val (.int v598), .val (.int v599), .val (.int v600), .val (.int v601), .val (.ref a602), .val (.int z662), .val (.int z665), .unset, .unset, .unset] at_197 rfl ?_
                        refine g_aload K 199 at_199 rfl rfl ?_
                        refine g_aload K 201 at_201 rfl rfl ?_
                        refine g_callVW K 203 [(.ref a602)] 0 at_203 (rm_ref3 l Z a0 hw tx a602 h648 (nar .byte v598) (nar .byte v599) (nar .byte v600) A659 S652 (fun b cl q => KC658.2.1 b cl q nin0) hh hcw) Z657 E655 (tw hw 9 rfl) (tw hw 10 rfl) (tw hw 12 rfl) (tw hw 12 rfl) (tw hw 11 rfl) (tw hw 2 rfl) (tw hw 13 rfl) (by decide) pd1 rfl (st := []) rfl (Nat.le_of_eq rfl) rfl (by decide) (by decide) (by decide) (by decide) rfl ?_
                        intro v h667 vm668 hq hs670 KK669
                        rcases hq with ⟨rfl, rfl, hlf⟩ | ⟨a671, b672, rfl, Kp673, E674, F675, A676, hlf⟩
                        ·
                          refine go_cast (k' := ((0 + 1) + 2)) (n' := ((0 + 3) + 216)) (st' := [.null]) rfl rfl rfl ?_
                          refine g_astore KK669 206 #[.val (.int p0), .val (.int p1), .val (.int p2), .val (.int p3), .val (.int p4), .val (.int p5), .val (.int v1), .val (.ref tx), .val (.int (3 : Int32)), .val (.int v598), .val (.int v599), .val (.int v600), .val (.int v601), .val (.ref a602), .val (.int z662), .val (.int z665), .val .null, .unset, .unset] at_206 rfl rfl ?_
                          refine g_aload KK669 208 at_208 rfl rfl ?_
                          refine g_ifnull_null KK669 210 217 at_210 (by decide) (by decide) ?_
                          refine g_iconst KK669 217 (0 : Int32) at_217 (by decide) ?_
                          refine g_istore KK669 218 #[.val (.int p0), .val (.int p1), .val (.int p2), .val (.int p3), .val (.int p4), .val (.int p5), .val (.int v1), .val (.ref tx), .val (.int (3 : Int32)), .val (.int v598), .val (.int v599), .val (.int v600), .val (.int v601), .val (.ref a602), .val (.int z662), .val (.int z665), .val .null, .val (.int (0 : Int32)), .unset] at_218 rfl ?_
                          refine g_iload KK669 220 at_220 rfl ?_
                          refine g_iconst KK669 222 (1 : Int32) at_222 (by decide) ?_
                          refine g_ii_lt KK669 223 235 at_223 (by decide) (by decide) ?_ ?_
                          · intro c677
                            exact absurd c677 (by decide)
                          · intro c677
                            refine g_aload KK669 226 at_226 rfl rfl ?_
                            refine g_iconst KK669 228 (0 : Int32) at_228 (by decide) ?_
                            refine g_baload KK669 229 (nar .byte v598) at_229 A659 (by decide) (by rw [show (0 : Int32).toNatClampNeg = 0 from by decide]; rfl) ?_
                            refine g_iload KK669 230 at_230 rfl ?_
                            refine g_ii_ne KK669 232 284 at_232 (by decide) (by decide) ?_ ?_
                            · intro c678
                              exfalso
                              exact c678 (own_nar hv598)
                            · intro c678
                              refine g_iload KK669 235 at_235 rfl ?_
                              refine g_iconst KK669 237 (2 : Int32) at_237 (by decide) ?_
                              refine g_ii_lt KK669 238 250 at_238 (by decide) (by decide) ?_ ?_
                              · intro c679
                                exact absurd c679 (by decide)
                              · intro c679
                                refine g_aload KK669 241 at_241 rfl rfl ?_
                                refine g_iconst KK669 243 (1 : Int32) at_243 (by decide) ?_
                                refine g_baload KK669 244 (nar .byte v599) at_244 A659 (by decide) (by rw [show (1 : Int32).toNatClampNeg = 1 from by decide]; rfl) ?_
                                refine g_iload KK669 245 at_245 rfl ?_
                                refine g_ii_ne KK669 247 284 at_247 (by decide) (by decide) ?_ ?_
                                · intro c680
                                  exfalso
                                  exact c680 (own_nar hv599)
                                · intro c680
                                  refine g_iload KK669 250 at_250 rfl ?_
                                  refine g_iconst KK669 252 (3 : Int32) at_252 (by decide) ?_
                                  refine g_ii_lt KK669 253 265 at_253 (by decide) (by decide) ?_ ?_
                                  · intro c681
                                    exact absurd c681 (by decide)
                                  · intro c681
                                    refine g_aload KK669 256 at_256 rfl rfl ?_
                                    refine g_iconst KK669 258 (2 : Int32) at_258 (by decide) ?_
                                    refine g_baload KK669 259 (nar .byte v600) at_259 A659 (by decide) (by rw [show (2 : Int32).toNatClampNeg = 2 from by decide]; rfl) ?_
                                    refine g_iload KK669 260 at_260 rfl ?_
                                    refine g_ii_ne KK669 262 284 at_262 (by decide) (by decide) ?_ ?_
                                    · intro c682
                                      exfalso
                                      exact c682 (own_nar hv600)
                                    · intro c682
                                      refine g_iload KK669 265 at_265 rfl ?_
                                      refine g_iconst KK669 267 (4 : Int32) at_267 (by decide) ?_
                                      refine g_ii_lt KK669 268 280 at_268 (by decide) (by decide) ?_ ?_
                                      · intro c683
                                        refine g_iconst KK669 280 (1 : Int32) at_280 (by decide) ?_
                                        refine g_goto KK669 281 285 at_281 (by decide) (by decide) ?_
                                        refine g_istore KK669 285 #[.val (.int p0), .val (.int p1), .val (.int p2), .val (.int p3), .val (.int p4), .val (.int p5), .val (.int v1), .val (.ref tx), .val (.int (3 : Int32)), .val (.int v598), .val (.int v599), .val (.int v600), .val (.int v601), .val (.ref a602), .val (.int z662), .val (.int z665), .val .null, .val (.int (0 : Int32)), .val (.int (1 : Int32))] at_285 rfl ?_
                                        refine g_iload KK669 287 at_287 rfl ?_
                                        refine g_iload KK669 289 at_289 rfl ?_
                                        refine g_ii_ne KK669 291 316 at_291 (by decide) (by decide) ?_ ?_
                                        · intro c684
                                          exfalso
                                          rw [own_nar hv598, own_nar hv599, own_nar hv600] at hlf; simp only [not_or] at hlf; simp [hz665, hz662, hlf] at c684
                                        · intro c684
                                          refine g_iload KK669 294 at_294 rfl ?_
                                          refine g_if_eq KK669 296 307 at_296 (by decide) (by decide) ?_ ?_
                                          · intro c685
                                            refine g_iload KK669 307 at_307 rfl ?_
                                            refine g_if_eq KK669 309 316 at_309 (by decide) (by decide) ?_ ?_
                                            · intro c686
                                              exact absurd c686 (by decide)
                                            · intro c686
                                              refine g_iconst KK669 312 (1 : Int32) at_312 (by decide) ?_
                                              refine g_goto KK669 313 317 at_313 (by decide) (by decide) ?_
                                              refine g_retN KK669 317 .boolean at_317 rfl (by simp) (by decide) (by decide) ?_
                                              rw [hQ]
                                              rfl
                                          · intro c685
                                            exact absurd c685 (by decide)
                                      · intro c683
                                        exact absurd c683 (by decide)
                        ·
                          have Z687 := Nat.le_trans Z657 Kp673.1
                          have F688 := A659.keep Kp673 nin0
                          refine go_cast (k' := ((0 + 1) + 2)) (n' := ((0 + 3) + 216)) (st' := [(.ref a671)]) rfl rfl rfl ?_
                          refine g_astore KK669 206 #[.val (.int p0), .val (.int p1), .val (.int p2), .val (.int p3), .val (.int p4), .val (.int p5), .val (.int v1), .val (.ref tx), .val (.int (3 : Int32)), .val (.int v598), .val (.int v599), .val (.int v600), .val (.int v601), .val (.ref a602), .val (.int z662), .val (.int z665), .val (.ref a671), .unset, .unset] at_206 rfl rfl ?_
                          refine g_aload KK669 208 at_208 rfl rfl ?_
                          refine g_ifnull_ref KK669 210 at_210 ?_
                          refine g_iconst KK669 213 (1 : Int32) at_213 (by decide) ?_
                          refine g_goto KK669 214 218 at_214 (by decide) (by decide) ?_
                          refine g_istore KK669 218 #[.val (.int p0), .val (.int p1), .val (.int p2), .val (.int p3), .val (.int p4), .val (.int p5), .val (.int v1), .val (.ref tx), .val (.int (3 : Int32)), .val (.int v598), .val (.int v599), .val (.int v600), .val (.int v601), .val (.ref a602), .val (.int z662), .val (.int z665), .val (.ref a671), .val (.int (1 : Int32)), .unset] at_218 rfl ?_
                          refine g_iload KK669 220 at_220 rfl ?_
                          refine g_iconst KK669 222 (1 : Int32) at_222 (by decide) ?_
                          refine g_ii_lt KK669 223 235 at_223 (by decide) (by decide) ?_ ?_
                          · intro c689
                            exact absurd c689 (by decide)
                          · intro c689
                            refine g_aload KK669 226 at_226 rfl rfl ?_
                            refine g_iconst KK669 228 (0 : Int32) at_228 (by decide) ?_
                            refine g_baload KK669 229 (nar .byte v598) at_229 F688 (by decide) (by rw [show (0 : Int32).toNatClampNeg = 0 from by decide]; rfl) ?_
                            refine g_iload KK669 230 at_230 rfl ?_
                            refine g_ii_ne KK669 232 284 at_232 (by decide) (by decide) ?_ ?_
                            · intro c690
                              exfalso
                              exact c690 (own_nar hv598)
                            · intro c690
                              refine g_iload KK669 235 at_235 rfl ?_
                              refine g_iconst KK669 237 (2 : Int32) at_237 (by decide) ?_
                              refine g_ii_lt KK669 238 250 at_238 (by decide) (by decide) ?_ ?_
                              · intro c691
                                exact absurd c691 (by decide)
                              · intro c691
                                refine g_aload KK669 241 at_241 rfl rfl ?_
                                refine g_iconst KK669 243 (1 : Int32) at_243 (by decide) ?_
                                refine g_baload KK669 244 (nar .byte v599) at_244 F688 (by decide) (by rw [show (1 : Int32).toNatClampNeg = 1 from by decide]; rfl) ?_
                                refine g_iload KK669 245 at_245 rfl ?_
                                refine g_ii_ne KK669 247 284 at_247 (by decide) (by decide) ?_ ?_
                                · intro c692
                                  exfalso
                                  exact c692 (own_nar hv599)
                                · intro c692
                                  refine g_iload KK669 250 at_250 rfl ?_
                                  refine g_iconst KK669 252 (3 : Int32) at_252 (by decide) ?_
                                  refine g_ii_lt KK669 253 265 at_253 (by decide) (by decide) ?_ ?_
                                  · intro c693
                                    exact absurd c693 (by decide)
                                  · intro c693
                                    refine g_aload KK669 256 at_256 rfl rfl ?_
                                    refine g_iconst KK669 258 (2 : Int32) at_258 (by decide) ?_
                                    refine g_baload KK669 259 (nar .byte v600) at_259 F688 (by decide) (by rw [show (2 : Int32).toNatClampNeg = 2 from by decide]; rfl) ?_
                                    refine g_iload KK669 260 at_260 rfl ?_
                                    refine g_ii_ne KK669 262 284 at_262 (by decide) (by decide) ?_ ?_
                                    · intro c694
                                      exfalso
                                      exact c694 (own_nar hv600)
                                    · intro c694
                                      refine g_iload KK669 265 at_265 rfl ?_
                                      refine g_iconst KK669 267 (4 : Int32) at_267 (by decide) ?_
                                      refine g_ii_lt KK669 268 280 at_268 (by decide) (by decide) ?_ ?_
                                      · intro c695
                                        refine g_iconst KK669 280 (1 : Int32) at_280 (by decide) ?_
                                        refine g_goto KK669 281 285 at_281 (by decide) (by decide) ?_
                                        refine g_istore KK669 285 #[.val (.int p0), .val (.int p1), .val (.int p2), .val (.int p3), .val (.int p4), .val (.int p5), .val (.int v1), .val (.ref tx), .val (.int (3 : Int32)), .val (.int v598), .val (.int v599), .val (.int v600), .val (.int v601), .val (.ref a602), .val (.int z662), .val (.int z665), .val (.ref a671), .val (.int (1 : Int32)), .val (.int (1 : Int32))] at_285 rfl ?_
                                        refine g_iload KK669 287 at_287 rfl ?_
                                        refine g_iload KK669 289 at_289 rfl ?_
                                        refine g_ii_ne KK669 291 316 at_291 (by decide) (by decide) ?_ ?_
                                        · intro c696
                                          exfalso
                                          rw [own_nar hv598, own_nar hv599, own_nar hv600] at hlf; rcases hlf with hlf | hlf | hlf <;> simp [hz665, hz662, hlf] at c696
                                        · intro c696
                                          refine g_iload KK669 294 at_294 rfl ?_
                                          refine g_if_eq KK669 296 307 at_296 (by decide) (by decide) ?_ ?_
                                          · intro c697
                                            exact absurd c697 (by decide)
                                          · intro c697
                                            refine g_aload KK669 299 at_299 rfl rfl ?_
                                            refine g_callV KK669 301 [] 0 at_301 (rm_isEmpty l Z a0 hw a671 h667 n0 Z687 own_txt b672 F675 A676) E674 (tw hw 24 rfl) (tw hw 25 rfl) (tw hw 27 rfl) (tw hw 27 rfl) (tw hw 26 rfl) (tw hw 18 rfl) (tw hw 28 rfl) (by decide) pd2 rfl (st := []) rfl (Nat.le_of_eq rfl) rfl (by decide) (by decide) (by decide) (by decide) ?_
                                            rintro _ _ ⟨hv, hh⟩
                                            rw [hv, hh]
                                            clear hv hh
                                            refine go_cast (k' := ((0 + 1) + 2)) (n' := ((0 + 3) + 216)) (st' := [(.int (f_isEmpty own_txt))]) rfl rfl rfl ?_
                                            refine g_if_ne KK669 304 316 at_304 (by decide) (by decide) ?_ ?_
                                            · intro c698
                                              exfalso
                                              exact c698 own_ie
                                            · intro c698
                                              refine g_iload KK669 307 at_307 rfl ?_
                                              refine g_if_eq KK669 309 316 at_309 (by decide) (by decide) ?_ ?_
                                              · intro c699
                                                exact absurd c699 (by decide)
                                              · intro c699
                                                refine g_iconst KK669 312 (1 : Int32) at_312 (by decide) ?_
                                                refine g_goto KK669 313 317 at_313 (by decide) (by decide) ?_
                                                refine g_retN KK669 317 .boolean at_317 rfl (by simp) (by decide) (by decide) ?_
                                                rw [hQ]
                                                rfl
                                      · intro c695
                                        exact absurd c695 (by decide)
                      refine g_if_eq K 189 196 at_189 (by decide) (by decide) ?_ ?_
                      · intro c700
                        refine g_iconst K 196 (0 : Int32) at_196 (by decide) ?_
                        exact J666 _ (by rw [if_pos c700])
                      · intro c700
                        refine g_iconst K 192 (1 : Int32) at_192 (by decide) ?_
                        refine g_goto K 193 197 at_193 (by decide) (by decide) ?_
                        exact J666 _ (by rw [if_neg c700])
                  refine g_ii_eq K 132 174 at_132 (by decide) (by decide) ?_ ?_
                  · intro c701
                    refine g_iconst K 174 (1 : Int32) at_174 (by decide) ?_
                    refine g_goto K 175 179 at_175 (by decide) (by decide) ?_
                    exact J663 _ (by rw [if_pos c701])
                  · intro c701
                    refine g_iload K 135 at_135 rfl ?_
                    refine g_iconst K 137 (1 : Int32) at_137 (by decide) ?_
                    refine g_ii_le K 138 148 at_138 (by decide) (by decide) ?_ ?_
                    · intro c702
                      exact absurd c702 (by decide)
                    · intro c702
                      refine g_iload K 141 at_141 rfl ?_
                      refine g_bipush K 143 (10 : Int32) at_143 (by decide) ?_
                      refine g_ii_eq K 145 174 at_145 (by decide) (by decide) ?_ ?_
                      · intro c703
                        refine g_iconst K 174 (1 : Int32) at_174 (by decide) ?_
                        refine g_goto K 175 179 at_175 (by decide) (by decide) ?_
                        exact J663 _ (by rw [if_neg c701, if_pos c703])
                      · intro c703
                        refine g_iload K 148 at_148 rfl ?_
                        refine g_iconst K 150 (2 : Int32) at_150 (by decide) ?_
                        refine g_ii_le K 151 161 at_151 (by decide) (by decide) ?_ ?_
                        · intro c704
                          exact absurd c704 (by decide)
                        · intro c704
                          refine g_iload K 154 at_154 rfl ?_
                          refine g_bipush K 156 (10 : Int32) at_156 (by decide) ?_
                          refine g_ii_eq K 158 174 at_158 (by decide) (by decide) ?_ ?_
                          · intro c705
                            refine g_iconst K 174 (1 : Int32) at_174 (by decide) ?_
                            refine g_goto K 175 179 at_175 (by decide) (by decide) ?_
                            exact J663 _ (by rw [if_neg c701, if_neg c703, if_pos c705])
                          · intro c705
                            refine g_iload K 161 at_161 rfl ?_
                            refine g_iconst K 163 (3 : Int32) at_163 (by decide) ?_
                            refine g_ii_le K 164 178 at_164 (by decide) (by decide) ?_ ?_
                            · intro c706
                              refine g_iconst K 178 (0 : Int32) at_178 (by decide) ?_
                              exact J663 _ (by rw [if_neg c701, if_neg c703, if_neg c705])
                            · intro c706
                              exact absurd c706 (by decide)
              · intro c660
                exact absurd c660 (by decide)
      · rw [hn]
        refine g_istore K 42 #[.val (.int p0), .val (.int p1), .val (.int p2), .val (.int p3), .val (.int p4), .val (.int p5), .val (.int v1), .val (.ref tx), .val (.int (4 : Int32)), .unset, .unset, .unset, .unset, .unset, .unset, .unset, .unset, .unset, .unset] at_42 rfl ?_
        refine g_iloadN K 44 at_44 rfl ?_
        refine g_callS K 45 [(.int p2)] 0 at_45 (rm_pick l Z a0 hw p2 h0 n0 Z0  ) (tw hw 4 rfl) (tw hw 5 rfl) (tw hw 6 rfl) (tw hw 7 rfl) (by decide) pd0 rfl (st := []) rfl (Nat.le_of_eq rfl) rfl (by decide) (by decide) (by decide) (by decide) ?_
        rintro _ _ ⟨hv, hh⟩
        rw [hv, hh]
        clear hv hh
        refine go_cast (k' := 0) (n' := 0) (st' := [(.int (f_pick p2))]) rfl rfl rfl ?_
        generalize hv707 : (f_pick p2) = v707
        refine g_istore K 48 #[.val (.int p0), .val (.int p1), .val (.int p2), .val (.int p3), .val (.int p4), .val (.int p5), .val (.int v1), .val (.ref tx), .val (.int (4 : Int32)), .val (.int v707), .unset, .unset, .unset, .unset, .unset, .unset, .unset, .unset, .unset] at_48 rfl ?_
        refine g_iloadN K 50 at_50 rfl ?_
        refine g_callS K 51 [(.int p3)] 0 at_51 (rm_pick l Z a0 hw p3 h0 n0 Z0  ) (tw hw 4 rfl) (tw hw 5 rfl) (tw hw 6 rfl) (tw hw 7 rfl) (by decide) pd0 rfl (st := []) rfl (Nat.le_of_eq rfl) rfl (by decide) (by decide) (by decide) (by decide) ?_
        rintro _ _ ⟨hv, hh⟩
        rw [hv, hh]
        clear hv hh
        refine go_cast (k' := 0) (n' := 0) (st' := [(.int (f_pick p3))]) rfl rfl rfl ?_
        generalize hv708 : (f_pick p3) = v708
        refine g_istore K 54 #[.val (.int p0), .val (.int p1), .val (.int p2), .val (.int p3), .val (.int p4), .val (.int p5), .val (.int v1), .val (.ref tx), .val (.int (4 : Int32)), .val (.int v707), .val (.int v708), .unset, .unset, .unset, .unset, .unset, .unset, .unset, .unset] at_54 rfl ?_
        refine g_iload K 56 at_56 rfl ?_
        refine g_callS K 58 [(.int p4)] 0 at_58 (rm_pick l Z a0 hw p4 h0 n0 Z0  ) (tw hw 4 rfl) (tw hw 5 rfl) (tw hw 6 rfl) (tw hw 7 rfl) (by decide) pd0 rfl (st := []) rfl (Nat.le_of_eq rfl) rfl (by decide) (by decide) (by decide) (by decide) ?_
        rintro _ _ ⟨hv, hh⟩
        rw [hv, hh]
        clear hv hh
        refine go_cast (k' := 0) (n' := 0) (st' := [(.int (f_pick p4))]) rfl rfl rfl ?_
        generalize hv709 : (f_pick p4) = v709
        refine g_istore K 61 #[.val (.int p0), .val (.int p1), .val (.int p2), .val (.int p3), .val (.int p4), .val (.int p5), .val (.int v1), .val (.ref tx), .val (.int (4 : Int32)), .val (.int v707), .val (.int v708), .val (.int v709), .unset, .unset, .unset, .unset, .unset, .unset, .unset] at_61 rfl ?_
        refine g_iload K 63 at_63 rfl ?_
        refine g_callS K 65 [(.int p5)] 0 at_65 (rm_pick l Z a0 hw p5 h0 n0 Z0  ) (tw hw 4 rfl) (tw hw 5 rfl) (tw hw 6 rfl) (tw hw 7 rfl) (by decide) pd0 rfl (st := []) rfl (Nat.le_of_eq rfl) rfl (by decide) (by decide) (by decide) (by decide) ?_
        rintro _ _ ⟨hv, hh⟩
        rw [hv, hh]
        clear hv hh
        refine go_cast (k' := 0) (n' := 0) (st' := [(.int (f_pick p5))]) rfl rfl rfl ?_
        generalize hv710 : (f_pick p5) = v710
        refine g_istore K 68 #[.val (.int p0), .val (.int p1), .val (.int p2), .val (.int p3), .val (.int p4), .val (.int p5), .val (.int v1), .val (.ref tx), .val (.int (4 : Int32)), .val (.int v707), .val (.int v708), .val (.int v709), .val (.int v710), .unset, .unset, .unset, .unset, .unset, .unset] at_68 rfl ?_
        refine g_iload K 70 at_70 rfl ?_
        refine g_newI K 72 .byte at_72 rfl rfl (tw hw 8 rfl) (by decide) 4 (by decide) (by decide) (by decide) (by decide) ?_
        intro h712 a711 eq715 Kp713 A714
        have g716 : n0 ≤ a711 := eq715 ▸ Z0
        have fr717 : Z.heap.size ≤ a711 := eq715 ▸ KC0.1
        have ne718 : cd ≠ a711 := own_ne_of_lt E1.lt eq715
        have ne719 : tx ≠ a711 := own_ne_of_lt E2.lt eq715
        have ne720 : sq ≠ a711 := own_ne_of_lt E3.lt eq715
        have S721 := sta_keep S1 Kp713 all0
        have S722 := sta_keep S2 Kp713 all0
        have S723 := sta_keep S3 Kp713 all0
        have E724 := E1.keep Kp713
        have E725 := E2.keep Kp713
        have E726 := E3.keep Kp713
        have Z727 := Nat.le_trans Z0 Kp713.1
        have KC728 := KC0.trans Kp713 all0
        have A729 : IA Z h712 a711 .byte [0, 0, 0, 0] := (by have q := A714; rw [show (4 : Int32).toNatClampNeg = 4 from by decide] at q; exact q)
        refine g_astore K 74 #[.val (.int p0), .val (.int p1), .val (.int p2), .val (.int p3), .val (.int p4), .val (.int p5), .val (.int v1), .val (.ref tx), .val (.int (4 : Int32)), .val (.int v707), .val (.int v708), .val (.int v709), .val (.int v710), .val (.ref a711), .unset, .unset, .unset, .unset, .unset] at_74 rfl rfl ?_
        refine g_iload K 76 at_76 rfl ?_
        refine g_if_le K 78 87 at_78 (by decide) (by decide) ?_ ?_
        · intro c730
          exact absurd c730 (by decide)
        · intro c730
          refine g_aload K 81 at_81 rfl rfl ?_
          refine g_iconst K 83 (0 : Int32) at_83 (by decide) ?_
          refine g_iload K 84 at_84 rfl ?_
          refine g_bastore K 86 at_86 A729 (by decide) (show (0 : Int32).toNatClampNeg < 4 from by decide) g716 ?_
          intro h731 Kp732 A733
          have S734 := sta_keep S721 Kp732 (allS A729.nst all0)
          have S735 := sta_keep S722 Kp732 (allS A729.nst all0)
          have S736 := sta_keep S723 Kp732 (allS A729.nst all0)
          have E737 := E724.keep Kp732
          have E738 := E725.keep Kp732
          have E739 := E726.keep Kp732
          have Z740 := Nat.le_trans Z727 Kp732.1
          have KC741 := KC728.trans Kp732 (allS (Or.inr fr717) all0)
          have A742 : IA Z h731 a711 .byte [nar .byte v707, 0, 0, 0] := (by have q := A733; rw [show (0 : Int32).toNatClampNeg = 0 from by decide] at q; exact q)
          refine g_iload K 87 at_87 rfl ?_
          refine g_iconst K 89 (1 : Int32) at_89 (by decide) ?_
          refine g_ii_le K 90 99 at_90 (by decide) (by decide) ?_ ?_
          · intro c743
            exact absurd c743 (by decide)
          · intro c743
            refine g_aload K 93 at_93 rfl rfl ?_
            refine g_iconst K 95 (1 : Int32) at_95 (by decide) ?_
            refine g_iload K 96 at_96 rfl ?_
            refine g_bastore K 98 at_98 A742 (by decide) (show (1 : Int32).toNatClampNeg < 4 from by decide) g716 ?_
            intro h744 Kp745 A746
            have S747 := sta_keep S734 Kp745 (allS A742.nst all0)
            have S748 := sta_keep S735 Kp745 (allS A742.nst all0)
            have S749 := sta_keep S736 Kp745 (allS A742.nst all0)
            have E750 := E737.keep Kp745
            have E751 := E738.keep Kp745
            have E752 := E739.keep Kp745
            have Z753 := Nat.le_trans Z740 Kp745.1
            have KC754 := KC741.trans Kp745 (allS (Or.inr fr717) all0)
            have A755 : IA Z h744 a711 .byte [nar .byte v707, nar .byte v708, 0, 0] := (by have q := A746; rw [show (1 : Int32).toNatClampNeg = 1 from by decide] at q; exact q)
            refine g_iload K 99 at_99 rfl ?_
            refine g_iconst K 101 (2 : Int32) at_101 (by decide) ?_
            refine g_ii_le K 102 111 at_102 (by decide) (by decide) ?_ ?_
            · intro c756
              exact absurd c756 (by decide)
            · intro c756
              refine g_aload K 105 at_105 rfl rfl ?_
              refine g_iconst K 107 (2 : Int32) at_107 (by decide) ?_
              refine g_iload K 108 at_108 rfl ?_
              refine g_bastore K 110 at_110 A755 (by decide) (show (2 : Int32).toNatClampNeg < 4 from by decide) g716 ?_
              intro h757 Kp758 A759
              have S760 := sta_keep S747 Kp758 (allS A755.nst all0)
              have S761 := sta_keep S748 Kp758 (allS A755.nst all0)
              have S762 := sta_keep S749 Kp758 (allS A755.nst all0)
              have E763 := E750.keep Kp758
              have E764 := E751.keep Kp758
              have E765 := E752.keep Kp758
              have Z766 := Nat.le_trans Z753 Kp758.1
              have KC767 := KC754.trans Kp758 (allS (Or.inr fr717) all0)
              have A768 : IA Z h757 a711 .byte [nar .byte v707, nar .byte v708, nar .byte v709, 0] := (by have q := A759; rw [show (2 : Int32).toNatClampNeg = 2 from by decide] at q; exact q)
              refine g_iload K 111 at_111 rfl ?_
              refine g_iconst K 113 (3 : Int32) at_113 (by decide) ?_
              refine g_ii_le K 114 123 at_114 (by decide) (by decide) ?_ ?_
              · intro c769
                exact absurd c769 (by decide)
              · intro c769
                refine g_aload K 117 at_117 rfl rfl ?_
                refine g_iconst K 119 (3 : Int32) at_119 (by decide) ?_
                refine g_iload K 120 at_120 rfl ?_
                refine g_bastore K 122 at_122 A768 (by decide) (show (3 : Int32).toNatClampNeg < 4 from by decide) g716 ?_
                intro h770 Kp771 A772
                have S773 := sta_keep S760 Kp771 (allS A768.nst all0)
                have S774 := sta_keep S761 Kp771 (allS A768.nst all0)
                have S775 := sta_keep S762 Kp771 (allS A768.nst all0)
                have E776 := E763.keep Kp771
                have E777 := E764.keep Kp771
                have E778 := E765.keep Kp771
                have Z779 := Nat.le_trans Z766 Kp771.1
                have KC780 := KC767.trans Kp771 (allS (Or.inr fr717) all0)
                have A781 : IA Z h770 a711 .byte [nar .byte v707, nar .byte v708, nar .byte v709, nar .byte v710] := (by have q := A772; rw [show (3 : Int32).toNatClampNeg = 3 from by decide] at q; exact q)
                refine g_iload K 123 at_123 rfl ?_
                refine g_if_le K 125 135 at_125 (by decide) (by decide) ?_ ?_
                · intro c782
                  exact absurd c782 (by decide)
                · intro c782
                  refine g_iload K 128 at_128 rfl ?_
                  refine g_bipush K 130 (10 : Int32) at_130 (by decide) ?_
                  have J784 : ∀ (z783 : Int32), z783 = (if v707 = (10 : Int32) then (1 : Int32) else (if v708 = (10 : Int32) then (1 : Int32) else (if v709 = (10 : Int32) then (1 : Int32) else (if v710 = (10 : Int32) then (1 : Int32) else (0 : Int32))))) → Go p l e room_1 Z m #[(.int p0), (.int p1), (.int p2), (.int p3), (.int p4), (.int p5)] below meth c n0 (ReturnedEndW Z) Q h770 (0 + 1) (0 + 4) (mkF m 179 #[.val (.int p0), .val (.int p1), .val (.int p2), .val (.int p3), .val (.int p4), .val (.int p5), .val (.int v1), .val (.ref tx), .val (.int (4 : Int32)), .val (.int v707), .val (.int v708), .val (.int v709), .val (.int v710), .val (.ref a711), .unset, .unset, .unset, .unset, .unset] [(.int z783)]) := by
                    intro z783 hz783
                    refine g_istore K 179 #[.val (.int p0), .val (.int p1), .val (.int p2), .val (.int p3), .val (.int p4), .val (.int p5), .val (.int v1), .val (.ref tx), .val (.int (4 : Int32)), .val (.int v707), .val (.int v708), .val (.int v709), .val (.int v710), .val (.ref a711), .val (.int z783), .unset, .unset, .unset, .unset] at_179 rfl ?_
                    refine g_iload K 181 at_181 rfl ?_
                    refine g_iconst K 183 (1 : Int32) at_183 (by decide) ?_
                    refine g_ii_ne K 184 196 at_184 (by decide) (by decide) ?_ ?_
                    · intro c785
                      exact absurd c3 c785
                    · intro c785
                      refine g_iload K 187 at_187 rfl ?_
                      have J787 : ∀ (z786 : Int32), z786 = (if z783 = 0 then (0 : Int32) else (1 : Int32)) → Go p l e room_1 Z m #[(.int p0), (.int p1), (.int p2), (.int p3), (.int p4), (.int p5)] below meth c n0 (ReturnedEndW Z) Q h770 (0 + 1) (0 + 4) (mkF m 197 #[.val (.int p0), .val (.int p1), .val (.int p2), .val (.int p3), .val (.int p4), .val (.int p5), .val (.int v1), .val (.ref tx), .val (.int (4 : Int32)), .val (.int v707), .val (.int v708), .val (.int v709), .val (.int v710), .val (.ref a711), .val (.int z783), .unset, .unset, .unset, .unset] [(.int z786)]) := by
                        intro z786 hz786
                        refine g_istore K 197 #[.val (.int p0), .val (.int p1), .val (.int p2), .val (.int p3), .val (.int p4), .val (.int p5), .val (.int v1), .val (.ref tx), .val (.int (4 : Int32)), .val (.int v707), .val (.int v708), .val (.int v709), .val (.int v710), .val (.ref a711), .val (.int z783), .val (.int z786), .unset, .unset, .unset] at_197 rfl ?_
                        refine g_aload K 199 at_199 rfl rfl ?_
                        refine g_aload K 201 at_201 rfl rfl ?_
                        refine g_callVW K 203 [(.ref a711)] 0 at_203 (rm_ref4 l Z a0 hw tx a711 h770 (nar .byte v707) (nar .byte v708) (nar .byte v709) (nar .byte v710) A781 S774 (fun b cl q => KC780.2.1 b cl q nin0) hh hcw) Z779 E777 (tw hw 9 rfl) (tw hw 10 rfl) (tw hw 12 rfl) (tw hw 12 rfl) (tw hw 11 rfl) (tw hw 2 rfl) (tw hw 13 rfl) (by decide) pd1 rfl (st := []) rfl (Nat.le_of_eq rfl) rfl (by decide) (by decide) (by decide) (by decide) rfl ?_
                        intro v h788 vm789 hq hs791 KK790
                        rcases hq with ⟨rfl, rfl, hlf⟩ | ⟨a792, b793, rfl, Kp794, E795, F796, A797, hlf⟩
                        ·
                          refine go_cast (k' := ((0 + 1) + 2)) (n' := ((0 + 4) + 216)) (st' := [.null]) rfl rfl rfl ?_
                          refine g_astore KK790 206 #[.val (.int p0), .val (.int p1), .val (.int p2), .val (.int p3), .val (.int p4), .val (.int p5), .val (.int v1), .val (.ref tx), .val (.int (4 : Int32)), .val (.int v707), .val (.int v708), .val (.int v709), .val (.int v710), .val (.ref a711), .val (.int z783), .val (.int z786), .val .null, .unset, .unset] at_206 rfl rfl ?_
                          refine g_aload KK790 208 at_208 rfl rfl ?_
                          refine g_ifnull_null KK790 210 217 at_210 (by decide) (by decide) ?_
                          refine g_iconst KK790 217 (0 : Int32) at_217 (by decide) ?_
                          refine g_istore KK790 218 #[.val (.int p0), .val (.int p1), .val (.int p2), .val (.int p3), .val (.int p4), .val (.int p5), .val (.int v1), .val (.ref tx), .val (.int (4 : Int32)), .val (.int v707), .val (.int v708), .val (.int v709), .val (.int v710), .val (.ref a711), .val (.int z783), .val (.int z786), .val .null, .val (.int (0 : Int32)), .unset] at_218 rfl ?_
                          refine g_iload KK790 220 at_220 rfl ?_
                          refine g_iconst KK790 222 (1 : Int32) at_222 (by decide) ?_
                          refine g_ii_lt KK790 223 235 at_223 (by decide) (by decide) ?_ ?_
                          · intro c798
                            exact absurd c798 (by decide)
                          · intro c798
                            refine g_aload KK790 226 at_226 rfl rfl ?_
                            refine g_iconst KK790 228 (0 : Int32) at_228 (by decide) ?_
                            refine g_baload KK790 229 (nar .byte v707) at_229 A781 (by decide) (by rw [show (0 : Int32).toNatClampNeg = 0 from by decide]; rfl) ?_
                            refine g_iload KK790 230 at_230 rfl ?_
                            refine g_ii_ne KK790 232 284 at_232 (by decide) (by decide) ?_ ?_
                            · intro c799
                              exfalso
                              exact c799 (own_nar hv707)
                            · intro c799
                              refine g_iload KK790 235 at_235 rfl ?_
                              refine g_iconst KK790 237 (2 : Int32) at_237 (by decide) ?_
                              refine g_ii_lt KK790 238 250 at_238 (by decide) (by decide) ?_ ?_
                              · intro c800
                                exact absurd c800 (by decide)
                              · intro c800
                                refine g_aload KK790 241 at_241 rfl rfl ?_
                                refine g_iconst KK790 243 (1 : Int32) at_243 (by decide) ?_
                                refine g_baload KK790 244 (nar .byte v708) at_244 A781 (by decide) (by rw [show (1 : Int32).toNatClampNeg = 1 from by decide]; rfl) ?_
                                refine g_iload KK790 245 at_245 rfl ?_
                                refine g_ii_ne KK790 247 284 at_247 (by decide) (by decide) ?_ ?_
                                · intro c801
                                  exfalso
                                  exact c801 (own_nar hv708)
                                · intro c801
                                  refine g_iload KK790 250 at_250 rfl ?_
                                  refine g_iconst KK790 252 (3 : Int32) at_252 (by decide) ?_
                                  refine g_ii_lt KK790 253 265 at_253 (by decide) (by decide) ?_ ?_
                                  · intro c802
                                    exact absurd c802 (by decide)
                                  · intro c802
                                    refine g_aload KK790 256 at_256 rfl rfl ?_
                                    refine g_iconst KK790 258 (2 : Int32) at_258 (by decide) ?_
                                    refine g_baload KK790 259 (nar .byte v709) at_259 A781 (by decide) (by rw [show (2 : Int32).toNatClampNeg = 2 from by decide]; rfl) ?_
                                    refine g_iload KK790 260 at_260 rfl ?_
                                    refine g_ii_ne KK790 262 284 at_262 (by decide) (by decide) ?_ ?_
                                    · intro c803
                                      exfalso
                                      exact c803 (own_nar hv709)
                                    · intro c803
                                      refine g_iload KK790 265 at_265 rfl ?_
                                      refine g_iconst KK790 267 (4 : Int32) at_267 (by decide) ?_
                                      refine g_ii_lt KK790 268 280 at_268 (by decide) (by decide) ?_ ?_
                                      · intro c804
                                        exact absurd c804 (by decide)
                                      · intro c804
                                        refine g_aload KK790 271 at_271 rfl rfl ?_
                                        refine g_iconst KK790 273 (3 : Int32) at_273 (by decide) ?_
                                        refine g_baload KK790 274 (nar .byte v710) at_274 A781 (by decide) (by rw [show (3 : Int32).toNatClampNeg = 3 from by decide]; rfl) ?_
                                        refine g_iload KK790 275 at_275 rfl ?_
                                        refine g_ii_ne KK790 277 284 at_277 (by decide) (by decide) ?_ ?_
                                        · intro c805
                                          exfalso
                                          exact c805 (own_nar hv710)
                                        · intro c805
                                          refine g_iconst KK790 280 (1 : Int32) at_280 (by decide) ?_
                                          refine g_goto KK790 281 285 at_281 (by decide) (by decide) ?_
                                          refine g_istore KK790 285 #[.val (.int p0), .val (.int p1), .val (.int p2), .val (.int p3), .val (.int p4), .val (.int p5), .val (.int v1), .val (.ref tx), .val (.int (4 : Int32)), .val (.int v707), .val (.int v708), .val (.int v709), .val (.int v710), .val (.ref a711), .val (.int z783), .val (.int z786), .val .null, .val (.int (0 : Int32)), .val (.int (1 : Int32))] at_285 rfl ?_
                                          refine g_iload KK790 287 at_287 rfl ?_
                                          refine g_iload KK790 289 at_289 rfl ?_
                                          refine g_ii_ne KK790 291 316 at_291 (by decide) (by decide) ?_ ?_
                                          · intro c806
                                            exfalso
                                            rw [own_nar hv707, own_nar hv708, own_nar hv709, own_nar hv710] at hlf; simp only [not_or] at hlf; simp [hz786, hz783, hlf] at c806
                                          · intro c806
                                            refine g_iload KK790 294 at_294 rfl ?_
                                            refine g_if_eq KK790 296 307 at_296 (by decide) (by decide) ?_ ?_
                                            · intro c807
                                              refine g_iload KK790 307 at_307 rfl ?_
                                              refine g_if_eq KK790 309 316 at_309 (by decide) (by decide) ?_ ?_
                                              · intro c808
                                                exact absurd c808 (by decide)
                                              · intro c808
                                                refine g_iconst KK790 312 (1 : Int32) at_312 (by decide) ?_
                                                refine g_goto KK790 313 317 at_313 (by decide) (by decide) ?_
                                                refine g_retN KK790 317 .boolean at_317 rfl (by simp) (by decide) (by decide) ?_
                                                rw [hQ]
                                                rfl
                                            · intro c807
                                              exact absurd c807 (by decide)
                        ·
                          have Z809 := Nat.le_trans Z779 Kp794.1
                          have F810 := A781.keep Kp794 nin0
                          refine go_cast (k' := ((0 + 1) + 2)) (n' := ((0 + 4) + 216)) (st' := [(.ref a792)]) rfl rfl rfl ?_
                          refine g_astore KK790 206 #[.val (.int p0), .val (.int p1), .val (.int p2), .val (.int p3), .val (.int p4), .val (.int p5), .val (.int v1), .val (.ref tx), .val (.int (4 : Int32)), .val (.int v707), .val (.int v708), .val (.int v709), .val (.int v710), .val (.ref a711), .val (.int z783), .val (.int z786), .val (.ref a792), .unset, .unset] at_206 rfl rfl ?_
                          refine g_aload KK790 208 at_208 rfl rfl ?_
                          refine g_ifnull_ref KK790 210 at_210 ?_
                          refine g_iconst KK790 213 (1 : Int32) at_213 (by decide) ?_
                          refine g_goto KK790 214 218 at_214 (by decide) (by decide) ?_
                          refine g_istore KK790 218 #[.val (.int p0), .val (.int p1), .val (.int p2), .val (.int p3), .val (.int p4), .val (.int p5), .val (.int v1), .val (.ref tx), .val (.int (4 : Int32)), .val (.int v707), .val (.int v708), .val (.int v709), .val (.int v710), .val (.ref a711), .val (.int z783), .val (.int z786), .val (.ref a792), .val (.int (1 : Int32)), .unset] at_218 rfl ?_
                          refine g_iload KK790 220 at_220 rfl ?_
                          refine g_iconst KK790 222 (1 : Int32) at_222 (by decide) ?_
                          refine g_ii_lt KK790 223 235 at_223 (by decide) (by decide) ?_ ?_
                          · intro c811
                            exact absurd c811 (by decide)
                          · intro c811
                            refine g_aload KK790 226 at_226 rfl rfl ?_
                            refine g_iconst KK790 228 (0 : Int32) at_228 (by decide) ?_
                            refine g_baload KK790 229 (nar .byte v707) at_229 F810 (by decide) (by rw [show (0 : Int32).toNatClampNeg = 0 from by decide]; rfl) ?_
                            refine g_iload KK790 230 at_230 rfl ?_
                            refine g_ii_ne KK790 232 284 at_232 (by decide) (by decide) ?_ ?_
                            · intro c812
                              exfalso
                              exact c812 (own_nar hv707)
                            · intro c812
                              refine g_iload KK790 235 at_235 rfl ?_
                              refine g_iconst KK790 237 (2 : Int32) at_237 (by decide) ?_
                              refine g_ii_lt KK790 238 250 at_238 (by decide) (by decide) ?_ ?_
                              · intro c813
                                exact absurd c813 (by decide)
                              · intro c813
                                refine g_aload KK790 241 at_241 rfl rfl ?_
                                refine g_iconst KK790 243 (1 : Int32) at_243 (by decide) ?_
                                refine g_baload KK790 244 (nar .byte v708) at_244 F810 (by decide) (by rw [show (1 : Int32).toNatClampNeg = 1 from by decide]; rfl) ?_
                                refine g_iload KK790 245 at_245 rfl ?_
                                refine g_ii_ne KK790 247 284 at_247 (by decide) (by decide) ?_ ?_
                                · intro c814
                                  exfalso
                                  exact c814 (own_nar hv708)
                                · intro c814
                                  refine g_iload KK790 250 at_250 rfl ?_
                                  refine g_iconst KK790 252 (3 : Int32) at_252 (by decide) ?_
                                  refine g_ii_lt KK790 253 265 at_253 (by decide) (by decide) ?_ ?_
                                  · intro c815
                                    exact absurd c815 (by decide)
                                  · intro c815
                                    refine g_aload KK790 256 at_256 rfl rfl ?_
                                    refine g_iconst KK790 258 (2 : Int32) at_258 (by decide) ?_
                                    refine g_baload KK790 259 (nar .byte v709) at_259 F810 (by decide) (by rw [show (2 : Int32).toNatClampNeg = 2 from by decide]; rfl) ?_
                                    refine g_iload KK790 260 at_260 rfl ?_
                                    refine g_ii_ne KK790 262 284 at_262 (by decide) (by decide) ?_ ?_
                                    · intro c816
                                      exfalso
                                      exact c816 (own_nar hv709)
                                    · intro c816
                                      refine g_iload KK790 265 at_265 rfl ?_
                                      refine g_iconst KK790 267 (4 : Int32) at_267 (by decide) ?_
                                      refine g_ii_lt KK790 268 280 at_268 (by decide) (by decide) ?_ ?_
                                      · intro c817
                                        exact absurd c817 (by decide)
                                      · intro c817
                                        refine g_aload KK790 271 at_271 rfl rfl ?_
                                        refine g_iconst KK790 273 (3 : Int32) at_273 (by decide) ?_
                                        refine g_baload KK790 274 (nar .byte v710) at_274 F810 (by decide) (by rw [show (3 : Int32).toNatClampNeg = 3 from by decide]; rfl) ?_
                                        refine g_iload KK790 275 at_275 rfl ?_
                                        refine g_ii_ne KK790 277 284 at_277 (by decide) (by decide) ?_ ?_
                                        · intro c818
                                          exfalso
                                          exact c818 (own_nar hv710)
                                        · intro c818
                                          refine g_iconst KK790 280 (1 : Int32) at_280 (by decide) ?_
                                          refine g_goto KK790 281 285 at_281 (by decide) (by decide) ?_
                                          refine g_istore KK790 285 #[.val (.int p0), .val (.int p1), .val (.int p2), .val (.int p3), .val (.int p4), .val (.int p5), .val (.int v1), .val (.ref tx), .val (.int (4 : Int32)), .val (.int v707), .val (.int v708), .val (.int v709), .val (.int v710), .val (.ref a711), .val (.int z783), .val (.int z786), .val (.ref a792), .val (.int (1 : Int32)), .val (.int (1 : Int32))] at_285 rfl ?_
                                          refine g_iload KK790 287 at_287 rfl ?_
                                          refine g_iload KK790 289 at_289 rfl ?_
                                          refine g_ii_ne KK790 291 316 at_291 (by decide) (by decide) ?_ ?_
                                          · intro c819
                                            exfalso
                                            rw [own_nar hv707, own_nar hv708, own_nar hv709, own_nar hv710] at hlf; rcases hlf with hlf | hlf | hlf | hlf <;> simp [hz786, hz783, hlf] at c819
                                          · intro c819
                                            refine g_iload KK790 294 at_294 rfl ?_
                                            refine g_if_eq KK790 296 307 at_296 (by decide) (by decide) ?_ ?_
                                            · intro c820
                                              exact absurd c820 (by decide)
                                            · intro c820
                                              refine g_aload KK790 299 at_299 rfl rfl ?_
                                              refine g_callV KK790 301 [] 0 at_301 (rm_isEmpty l Z a0 hw a792 h788 n0 Z809 own_txt b793 F796 A797) E795 (tw hw 24 rfl) (tw hw 25 rfl) (tw hw 27 rfl) (tw hw 27 rfl) (tw hw 26 rfl) (tw hw 18 rfl) (tw hw 28 rfl) (by decide) pd2 rfl (st := []) rfl (Nat.le_of_eq rfl) rfl (by decide) (by decide) (by decide) (by decide) ?_
                                              rintro _ _ ⟨hv, hh⟩
                                              rw [hv, hh]
                                              clear hv hh
                                              refine go_cast (k' := ((0 + 1) + 2)) (n' := ((0 + 4) + 216)) (st' := [(.int (f_isEmpty own_txt))]) rfl rfl rfl ?_
                                              refine g_if_ne KK790 304 316 at_304 (by decide) (by decide) ?_ ?_
                                              · intro c821
                                                exfalso
                                                exact c821 own_ie
                                              · intro c821
                                                refine g_iload KK790 307 at_307 rfl ?_
                                                refine g_if_eq KK790 309 316 at_309 (by decide) (by decide) ?_ ?_
                                                · intro c822
                                                  exact absurd c822 (by decide)
                                                · intro c822
                                                  refine g_iconst KK790 312 (1 : Int32) at_312 (by decide) ?_
                                                  refine g_goto KK790 313 317 at_313 (by decide) (by decide) ?_
                                                  refine g_retN KK790 317 .boolean at_317 rfl (by simp) (by decide) (by decide) ?_
                                                  rw [hQ]
                                                  rfl
                      refine g_if_eq K 189 196 at_189 (by decide) (by decide) ?_ ?_
                      · intro c823
                        refine g_iconst K 196 (0 : Int32) at_196 (by decide) ?_
                        exact J787 _ (by rw [if_pos c823])
                      · intro c823
                        refine g_iconst K 192 (1 : Int32) at_192 (by decide) ?_
                        refine g_goto K 193 197 at_193 (by decide) (by decide) ?_
                        exact J787 _ (by rw [if_neg c823])
                  refine g_ii_eq K 132 174 at_132 (by decide) (by decide) ?_ ?_
                  · intro c824
                    refine g_iconst K 174 (1 : Int32) at_174 (by decide) ?_
                    refine g_goto K 175 179 at_175 (by decide) (by decide) ?_
                    exact J784 _ (by rw [if_pos c824])
                  · intro c824
                    refine g_iload K 135 at_135 rfl ?_
                    refine g_iconst K 137 (1 : Int32) at_137 (by decide) ?_
                    refine g_ii_le K 138 148 at_138 (by decide) (by decide) ?_ ?_
                    · intro c825
                      exact absurd c825 (by decide)
                    · intro c825
                      refine g_iload K 141 at_141 rfl ?_
                      refine g_bipush K 143 (10 : Int32) at_143 (by decide) ?_
                      refine g_ii_eq K 145 174 at_145 (by decide) (by decide) ?_ ?_
                      · intro c826
                        refine g_iconst K 174 (1 : Int32) at_174 (by decide) ?_
                        refine g_goto K 175 179 at_175 (by decide) (by decide) ?_
                        exact J784 _ (by rw [if_neg c824, if_pos c826])
                      · intro c826
                        refine g_iload K 148 at_148 rfl ?_
                        refine g_iconst K 150 (2 : Int32) at_150 (by decide) ?_
                        refine g_ii_le K 151 161 at_151 (by decide) (by decide) ?_ ?_
                        · intro c827
                          exact absurd c827 (by decide)
                        · intro c827
                          refine g_iload K 154 at_154 rfl ?_
                          refine g_bipush K 156 (10 : Int32) at_156 (by decide) ?_
                          refine g_ii_eq K 158 174 at_158 (by decide) (by decide) ?_ ?_
                          · intro c828
                            refine g_iconst K 174 (1 : Int32) at_174 (by decide) ?_
                            refine g_goto K 175 179 at_175 (by decide) (by decide) ?_
                            exact J784 _ (by rw [if_neg c824, if_neg c826, if_pos c828])
                          · intro c828
                            refine g_iload K 161 at_161 rfl ?_
                            refine g_iconst K 163 (3 : Int32) at_163 (by decide) ?_
                            refine g_ii_le K 164 178 at_164 (by decide) (by decide) ?_ ?_
                            · intro c829
                              exact absurd c829 (by decide)
                            · intro c829
                              refine g_iload K 167 at_167 rfl ?_
                              refine g_bipush K 169 (10 : Int32) at_169 (by decide) ?_
                              refine g_ii_ne K 171 178 at_171 (by decide) (by decide) ?_ ?_
                              · intro c830
                                refine g_iconst K 178 (0 : Int32) at_178 (by decide) ?_
                                exact J784 _ (by rw [if_neg c824, if_neg c826, if_neg c828, if_neg c830])
                              · intro c830
                                refine g_iconst K 174 (1 : Int32) at_174 (by decide) ?_
                                refine g_goto K 175 179 at_175 (by decide) (by decide) ?_
                                exact J784 _ (by rw [if_neg c824, if_neg c826, if_neg c828, if_pos c830])
  · intro c2
    refine g_getstatic K 13 at_13 (tw hw 1 rfl) S1 ?_
    refine g_goto K 16 34 at_16 (by decide) (by decide) ?_
    refine g_astore K 34 #[.val (.int p0), .val (.int p1), .val (.int p2), .val (.int p3), .val (.int p4), .val (.int p5), .val (.int v1), .val (.ref cd), .unset, .unset, .unset, .unset, .unset, .unset, .unset, .unset, .unset, .unset, .unset] at_34 rfl rfl ?_
    refine g_iloadN K 36 at_36 rfl ?_
    refine g_bipush K 37 (7 : Int32) at_37 (by decide) ?_
    refine g_iand K 39 at_39 ?_
    refine g_iconst K 40 (5 : Int32) at_40 (by decide) ?_
    refine g_irem K 41 at_41 (by decide) ?_
    rcases own_len5 p1 with hn | hn | hn | hn | hn
    · rw [hn]
      refine g_istore K 42 #[.val (.int p0), .val (.int p1), .val (.int p2), .val (.int p3), .val (.int p4), .val (.int p5), .val (.int v1), .val (.ref cd), .val (.int (0 : Int32)), .unset, .unset, .unset, .unset, .unset, .unset, .unset, .unset, .unset, .unset] at_42 rfl ?_
      refine g_iloadN K 44 at_44 rfl ?_
      refine g_callS K 45 [(.int p2)] 0 at_45 (rm_pick l Z a0 hw p2 h0 n0 Z0  ) (tw hw 4 rfl) (tw hw 5 rfl) (tw hw 6 rfl) (tw hw 7 rfl) (by decide) pd0 rfl (st := []) rfl (Nat.le_of_eq rfl) rfl (by decide) (by decide) (by decide) (by decide) ?_
      rintro _ _ ⟨hv, hh⟩
      rw [hv, hh]
      clear hv hh
      refine go_cast (k' := 0) (n' := 0) (st' := [(.int (f_pick p2))]) rfl rfl rfl ?_
      generalize hv831 : (f_pick p2) = v831
      refine g_istore K 48 #[.val (.int p0), .val (.int p1), .val (.int p2), .val (.int p3), .val (.int p4), .val (.int p5), .val (.int v1), .val (.ref cd), .val (.int (0 : Int32)), .val (.int v831), .unset, .unset, .unset, .unset, .unset, .unset, .unset, .unset, .unset] at_48 rfl ?_
      refine g_iloadN K 50 at_50 rfl ?_
      refine g_callS K 51 [(.int p3)] 0 at_51 (rm_pick l Z a0 hw p3 h0 n0 Z0  ) (tw hw 4 rfl) (tw hw 5 rfl) (tw hw 6 rfl) (tw hw 7 rfl) (by decide) pd0 rfl (st := []) rfl (Nat.le_of_eq rfl) rfl (by decide) (by decide) (by decide) (by decide) ?_
      rintro _ _ ⟨hv, hh⟩
      rw [hv, hh]
      clear hv hh
      refine go_cast (k' := 0) (n' := 0) (st' := [(.int (f_pick p3))]) rfl rfl rfl ?_
      generalize hv832 : (f_pick p3) = v832
      refine g_istore K 54 #[.val (.int p0), .val (.int p1), .val (.int p2), .val (.int p3), .val (.int p4), .val (.int p5), .val (.int v1), .val (.ref cd), .val (.int (0 : Int32)), .val (.int v831), .val (.int v832), .unset, .unset, .unset, .unset, .unset, .unset, .unset, .unset] at_54 rfl ?_
      refine g_iload K 56 at_56 rfl ?_
      refine g_callS K 58 [(.int p4)] 0 at_58 (rm_pick l Z a0 hw p4 h0 n0 Z0  ) (tw hw 4 rfl) (tw hw 5 rfl) (tw hw 6 rfl) (tw hw 7 rfl) (by decide) pd0 rfl (st := []) rfl (Nat.le_of_eq rfl) rfl (by decide) (by decide) (by decide) (by decide) ?_
      rintro _ _ ⟨hv, hh⟩
      rw [hv, hh]
      clear hv hh
      refine go_cast (k' := 0) (n' := 0) (st' := [(.int (f_pick p4))]) rfl rfl rfl ?_
      generalize hv833 : (f_pick p4) = v833
      refine g_istore K 61 #[.val (.int p0), .val (.int p1), .val (.int p2), .val (.int p3), .val (.int p4), .val (.int p5), .val (.int v1), .val (.ref cd), .val (.int (0 : Int32)), .val (.int v831), .val (.int v832), .val (.int v833), .unset, .unset, .unset, .unset, .unset, .unset, .unset] at_61 rfl ?_
      refine g_iload K 63 at_63 rfl ?_
      refine g_callS K 65 [(.int p5)] 0 at_65 (rm_pick l Z a0 hw p5 h0 n0 Z0  ) (tw hw 4 rfl) (tw hw 5 rfl) (tw hw 6 rfl) (tw hw 7 rfl) (by decide) pd0 rfl (st := []) rfl (Nat.le_of_eq rfl) rfl (by decide) (by decide) (by decide) (by decide) ?_
      rintro _ _ ⟨hv, hh⟩
      rw [hv, hh]
      clear hv hh
      refine go_cast (k' := 0) (n' := 0) (st' := [(.int (f_pick p5))]) rfl rfl rfl ?_
      generalize hv834 : (f_pick p5) = v834
      refine g_istore K 68 #[.val (.int p0), .val (.int p1), .val (.int p2), .val (.int p3), .val (.int p4), .val (.int p5), .val (.int v1), .val (.ref cd), .val (.int (0 : Int32)), .val (.int v831), .val (.int v832), .val (.int v833), .val (.int v834), .unset, .unset, .unset, .unset, .unset, .unset] at_68 rfl ?_
      refine g_iload K 70 at_70 rfl ?_
      refine g_newI K 72 .byte at_72 rfl rfl (tw hw 8 rfl) (by decide) 0 (by decide) (by decide) (by decide) (by decide) ?_
      intro h836 a835 eq839 Kp837 A838
      have g840 : n0 ≤ a835 := eq839 ▸ Z0
      have fr841 : Z.heap.size ≤ a835 := eq839 ▸ KC0.1
      have ne842 : cd ≠ a835 := own_ne_of_lt E1.lt eq839
      have ne843 : tx ≠ a835 := own_ne_of_lt E2.lt eq839
      have ne844 : sq ≠ a835 := own_ne_of_lt E3.lt eq839
      have S845 := sta_keep S1 Kp837 all0
      have S846 := sta_keep S2 Kp837 all0
      have S847 := sta_keep S3 Kp837 all0
      have E848 := E1.keep Kp837
      have E849 := E2.keep Kp837
      have E850 := E3.keep Kp837
      have Z851 := Nat.le_trans Z0 Kp837.1
      have KC852 := KC0.trans Kp837 all0
      have A853 : IA Z h836 a835 .byte [] := (by have q := A838; rw [show (0 : Int32).toNatClampNeg = 0 from by decide] at q; exact q)
      refine g_astore K 74 #[.val (.int p0), .val (.int p1), .val (.int p2), .val (.int p3), .val (.int p4), .val (.int p5), .val (.int v1), .val (.ref cd), .val (.int (0 : Int32)), .val (.int v831), .val (.int v832), .val (.int v833), .val (.int v834), .val (.ref a835), .unset, .unset, .unset, .unset, .unset] at_74 rfl rfl ?_
      refine g_iload K 76 at_76 rfl ?_
      refine g_if_le K 78 87 at_78 (by decide) (by decide) ?_ ?_
      · intro c854
        refine g_iload K 87 at_87 rfl ?_
        refine g_iconst K 89 (1 : Int32) at_89 (by decide) ?_
        refine g_ii_le K 90 99 at_90 (by decide) (by decide) ?_ ?_
        · intro c855
          refine g_iload K 99 at_99 rfl ?_
          refine g_iconst K 101 (2 : Int32) at_101 (by decide) ?_
          refine g_ii_le K 102 111 at_102 (by decide) (by decide) ?_ ?_
          · intro c856
            refine g_iload K 111 at_111 rfl ?_
            refine g_iconst K 113 (3 : Int32) at_113 (by decide) ?_
            refine g_ii_le K 114 123 at_114 (by decide) (by decide) ?_ ?_
            · intro c857
              refine g_iload K 123 at_123 rfl ?_
              refine g_if_le K 125 135 at_125 (by decide) (by decide) ?_ ?_
              · intro c858
                refine g_iload K 135 at_135 rfl ?_
                refine g_iconst K 137 (1 : Int32) at_137 (by decide) ?_
                refine g_ii_le K 138 148 at_138 (by decide) (by decide) ?_ ?_
                · intro c859
                  refine g_iload K 148 at_148 rfl ?_
                  refine g_iconst K 150 (2 : Int32) at_150 (by decide) ?_
                  refine g_ii_le K 151 161 at_151 (by decide) (by decide) ?_ ?_
                  · intro c860
                    refine g_iload K 161 at_161 rfl ?_
                    refine g_iconst K 163 (3 : Int32) at_163 (by decide) ?_
                    refine g_ii_le K 164 178 at_164 (by decide) (by decide) ?_ ?_
                    · intro c861
                      refine g_iconst K 178 (0 : Int32) at_178 (by decide) ?_
                      refine g_istore K 179 #[.val (.int p0), .val (.int p1), .val (.int p2), .val (.int p3), .val (.int p4), .val (.int p5), .val (.int v1), .val (.ref cd), .val (.int (0 : Int32)), .val (.int v831), .val (.int v832), .val (.int v833), .val (.int v834), .val (.ref a835), .val (.int (0 : Int32)), .unset, .unset, .unset, .unset] at_179 rfl ?_
                      refine g_iload K 181 at_181 rfl ?_
                      refine g_iconst K 183 (1 : Int32) at_183 (by decide) ?_
                      refine g_ii_ne K 184 196 at_184 (by decide) (by decide) ?_ ?_
                      · intro c862
                        refine g_iconst K 196 (0 : Int32) at_196 (by decide) ?_
                        refine g_istore K 197 #[.val (.int p0), .val (.int p1), .val (.int p2), .val (.int p3), .val (.int p4), .val (.int p5), .val (.int v1), .val (.ref cd), .val (.int (0 : Int32)), .val (.int v831), .val (.int v832), .val (.int v833), .val (.int v834), .val (.ref a835), .val (.int (0 : Int32)), .val (.int (0 : Int32)), .unset, .unset, .unset] at_197 rfl ?_
                        refine g_aload K 199 at_199 rfl rfl ?_
                        refine g_aload K 201 at_201 rfl rfl ?_
                        refine g_callVW K 203 [(.ref a835)] 0 at_203 (rm_refNo l Z a0 hw cd a835 h836 tx S846 ne1) Z851 E848 (tw hw 9 rfl) (tw hw 10 rfl) (tw hw 12 rfl) (tw hw 12 rfl) (tw hw 11 rfl) (tw hw 2 rfl) (tw hw 13 rfl) (by decide) pd1 rfl (st := []) rfl (Nat.le_of_eq rfl) rfl (by decide) (by decide) (by decide) (by decide) rfl ?_
                        intro v h863 vm864 hq hs866 KK865
                        obtain ⟨rfl, rfl⟩ := hq
                        refine go_cast (k' := ((0 + 1) + 2)) (n' := ((0 + 0) + 216)) (st' := [.null]) rfl rfl rfl ?_
                        refine g_astore KK865 206 #[.val (.int p0), .val (.int p1), .val (.int p2), .val (.int p3), .val (.int p4), .val (.int p5), .val (.int v1), .val (.ref cd), .val (.int (0 : Int32)), .val (.int v831), .val (.int v832), .val (.int v833), .val (.int v834), .val (.ref a835), .val (.int (0 : Int32)), .val (.int (0 : Int32)), .val .null, .unset, .unset] at_206 rfl rfl ?_
                        refine g_aload KK865 208 at_208 rfl rfl ?_
                        refine g_ifnull_null KK865 210 217 at_210 (by decide) (by decide) ?_
                        refine g_iconst KK865 217 (0 : Int32) at_217 (by decide) ?_
                        refine g_istore KK865 218 #[.val (.int p0), .val (.int p1), .val (.int p2), .val (.int p3), .val (.int p4), .val (.int p5), .val (.int v1), .val (.ref cd), .val (.int (0 : Int32)), .val (.int v831), .val (.int v832), .val (.int v833), .val (.int v834), .val (.ref a835), .val (.int (0 : Int32)), .val (.int (0 : Int32)), .val .null, .val (.int (0 : Int32)), .unset] at_218 rfl ?_
                        refine g_iload KK865 220 at_220 rfl ?_
                        refine g_iconst KK865 222 (1 : Int32) at_222 (by decide) ?_
                        refine g_ii_lt KK865 223 235 at_223 (by decide) (by decide) ?_ ?_
                        · intro c867
                          refine g_iload KK865 235 at_235 rfl ?_
                          refine g_iconst KK865 237 (2 : Int32) at_237 (by decide) ?_
                          refine g_ii_lt KK865 238 250 at_238 (by decide) (by decide) ?_ ?_
                          · intro c868
                            refine g_iload KK865 250 at_250 rfl ?_
                            refine g_iconst KK865 252 (3 : Int32) at_252 (by decide) ?_
                            refine g_ii_lt KK865 253 265 at_253 (by decide) (by decide) ?_ ?_
                            · intro c869
                              refine g_iload KK865 265 at_265 rfl ?_
                              refine g_iconst KK865 267 (4 : Int32) at_267 (by decide) ?_
                              refine g_ii_lt KK865 268 280 at_268 (by decide) (by decide) ?_ ?_
                              · intro c870
                                refine g_iconst KK865 280 (1 : Int32) at_280 (by decide) ?_
                                refine g_goto KK865 281 285 at_281 (by decide) (by decide) ?_
                                refine g_istore KK865 285 #[.val (.int p0), .val (.int p1), .val (.int p2), .val (.int p3), .val (.int p4), .val (.int p5), .val (.int v1), .val (.ref cd), .val (.int (0 : Int32)), .val (.int v831), .val (.int v832), .val (.int v833), .val (.int v834), .val (.ref a835), .val (.int (0 : Int32)), .val (.int (0 : Int32)), .val .null, .val (.int (0 : Int32)), .val (.int (1 : Int32))] at_285 rfl ?_
                                refine g_iload KK865 287 at_287 rfl ?_
                                refine g_iload KK865 289 at_289 rfl ?_
                                refine g_ii_ne KK865 291 316 at_291 (by decide) (by decide) ?_ ?_
                                · intro c871
                                  exact absurd c871 (by decide)
                                · intro c871
                                  refine g_iload KK865 294 at_294 rfl ?_
                                  refine g_if_eq KK865 296 307 at_296 (by decide) (by decide) ?_ ?_
                                  · intro c872
                                    refine g_iload KK865 307 at_307 rfl ?_
                                    refine g_if_eq KK865 309 316 at_309 (by decide) (by decide) ?_ ?_
                                    · intro c873
                                      exact absurd c873 (by decide)
                                    · intro c873
                                      refine g_iconst KK865 312 (1 : Int32) at_312 (by decide) ?_
                                      refine g_goto KK865 313 317 at_313 (by decide) (by decide) ?_
                                      refine g_retN KK865 317 .boolean at_317 rfl (by simp) (by decide) (by decide) ?_
                                      rw [hQ]
                                      rfl
                                  · intro c872
                                    exact absurd c872 (by decide)
                              · intro c870
                                exact absurd c870 (by decide)
                            · intro c869
                              exact absurd c869 (by decide)
                          · intro c868
                            exact absurd c868 (by decide)
                        · intro c867
                          exact absurd c867 (by decide)
                      · intro c862
                        exfalso
                        exact absurd (c2.symm.trans c862) (by decide)
                    · intro c861
                      exact absurd c861 (by decide)
                  · intro c860
                    exact absurd c860 (by decide)
                · intro c859
                  exact absurd c859 (by decide)
              · intro c858
                exact absurd c858 (by decide)
            · intro c857
              exact absurd c857 (by decide)
          · intro c856
            exact absurd c856 (by decide)
        · intro c855
          exact absurd c855 (by decide)
      · intro c854
        exact absurd c854 (by decide)
    · rw [hn]
      refine g_istore K 42 #[.val (.int p0), .val (.int p1), .val (.int p2), .val (.int p3), .val (.int p4), .val (.int p5), .val (.int v1), .val (.ref cd), .val (.int (1 : Int32)), .unset, .unset, .unset, .unset, .unset, .unset, .unset, .unset, .unset, .unset] at_42 rfl ?_
      refine g_iloadN K 44 at_44 rfl ?_
      refine g_callS K 45 [(.int p2)] 0 at_45 (rm_pick l Z a0 hw p2 h0 n0 Z0  ) (tw hw 4 rfl) (tw hw 5 rfl) (tw hw 6 rfl) (tw hw 7 rfl) (by decide) pd0 rfl (st := []) rfl (Nat.le_of_eq rfl) rfl (by decide) (by decide) (by decide) (by decide) ?_
      rintro _ _ ⟨hv, hh⟩
      rw [hv, hh]
      clear hv hh
      refine go_cast (k' := 0) (n' := 0) (st' := [(.int (f_pick p2))]) rfl rfl rfl ?_
      generalize hv874 : (f_pick p2) = v874
      refine g_istore K 48 #[.val (.int p0), .val (.int p1), .val (.int p2), .val (.int p3), .val (.int p4), .val (.int p5), .val (.int v1), .val (.ref cd), .val (.int (1 : Int32)), .val (.int v874), .unset, .unset, .unset, .unset, .unset, .unset, .unset, .unset, .unset] at_48 rfl ?_
      refine g_iloadN K 50 at_50 rfl ?_
      refine g_callS K 51 [(.int p3)] 0 at_51 (rm_pick l Z a0 hw p3 h0 n0 Z0  ) (tw hw 4 rfl) (tw hw 5 rfl) (tw hw 6 rfl) (tw hw 7 rfl) (by decide) pd0 rfl (st := []) rfl (Nat.le_of_eq rfl) rfl (by decide) (by decide) (by decide) (by decide) ?_
      rintro _ _ ⟨hv, hh⟩
      rw [hv, hh]
      clear hv hh
      refine go_cast (k' := 0) (n' := 0) (st' := [(.int (f_pick p3))]) rfl rfl rfl ?_
      generalize hv875 : (f_pick p3) = v875
      refine g_istore K 54 #[.val (.int p0), .val (.int p1), .val (.int p2), .val (.int p3), .val (.int p4), .val (.int p5), .val (.int v1), .val (.ref cd), .val (.int (1 : Int32)), .val (.int v874), .val (.int v875), .unset, .unset, .unset, .unset, .unset, .unset, .unset, .unset] at_54 rfl ?_
      refine g_iload K 56 at_56 rfl ?_
      refine g_callS K 58 [(.int p4)] 0 at_58 (rm_pick l Z a0 hw p4 h0 n0 Z0  ) (tw hw 4 rfl) (tw hw 5 rfl) (tw hw 6 rfl) (tw hw 7 rfl) (by decide) pd0 rfl (st := []) rfl (Nat.le_of_eq rfl) rfl (by decide) (by decide) (by decide) (by decide) ?_
      rintro _ _ ⟨hv, hh⟩
      rw [hv, hh]
      clear hv hh
      refine go_cast (k' := 0) (n' := 0) (st' := [(.int (f_pick p4))]) rfl rfl rfl ?_
      generalize hv876 : (f_pick p4) = v876
      refine g_istore K 61 #[.val (.int p0), .val (.int p1), .val (.int p2), .val (.int p3), .val (.int p4), .val (.int p5), .val (.int v1), .val (.ref cd), .val (.int (1 : Int32)), .val (.int v874), .val (.int v875), .val (.int v876), .unset, .unset, .unset, .unset, .unset, .unset, .unset] at_61 rfl ?_
      refine g_iload K 63 at_63 rfl ?_
      refine g_callS K 65 [(.int p5)] 0 at_65 (rm_pick l Z a0 hw p5 h0 n0 Z0  ) (tw hw 4 rfl) (tw hw 5 rfl) (tw hw 6 rfl) (tw hw 7 rfl) (by decide) pd0 rfl (st := []) rfl (Nat.le_of_eq rfl) rfl (by decide) (by decide) (by decide) (by decide) ?_
      rintro _ _ ⟨hv, hh⟩
      rw [hv, hh]
      clear hv hh
      refine go_cast (k' := 0) (n' := 0) (st' := [(.int (f_pick p5))]) rfl rfl rfl ?_
      generalize hv877 : (f_pick p5) = v877
      refine g_istore K 68 #[.val (.int p0), .val (.int p1), .val (.int p2), .val (.int p3), .val (.int p4), .val (.int p5), .val (.int v1), .val (.ref cd), .val (.int (1 : Int32)), .val (.int v874), .val (.int v875), .val (.int v876), .val (.int v877), .unset, .unset, .unset, .unset, .unset, .unset] at_68 rfl ?_
      refine g_iload K 70 at_70 rfl ?_
      refine g_newI K 72 .byte at_72 rfl rfl (tw hw 8 rfl) (by decide) 1 (by decide) (by decide) (by decide) (by decide) ?_
      intro h879 a878 eq882 Kp880 A881
      have g883 : n0 ≤ a878 := eq882 ▸ Z0
      have fr884 : Z.heap.size ≤ a878 := eq882 ▸ KC0.1
      have ne885 : cd ≠ a878 := own_ne_of_lt E1.lt eq882
      have ne886 : tx ≠ a878 := own_ne_of_lt E2.lt eq882
      have ne887 : sq ≠ a878 := own_ne_of_lt E3.lt eq882
      have S888 := sta_keep S1 Kp880 all0
      have S889 := sta_keep S2 Kp880 all0
      have S890 := sta_keep S3 Kp880 all0
      have E891 := E1.keep Kp880
      have E892 := E2.keep Kp880
      have E893 := E3.keep Kp880
      have Z894 := Nat.le_trans Z0 Kp880.1
      have KC895 := KC0.trans Kp880 all0
      have A896 : IA Z h879 a878 .byte [0] := (by have q := A881; rw [show (1 : Int32).toNatClampNeg = 1 from by decide] at q; exact q)
      refine g_astore K 74 #[.val (.int p0), .val (.int p1), .val (.int p2), .val (.int p3), .val (.int p4), .val (.int p5), .val (.int v1), .val (.ref cd), .val (.int (1 : Int32)), .val (.int v874), .val (.int v875), .val (.int v876), .val (.int v877), .val (.ref a878), .unset, .unset, .unset, .unset, .unset] at_74 rfl rfl ?_
      refine g_iload K 76 at_76 rfl ?_
      refine g_if_le K 78 87 at_78 (by decide) (by decide) ?_ ?_
      · intro c897
        exact absurd c897 (by decide)
      · intro c897
        refine g_aload K 81 at_81 rfl rfl ?_
        refine g_iconst K 83 (0 : Int32) at_83 (by decide) ?_
        refine g_iload K 84 at_84 rfl ?_
        refine g_bastore K 86 at_86 A896 (by decide) (show (0 : Int32).toNatClampNeg < 1 from by decide) g883 ?_
        intro h898 Kp899 A900
        have S901 := sta_keep S888 Kp899 (allS A896.nst all0)
        have S902 := sta_keep S889 Kp899 (allS A896.nst all0)
        have S903 := sta_keep S890 Kp899 (allS A896.nst all0)
        have E904 := E891.keep Kp899
        have E905 := E892.keep Kp899
        have E906 := E893.keep Kp899
        have Z907 := Nat.le_trans Z894 Kp899.1
        have KC908 := KC895.trans Kp899 (allS (Or.inr fr884) all0)
        have A909 : IA Z h898 a878 .byte [nar .byte v874] := (by have q := A900; rw [show (0 : Int32).toNatClampNeg = 0 from by decide] at q; exact q)
        refine g_iload K 87 at_87 rfl ?_
        refine g_iconst K 89 (1 : Int32) at_89 (by decide) ?_
        refine g_ii_le K 90 99 at_90 (by decide) (by decide) ?_ ?_
        · intro c910
          refine g_iload K 99 at_99 rfl ?_
          refine g_iconst K 101 (2 : Int32) at_101 (by decide) ?_
          refine g_ii_le K 102 111 at_102 (by decide) (by decide) ?_ ?_
          · intro c911
            refine g_iload K 111 at_111 rfl ?_
            refine g_iconst K 113 (3 : Int32) at_113 (by decide) ?_
            refine g_ii_le K 114 123 at_114 (by decide) (by decide) ?_ ?_
            · intro c912
              refine g_iload K 123 at_123 rfl ?_
              refine g_if_le K 125 135 at_125 (by decide) (by decide) ?_ ?_
              · intro c913
                exact absurd c913 (by decide)
              · intro c913
                refine g_iload K 128 at_128 rfl ?_
                refine g_bipush K 130 (10 : Int32) at_130 (by decide) ?_
                have J915 : ∀ (z914 : Int32), z914 = (if v874 = (10 : Int32) then (1 : Int32) else (0 : Int32)) → Go p l e room_1 Z m #[(.int p0), (.int p1), (.int p2), (.int p3), (.int p4), (.int p5)] below meth c n0 (ReturnedEndW Z) Q h898 (0 + 1) (0 + 1) (mkF m 179 #[.val (.int p0), .val (.int p1), .val (.int p2), .val (.int p3), .val (.int p4), .val (.int p5), .val (.int v1), .val (.ref cd), .val (.int (1 : Int32)), .val (.int v874), .val (.int v875), .val (.int v876), .val (.int v877), .val (.ref a878), .unset, .unset, .unset, .unset, .unset] [(.int z914)]) := by
                  intro z914 hz914
                  refine g_istore K 179 #[.val (.int p0), .val (.int p1), .val (.int p2), .val (.int p3), .val (.int p4), .val (.int p5), .val (.int v1), .val (.ref cd), .val (.int (1 : Int32)), .val (.int v874), .val (.int v875), .val (.int v876), .val (.int v877), .val (.ref a878), .val (.int z914), .unset, .unset, .unset, .unset] at_179 rfl ?_
                  refine g_iload K 181 at_181 rfl ?_
                  refine g_iconst K 183 (1 : Int32) at_183 (by decide) ?_
                  refine g_ii_ne K 184 196 at_184 (by decide) (by decide) ?_ ?_
                  · intro c916
                    refine g_iconst K 196 (0 : Int32) at_196 (by decide) ?_
                    refine g_istore K 197 #[.val (.int p0), .val (.int p1), .val (.int p2), .val (.int p3), .val (.int p4), .val (.int p5), .val (.int v1), .val (.ref cd), .val (.int (1 : Int32)), .val (.int v874), .val (.int v875), .val (.int v876), .val (.int v877), .val (.ref a878), .val (.int z914), .val (.int (0 : Int32)), .unset, .unset, .unset] at_197 rfl ?_
                    refine g_aload K 199 at_199 rfl rfl ?_
                    refine g_aload K 201 at_201 rfl rfl ?_
                    refine g_callVW K 203 [(.ref a878)] 0 at_203 (rm_refNo l Z a0 hw cd a878 h898 tx S902 ne1) Z907 E904 (tw hw 9 rfl) (tw hw 10 rfl) (tw hw 12 rfl) (tw hw 12 rfl) (tw hw 11 rfl) (tw hw 2 rfl) (tw hw 13 rfl) (by decide) pd1 rfl (st := []) rfl (Nat.le_of_eq rfl) rfl (by decide) (by decide) (by decide) (by decide) rfl ?_
                    intro v h917 vm918 hq hs920 KK919
                    obtain ⟨rfl, rfl⟩ := hq
                    refine go_cast (k' := ((0 + 1) + 2)) (n' := ((0 + 1) + 216)) (st' := [.null]) rfl rfl rfl ?_
                    refine g_astore KK919 206 #[.val (.int p0), .val (.int p1), .val (.int p2), .val (.int p3), .val (.int p4), .val (.int p5), .val (.int v1), .val (.ref cd), .val (.int (1 : Int32)), .val (.int v874), .val (.int v875), .val (.int v876), .val (.int v877), .val (.ref a878), .val (.int z914), .val (.int (0 : Int32)), .val .null, .unset, .unset] at_206 rfl rfl ?_
                    refine g_aload KK919 208 at_208 rfl rfl ?_
                    refine g_ifnull_null KK919 210 217 at_210 (by decide) (by decide) ?_
                    refine g_iconst KK919 217 (0 : Int32) at_217 (by decide) ?_
                    refine g_istore KK919 218 #[.val (.int p0), .val (.int p1), .val (.int p2), .val (.int p3), .val (.int p4), .val (.int p5), .val (.int v1), .val (.ref cd), .val (.int (1 : Int32)), .val (.int v874), .val (.int v875), .val (.int v876), .val (.int v877), .val (.ref a878), .val (.int z914), .val (.int (0 : Int32)), .val .null, .val (.int (0 : Int32)), .unset] at_218 rfl ?_
                    refine g_iload KK919 220 at_220 rfl ?_
                    refine g_iconst KK919 222 (1 : Int32) at_222 (by decide) ?_
                    refine g_ii_lt KK919 223 235 at_223 (by decide) (by decide) ?_ ?_
                    · intro c921
                      exact absurd c921 (by decide)
                    · intro c921
                      refine g_aload KK919 226 at_226 rfl rfl ?_
                      refine g_iconst KK919 228 (0 : Int32) at_228 (by decide) ?_
                      refine g_baload KK919 229 (nar .byte v874) at_229 A909 (by decide) (by rw [show (0 : Int32).toNatClampNeg = 0 from by decide]; rfl) ?_
                      refine g_iload KK919 230 at_230 rfl ?_
                      refine g_ii_ne KK919 232 284 at_232 (by decide) (by decide) ?_ ?_
                      · intro c922
                        exfalso
                        exact c922 (own_nar hv874)
                      · intro c922
                        refine g_iload KK919 235 at_235 rfl ?_
                        refine g_iconst KK919 237 (2 : Int32) at_237 (by decide) ?_
                        refine g_ii_lt KK919 238 250 at_238 (by decide) (by decide) ?_ ?_
                        · intro c923
                          refine g_iload KK919 250 at_250 rfl ?_
                          refine g_iconst KK919 252 (3 : Int32) at_252 (by decide) ?_
                          refine g_ii_lt KK919 253 265 at_253 (by decide) (by decide) ?_ ?_
                          · intro c924
                            refine g_iload KK919 265 at_265 rfl ?_
                            refine g_iconst KK919 267 (4 : Int32) at_267 (by decide) ?_
                            refine g_ii_lt KK919 268 280 at_268 (by decide) (by decide) ?_ ?_
                            · intro c925
                              refine g_iconst KK919 280 (1 : Int32) at_280 (by decide) ?_
                              refine g_goto KK919 281 285 at_281 (by decide) (by decide) ?_
                              refine g_istore KK919 285 #[.val (.int p0), .val (.int p1), .val (.int p2), .val (.int p3), .val (.int p4), .val (.int p5), .val (.int v1), .val (.ref cd), .val (.int (1 : Int32)), .val (.int v874), .val (.int v875), .val (.int v876), .val (.int v877), .val (.ref a878), .val (.int z914), .val (.int (0 : Int32)), .val .null, .val (.int (0 : Int32)), .val (.int (1 : Int32))] at_285 rfl ?_
                              refine g_iload KK919 287 at_287 rfl ?_
                              refine g_iload KK919 289 at_289 rfl ?_
                              refine g_ii_ne KK919 291 316 at_291 (by decide) (by decide) ?_ ?_
                              · intro c926
                                exact absurd c926 (by decide)
                              · intro c926
                                refine g_iload KK919 294 at_294 rfl ?_
                                refine g_if_eq KK919 296 307 at_296 (by decide) (by decide) ?_ ?_
                                · intro c927
                                  refine g_iload KK919 307 at_307 rfl ?_
                                  refine g_if_eq KK919 309 316 at_309 (by decide) (by decide) ?_ ?_
                                  · intro c928
                                    exact absurd c928 (by decide)
                                  · intro c928
                                    refine g_iconst KK919 312 (1 : Int32) at_312 (by decide) ?_
                                    refine g_goto KK919 313 317 at_313 (by decide) (by decide) ?_
                                    refine g_retN KK919 317 .boolean at_317 rfl (by simp) (by decide) (by decide) ?_
                                    rw [hQ]
                                    rfl
                                · intro c927
                                  exact absurd c927 (by decide)
                            · intro c925
                              exact absurd c925 (by decide)
                          · intro c924
                            exact absurd c924 (by decide)
                        · intro c923
                          exact absurd c923 (by decide)
                  · intro c916
                    exfalso
                    exact absurd (c2.symm.trans c916) (by decide)
                refine g_ii_eq K 132 174 at_132 (by decide) (by decide) ?_ ?_
                · intro c929
                  refine g_iconst K 174 (1 : Int32) at_174 (by decide) ?_
                  refine g_goto K 175 179 at_175 (by decide) (by decide) ?_
                  exact J915 _ (by rw [if_pos c929])
                · intro c929
                  refine g_iload K 135 at_135 rfl ?_
                  refine g_iconst K 137 (1 : Int32) at_137 (by decide) ?_
                  refine g_ii_le K 138 148 at_138 (by decide) (by decide) ?_ ?_
                  · intro c930
                    refine g_iload K 148 at_148 rfl ?_
                    refine g_iconst K 150 (2 : Int32) at_150 (by decide) ?_
                    refine g_ii_le K 151 161 at_151 (by decide) (by decide) ?_ ?_
                    · intro c931
                      refine g_iload K 161 at_161 rfl ?_
                      refine g_iconst K 163 (3 : Int32) at_163 (by decide) ?_
                      refine g_ii_le K 164 178 at_164 (by decide) (by decide) ?_ ?_
                      · intro c932
                        refine g_iconst K 178 (0 : Int32) at_178 (by decide) ?_
                        exact J915 _ (by rw [if_neg c929])
                      · intro c932
                        exact absurd c932 (by decide)
                    · intro c931
                      exact absurd c931 (by decide)
                  · intro c930
                    exact absurd c930 (by decide)
            · intro c912
              exact absurd c912 (by decide)
          · intro c911
            exact absurd c911 (by decide)
        · intro c910
          exact absurd c910 (by decide)
    · rw [hn]
      refine g_istore K 42 #[.val (.int p0), .val (.int p1), .val (.int p2), .val (.int p3), .val (.int p4), .val (.int p5), .val (.int v1), .val (.ref cd), .val (.int (2 : Int32)), .unset, .unset, .unset, .unset, .unset, .unset, .unset, .unset, .unset, .unset] at_42 rfl ?_
      refine g_iloadN K 44 at_44 rfl ?_
      refine g_callS K 45 [(.int p2)] 0 at_45 (rm_pick l Z a0 hw p2 h0 n0 Z0  ) (tw hw 4 rfl) (tw hw 5 rfl) (tw hw 6 rfl) (tw hw 7 rfl) (by decide) pd0 rfl (st := []) rfl (Nat.le_of_eq rfl) rfl (by decide) (by decide) (by decide) (by decide) ?_
      rintro _ _ ⟨hv, hh⟩
      rw [hv, hh]
      clear hv hh
      refine go_cast (k' := 0) (n' := 0) (st' := [(.int (f_pick p2))]) rfl rfl rfl ?_
      generalize hv933 : (f_pick p2) = v933
      refine g_istore K 48 #[.val (.int p0), .val (.int p1), .val (.int p2), .val (.int p3), .val (.int p4), .val (.int p5), .val (.int v1), .val (.ref cd), .val (.int (2 : Int32)), .val (.int v933), .unset, .unset, .unset, .unset, .unset, .unset, .unset, .unset, .unset] at_48 rfl ?_
      refine g_iloadN K 50 at_50 rfl ?_
      refine g_callS K 51 [(.int p3)] 0 at_51 (rm_pick l Z a0 hw p3 h0 n0 Z0  ) (tw hw 4 rfl) (tw hw 5 rfl) (tw hw 6 rfl) (tw hw 7 rfl) (by decide) pd0 rfl (st := []) rfl (Nat.le_of_eq rfl) rfl (by decide) (by decide) (by decide) (by decide) ?_
      rintro _ _ ⟨hv, hh⟩
      rw [hv, hh]
      clear hv hh
      refine go_cast (k' := 0) (n' := 0) (st' := [(.int (f_pick p3))]) rfl rfl rfl ?_
      generalize hv934 : (f_pick p3) = v934
      refine g_istore K 54 #[.val (.int p0), .val (.int p1), .val (.int p2), .val (.int p3), .val (.int p4), .val (.int p5), .val (.int v1), .val (.ref cd), .val (.int (2 : Int32)), .val (.int v933), .val (.int v934), .unset, .unset, .unset, .unset, .unset, .unset, .unset, .unset] at_54 rfl ?_
      refine g_iload K 56 at_56 rfl ?_
      refine g_callS K 58 [(.int p4)] 0 at_58 (rm_pick l Z a0 hw p4 h0 n0 Z0  ) (tw hw 4 rfl) (tw hw 5 rfl) (tw hw 6 rfl) (tw hw 7 rfl) (by decide) pd0 rfl (st := []) rfl (Nat.le_of_eq rfl) rfl (by decide) (by decide) (by decide) (by decide) ?_
      rintro _ _ ⟨hv, hh⟩
      rw [hv, hh]
      clear hv hh
      refine go_cast (k' := 0) (n' := 0) (st' := [(.int (f_pick p4))]) rfl rfl rfl ?_
      generalize hv935 : (f_pick p4) = v935
      refine g_istore K 61 #[.val (.int p0), .val (.int p1), .val (.int p2), .val (.int p3), .val (.int p4), .val (.int p5), .val (.int v1), .val (.ref cd), .val (.int (2 : Int32)), .val (.int v933), .val (.int v934), .val (.int v935), .unset, .unset, .unset, .unset, .unset, .unset, .unset] at_61 rfl ?_
      refine g_iload K 63 at_63 rfl ?_
      refine g_callS K 65 [(.int p5)] 0 at_65 (rm_pick l Z a0 hw p5 h0 n0 Z0  ) (tw hw 4 rfl) (tw hw 5 rfl) (tw hw 6 rfl) (tw hw 7 rfl) (by decide) pd0 rfl (st := []) rfl (Nat.le_of_eq rfl) rfl (by decide) (by decide) (by decide) (by decide) ?_
      rintro _ _ ⟨hv, hh⟩
      rw [hv, hh]
      clear hv hh
      refine go_cast (k' := 0) (n' := 0) (st' := [(.int (f_pick p5))]) rfl rfl rfl ?_
      generalize hv936 : (f_pick p5) = v936
      refine g_istore K 68 #[.val (.int p0), .val (.int p1), .val (.int p2), .val (.int p3), .val (.int p4), .val (.int p5), .val (.int v1), .val (.ref cd), .val (.int (2 : Int32)), .val (.int v933), .val (.int v934), .val (.int v935), .val (.int v936), .unset, .unset, .unset, .unset, .unset, .unset] at_68 rfl ?_
      refine g_iload K 70 at_70 rfl ?_
      refine g_newI K 72 .byte at_72 rfl rfl (tw hw 8 rfl) (by decide) 2 (by decide) (by decide) (by decide) (by decide) ?_
      intro h938 a937 eq941 Kp939 A940
      have g942 : n0 ≤ a937 := eq941 ▸ Z0
      have fr943 : Z.heap.size ≤ a937 := eq941 ▸ KC0.1
      have ne944 : cd ≠ a937 := own_ne_of_lt E1.lt eq941
      have ne945 : tx ≠ a937 := own_ne_of_lt E2.lt eq941
      have ne946 : sq ≠ a937 := own_ne_of_lt E3.lt eq941
      have S947 := sta_keep S1 Kp939 all0
      have S948 := sta_keep S2 Kp939 all0
      have S949 := sta_keep S3 Kp939 all0
      have E950 := E1.keep Kp939
      have E951 := E2.keep Kp939
      have E952 := E3.keep Kp939
      have Z953 := Nat.le_trans Z0 Kp939.1
      have KC954 := KC0.trans Kp939 all0
      have A955 : IA Z h938 a937 .byte [0, 0] := (by have q := A940; rw [show (2 : Int32).toNatClampNeg = 2 from by decide] at q; exact q)
      refine g_astore K 74 #[.val (.int p0), .val (.int p1), .val (.int p2), .val (.int p3), .val (.int p4), .val (.int p5), .val (.int v1), .val (.ref cd), .val (.int (2 : Int32)), .val (.int v933), .val (.int v934), .val (.int v935), .val (.int v936), .val (.ref a937), .unset, .unset, .unset, .unset, .unset] at_74 rfl rfl ?_
      refine g_iload K 76 at_76 rfl ?_
      refine g_if_le K 78 87 at_78 (by decide) (by decide) ?_ ?_
      · intro c956
        exact absurd c956 (by decide)
      · intro c956
        refine g_aload K 81 at_81 rfl rfl ?_
        refine g_iconst K 83 (0 : Int32) at_83 (by decide) ?_
        refine g_iload K 84 at_84 rfl ?_
        refine g_bastore K 86 at_86 A955 (by decide) (show (0 : Int32).toNatClampNeg < 2 from by decide) g942 ?_
        intro h957 Kp958 A959
        have S960 := sta_keep S947 Kp958 (allS A955.nst all0)
        have S961 := sta_keep S948 Kp958 (allS A955.nst all0)
        have S962 := sta_keep S949 Kp958 (allS A955.nst all0)
        have E963 := E950.keep Kp958
        have E964 := E951.keep Kp958
        have E965 := E952.keep Kp958
        have Z966 := Nat.le_trans Z953 Kp958.1
        have KC967 := KC954.trans Kp958 (allS (Or.inr fr943) all0)
        have A968 : IA Z h957 a937 .byte [nar .byte v933, 0] := (by have q := A959; rw [show (0 : Int32).toNatClampNeg = 0 from by decide] at q; exact q)
        refine g_iload K 87 at_87 rfl ?_
        refine g_iconst K 89 (1 : Int32) at_89 (by decide) ?_
        refine g_ii_le K 90 99 at_90 (by decide) (by decide) ?_ ?_
        · intro c969
          exact absurd c969 (by decide)
        · intro c969
          refine g_aload K 93 at_93 rfl rfl ?_
          refine g_iconst K 95 (1 : Int32) at_95 (by decide) ?_
          refine g_iload K 96 at_96 rfl ?_
          refine g_bastore K 98 at_98 A968 (by decide) (show (1 : Int32).toNatClampNeg < 2 from by decide) g942 ?_
          intro h970 Kp971 A972
          have S973 := sta_keep S960 Kp971 (allS A968.nst all0)
          have S974 := sta_keep S961 Kp971 (allS A968.nst all0)
          have S975 := sta_keep S962 Kp971 (allS A968.nst all0)
          have E976 := E963.keep Kp971
          have E977 := E964.keep Kp971
          have E978 := E965.keep Kp971
          have Z979 := Nat.le_trans Z966 Kp971.1
          have KC980 := KC967.trans Kp971 (allS (Or.inr fr943) all0)
          have A981 : IA Z h970 a937 .byte [nar .byte v933, nar .byte v934] := (by have q := A972; rw [show (1 : Int32).toNatClampNeg = 1 from by decide] at q; exact q)
          refine g_iload K 99 at_99 rfl ?_
          refine g_iconst K 101 (2 : Int32) at_101 (by decide) ?_
          refine g_ii_le K 102 111 at_102 (by decide) (by decide) ?_ ?_
          · intro c982
            refine g_iload K 111 at_111 rfl ?_
            refine g_iconst K 113 (3 : Int32) at_113 (by decide) ?_
            refine g_ii_le K 114 123 at_114 (by decide) (by decide) ?_ ?_
            · intro c983
              refine g_iload K 123 at_123 rfl ?_
              refine g_if_le K 125 135 at_125 (by decide) (by decide) ?_ ?_
              · intro c984
                exact absurd c984 (by decide)
              · intro c984
                refine g_iload K 128 at_128 rfl ?_
                refine g_bipush K 130 (10 : Int32) at_130 (by decide) ?_
                have J986 : ∀ (z985 : Int32), z985 = (if v933 = (10 : Int32) then (1 : Int32) else (if v934 = (10 : Int32) then (1 : Int32) else (0 : Int32))) → Go p l e room_1 Z m #[(.int p0), (.int p1), (.int p2), (.int p3), (.int p4), (.int p5)] below meth c n0 (ReturnedEndW Z) Q h970 (0 + 1) (0 + 2) (mkF m 179 #[.val (.int p0), .val (.int p1), .val (.int p2), .val (.int p3), .val (.int p4), .val (.int p5), .val (.int v1), .val (.ref cd), .val (.int (2 : Int32)), .val (.int v933), .val (.int v934), .val (.int v935), .val (.int v936), .val (.ref a937), .unset, .unset, .unset, .unset, .unset] [(.int z985)]) := by
                  intro z985 hz985
                  refine g_istore K 179 #[.val (.int p0), .val (.int p1), .val (.int p2), .val (.int p3), .val (.int p4), .val (.int p5), .val (.int v1), .val (.ref cd), .val (.int (2 : Int32)), .val (.int v933), .val (.int v934), .val (.int v935), .val (.int v936), .val (.ref a937), .val (.int z985), .unset, .unset, .unset, .unset] at_179 rfl ?_
                  refine g_iload K 181 at_181 rfl ?_
                  refine g_iconst K 183 (1 : Int32) at_183 (by decide) ?_
                  refine g_ii_ne K 184 196 at_184 (by decide) (by decide) ?_ ?_
                  · intro c987
                    refine g_iconst K 196 (0 : Int32) at_196 (by decide) ?_
                    refine g_istore K 197 #[.val (.int p0), .val (.int p1), .val (.int p2), .val (.int p3), .val (.int p4), .val (.int p5), .val (.int v1), .val (.ref cd), .val (.int (2 : Int32)), .val (.int v933), .val (.int v934), .val (.int v935), .val (.int v936), .val (.ref a937), .val (.int z985), .val (.int (0 : Int32)), .unset, .unset, .unset] at_197 rfl ?_
                    refine g_aload K 199 at_199 rfl rfl ?_
                    refine g_aload K 201 at_201 rfl rfl ?_
                    refine g_callVW K 203 [(.ref a937)] 0 at_203 (rm_refNo l Z a0 hw cd a937 h970 tx S974 ne1) Z979 E976 (tw hw 9 rfl) (tw hw 10 rfl) (tw hw 12 rfl) (tw hw 12 rfl) (tw hw 11 rfl) (tw hw 2 rfl) (tw hw 13 rfl) (by decide) pd1 rfl (st := []) rfl (Nat.le_of_eq rfl) rfl (by decide) (by decide) (by decide) (by decide) rfl ?_
                    intro v h988 vm989 hq hs991 KK990
                    obtain ⟨rfl, rfl⟩ := hq
                    refine go_cast (k' := ((0 + 1) + 2)) (n' := ((0 + 2) + 216)) (st' := [.null]) rfl rfl rfl ?_
                    refine g_astore KK990 206 #[.val (.int p0), .val (.int p1), .val (.int p2), .val (.int p3), .val (.int p4), .val (.int p5), .val (.int v1), .val (.ref cd), .val (.int (2 : Int32)), .val (.int v933), .val (.int v934), .val (.int v935), .val (.int v936), .val (.ref a937), .val (.int z985), .val (.int (0 : Int32)), .val .null, .unset, .unset] at_206 rfl rfl ?_
                    refine g_aload KK990 208 at_208 rfl rfl ?_
                    refine g_ifnull_null KK990 210 217 at_210 (by decide) (by decide) ?_
                    refine g_iconst KK990 217 (0 : Int32) at_217 (by decide) ?_
                    refine g_istore KK990 218 #[.val (.int p0), .val (.int p1), .val (.int p2), .val (.int p3), .val (.int p4), .val (.int p5), .val (.int v1), .val (.ref cd), .val (.int (2 : Int32)), .val (.int v933), .val (.int v934), .val (.int v935), .val (.int v936), .val (.ref a937), .val (.int z985), .val (.int (0 : Int32)), .val .null, .val (.int (0 : Int32)), .unset] at_218 rfl ?_
                    refine g_iload KK990 220 at_220 rfl ?_
                    refine g_iconst KK990 222 (1 : Int32) at_222 (by decide) ?_
                    refine g_ii_lt KK990 223 235 at_223 (by decide) (by decide) ?_ ?_
                    · intro c992
                      exact absurd c992 (by decide)
                    · intro c992
                      refine g_aload KK990 226 at_226 rfl rfl ?_
                      refine g_iconst KK990 228 (0 : Int32) at_228 (by decide) ?_
                      refine g_baload KK990 229 (nar .byte v933) at_229 A981 (by decide) (by rw [show (0 : Int32).toNatClampNeg = 0 from by decide]; rfl) ?_
                      refine g_iload KK990 230 at_230 rfl ?_
                      refine g_ii_ne KK990 232 284 at_232 (by decide) (by decide) ?_ ?_
                      · intro c993
                        exfalso
                        exact c993 (own_nar hv933)
                      · intro c993
                        refine g_iload KK990 235 at_235 rfl ?_
                        refine g_iconst KK990 237 (2 : Int32) at_237 (by decide) ?_
                        refine g_ii_lt KK990 238 250 at_238 (by decide) (by decide) ?_ ?_
                        · intro c994
                          exact absurd c994 (by decide)
                        · intro c994
                          refine g_aload KK990 241 at_241 rfl rfl ?_
                          refine g_iconst KK990 243 (1 : Int32) at_243 (by decide) ?_
                          refine g_baload KK990 244 (nar .byte v934) at_244 A981 (by decide) (by rw [show (1 : Int32).toNatClampNeg = 1 from by decide]; rfl) ?_
                          refine g_iload KK990 245 at_245 rfl ?_
                          refine g_ii_ne KK990 247 284 at_247 (by decide) (by decide) ?_ ?_
                          · intro c995
                            exfalso
                            exact c995 (own_nar hv934)
                          · intro c995
                            refine g_iload KK990 250 at_250 rfl ?_
                            refine g_iconst KK990 252 (3 : Int32) at_252 (by decide) ?_
                            refine g_ii_lt KK990 253 265 at_253 (by decide) (by decide) ?_ ?_
                            · intro c996
                              refine g_iload KK990 265 at_265 rfl ?_
                              refine g_iconst KK990 267 (4 : Int32) at_267 (by decide) ?_
                              refine g_ii_lt KK990 268 280 at_268 (by decide) (by decide) ?_ ?_
                              · intro c997
                                refine g_iconst KK990 280 (1 : Int32) at_280 (by decide) ?_
                                refine g_goto KK990 281 285 at_281 (by decide) (by decide) ?_
                                refine g_istore KK990 285 #[.val (.int p0), .val (.int p1), .val (.int p2), .val (.int p3), .val (.int p4), .val (.int p5), .val (.int v1), .val (.ref cd), .val (.int (2 : Int32)), .val (.int v933), .val (.int v934), .val (.int v935), .val (.int v936), .val (.ref a937), .val (.int z985), .val (.int (0 : Int32)), .val .null, .val (.int (0 : Int32)), .val (.int (1 : Int32))] at_285 rfl ?_
                                refine g_iload KK990 287 at_287 rfl ?_
                                refine g_iload KK990 289 at_289 rfl ?_
                                refine g_ii_ne KK990 291 316 at_291 (by decide) (by decide) ?_ ?_
                                · intro c998
                                  exact absurd c998 (by decide)
                                · intro c998
                                  refine g_iload KK990 294 at_294 rfl ?_
                                  refine g_if_eq KK990 296 307 at_296 (by decide) (by decide) ?_ ?_
                                  · intro c999
                                    refine g_iload KK990 307 at_307 rfl ?_
                                    refine g_if_eq KK990 309 316 at_309 (by decide) (by decide) ?_ ?_
                                    · intro c1000
                                      exact absurd c1000 (by decide)
                                    · intro c1000
                                      refine g_iconst KK990 312 (1 : Int32) at_312 (by decide) ?_
                                      refine g_goto KK990 313 317 at_313 (by decide) (by decide) ?_
                                      refine g_retN KK990 317 .boolean at_317 rfl (by simp) (by decide) (by decide) ?_
                                      rw [hQ]
                                      rfl
                                  · intro c999
                                    exact absurd c999 (by decide)
                              · intro c997
                                exact absurd c997 (by decide)
                            · intro c996
                              exact absurd c996 (by decide)
                  · intro c987
                    exfalso
                    exact absurd (c2.symm.trans c987) (by decide)
                refine g_ii_eq K 132 174 at_132 (by decide) (by decide) ?_ ?_
                · intro c1001
                  refine g_iconst K 174 (1 : Int32) at_174 (by decide) ?_
                  refine g_goto K 175 179 at_175 (by decide) (by decide) ?_
                  exact J986 _ (by rw [if_pos c1001])
                · intro c1001
                  refine g_iload K 135 at_135 rfl ?_
                  refine g_iconst K 137 (1 : Int32) at_137 (by decide) ?_
                  refine g_ii_le K 138 148 at_138 (by decide) (by decide) ?_ ?_
                  · intro c1002
                    exact absurd c1002 (by decide)
                  · intro c1002
                    refine g_iload K 141 at_141 rfl ?_
                    refine g_bipush K 143 (10 : Int32) at_143 (by decide) ?_
                    refine g_ii_eq K 145 174 at_145 (by decide) (by decide) ?_ ?_
                    · intro c1003
                      refine g_iconst K 174 (1 : Int32) at_174 (by decide) ?_
                      refine g_goto K 175 179 at_175 (by decide) (by decide) ?_
                      exact J986 _ (by rw [if_neg c1001, if_pos c1003])
                    · intro c1003
                      refine g_iload K 148 at_148 rfl ?_
                      refine g_iconst K 150 (2 : Int32) at_150 (by decide) ?_
                      refine g_ii_le K 151 161 at_151 (by decide) (by decide) ?_ ?_
                      · intro c1004
                        refine g_iload K 161 at_161 rfl ?_
                        refine g_iconst K 163 (3 : Int32) at_163 (by decide) ?_
                        refine g_ii_le K 164 178 at_164 (by decide) (by decide) ?_ ?_
                        · intro c1005
                          refine g_iconst K 178 (0 : Int32) at_178 (by decide) ?_
                          exact J986 _ (by rw [if_neg c1001, if_neg c1003])
                        · intro c1005
                          exact absurd c1005 (by decide)
                      · intro c1004
                        exact absurd c1004 (by decide)
            · intro c983
              exact absurd c983 (by decide)
          · intro c982
            exact absurd c982 (by decide)
    · rw [hn]
      refine g_istore K 42 #[.val (.int p0), .val (.int p1), .val (.int p2), .val (.int p3), .val (.int p4), .val (.int p5), .val (.int v1), .val (.ref cd), .val (.int (3 : Int32)), .unset, .unset, .unset, .unset, .unset, .unset, .unset, .unset, .unset, .unset] at_42 rfl ?_
      refine g_iloadN K 44 at_44 rfl ?_
      refine g_callS K 45 [(.int p2)] 0 at_45 (rm_pick l Z a0 hw p2 h0 n0 Z0  ) (tw hw 4 rfl) (tw hw 5 rfl) (tw hw 6 rfl) (tw hw 7 rfl) (by decide) pd0 rfl (st := []) rfl (Nat.le_of_eq rfl) rfl (by decide) (by decide) (by decide) (by decide) ?_
      rintro _ _ ⟨hv, hh⟩
      rw [hv, hh]
      clear hv hh
      refine go_cast (k' := 0) (n' := 0) (st' := [(.int (f_pick p2))]) rfl rfl rfl ?_
      generalize hv1006 : (f_pick p2) = v1006
      refine g_istore K 48 #[.val (.int p0), .val (.int p1), .val (.int p2), .val (.int p3), .val (.int p4), .val (.int p5), .val (.int v1), .val (.ref cd), .val (.int (3 : Int32)), .val (.int v1006), .unset, .unset, .unset, .unset, .unset, .unset, .unset, .unset, .unset] at_48 rfl ?_
      refine g_iloadN K 50 at_50 rfl ?_
      refine g_callS K 51 [(.int p3)] 0 at_51 (rm_pick l Z a0 hw p3 h0 n0 Z0  ) (tw hw 4 rfl) (tw hw 5 rfl) (tw hw 6 rfl) (tw hw 7 rfl) (by decide) pd0 rfl (st := []) rfl (Nat.le_of_eq rfl) rfl (by decide) (by decide) (by decide) (by decide) ?_
      rintro _ _ ⟨hv, hh⟩
      rw [hv, hh]
      clear hv hh
      refine go_cast (k' := 0) (n' := 0) (st' := [(.int (f_pick p3))]) rfl rfl rfl ?_
      generalize hv1007 : (f_pick p3) = v1007
      refine g_istore K 54 #[.val (.int p0), .val (.int p1), .val (.int p2), .val (.int p3), .val (.int p4), .val (.int p5), .val (.int v1), .val (.ref cd), .val (.int (3 : Int32)), .val (.int v1006), .val (.int v1007), .unset, .unset, .unset, .unset, .unset, .unset, .unset, .unset] at_54 rfl ?_
      refine g_iload K 56 at_56 rfl ?_
      refine g_callS K 58 [(.int p4)] 0 at_58 (rm_pick l Z a0 hw p4 h0 n0 Z0  ) (tw hw 4 rfl) (tw hw 5 rfl) (tw hw 6 rfl) (tw hw 7 rfl) (by decide) pd0 rfl (st := []) rfl (Nat.le_of_eq rfl) rfl (by decide) (by decide) (by decide) (by decide) ?_
      rintro _ _ ⟨hv, hh⟩
      rw [hv, hh]
      clear hv hh
      refine go_cast (k' := 0) (n' := 0) (st' := [(.int (f_pick p4))]) rfl rfl rfl ?_
      generalize hv1008 : (f_pick p4) = v1008
      refine g_istore K 61 #[.val (.int p0), .val (.int p1), .val (.int p2), .val (.int p3), .val (.int p4), .val (.int p5), .val (.int v1), .val (.ref cd), .val (.int (3 : Int32)), .val (.int v1006), .val (.int v1007), .val (.int v1008), .unset, .unset, .unset, .unset, .unset, .unset, .unset] at_61 rfl ?_
      refine g_iload K 63 at_63 rfl ?_
      refine g_callS K 65 [(.int p5)] 0 at_65 (rm_pick l Z a0 hw p5 h0 n0 Z0  ) (tw hw 4 rfl) (tw hw 5 rfl) (tw hw 6 rfl) (tw hw 7 rfl) (by decide) pd0 rfl (st := []) rfl (Nat.le_of_eq rfl) rfl (by decide) (by decide) (by decide) (by decide) ?_
      rintro _ _ ⟨hv, hh⟩
      rw [hv, hh]
      clear hv hh
      refine go_cast (k' := 0) (n' := 0) (st' := [(.int (f_pick p5))]) rfl rfl rfl ?_
      generalize hv1009 : (f_pick p5) = v1009
      refine g_istore K 68 #[.val (.int p0), .val (.int p1), .val (.int p2), .val (.int p3), .val (.int p4), .val (.int p5), .val (.int v1), .val (.ref cd), .val (.int (3 : Int32)), .val (.int v1006), .val (.int v1007), .val (.int v1008), .val (.int v1009), .unset, .unset, .unset, .unset, .unset, .unset] at_68 rfl ?_
      refine g_iload K 70 at_70 rfl ?_
      refine g_newI K 72 .byte at_72 rfl rfl (tw hw 8 rfl) (by decide) 3 (by decide) (by decide) (by decide) (by decide) ?_
      intro h1011 a1010 eq1014 Kp1012 A1013
      have g1015 : n0 ≤ a1010 := eq1014 ▸ Z0
      have fr1016 : Z.heap.size ≤ a1010 := eq1014 ▸ KC0.1
      have ne1017 : cd ≠ a1010 := own_ne_of_lt E1.lt eq1014
      have ne1018 : tx ≠ a1010 := own_ne_of_lt E2.lt eq1014
      have ne1019 : sq ≠ a1010 := own_ne_of_lt E3.lt eq1014
      have S1020 := sta_keep S1 Kp1012 all0
      have S1021 := sta_keep S2 Kp1012 all0
      have S1022 := sta_keep S3 Kp1012 all0
      have E1023 := E1.keep Kp1012
      have E1024 := E2.keep Kp1012
      have E1025 := E3.keep Kp1012
      have Z1026 := Nat.le_trans Z0 Kp1012.1
      have KC1027 := KC0.trans Kp1012 all0
      have A1028 : IA Z h1011 a1010 .byte [0, 0, 0] := (by have q := A1013; rw [show (3 : Int32).toNatClampNeg = 3 from by decide] at q; exact q)
      refine g_astore K 74 #[.val (.int p0), .val (.int p1), .val (.int p2), .val (.int p3), .val (.int p4), .val (.int p5), .val (.int v1), .val (.ref cd), .val (.int (3 : Int32)), .val (.int v1006), .val (.int v1007), .val (.int v1008), .val (.int v1009), .val (.ref a1010), .unset, .unset, .unset, .unset, .unset] at_74 rfl rfl ?_
      refine g_iload K 76 at_76 rfl ?_
      refine g_if_le K 78 87 at_78 (by decide) (by decide) ?_ ?_
      · intro c1029
        exact absurd c1029 (by decide)
      · intro c1029
        refine g_aload K 81 at_81 rfl rfl ?_
        refine g_iconst K 83 (0 : Int32) at_83 (by decide) ?_
        refine g_iload K 84 at_84 rfl ?_
        refine g_bastore K 86 at_86 A1028 (by decide) (show (0 : Int32).toNatClampNeg < 3 from by decide) g1015 ?_
        intro h1030 Kp1031 A1032
        have S1033 := sta_keep S1020 Kp1031 (allS A1028.nst all0)
        have S1034 := sta_keep S1021 Kp1031 (allS A1028.nst all0)
        have S1035 := sta_keep S1022 Kp1031 (allS A1028.nst all0)
        have E1036 := E1023.keep Kp1031
        have E1037 := E1024.keep Kp1031
        have E1038 := E1025.keep Kp1031
        have Z1039 := Nat.le_trans Z1026 Kp1031.1
        have KC1040 := KC1027.trans Kp1031 (allS (Or.inr fr1016) all0)
        have A1041 : IA Z h1030 a1010 .byte [nar .byte v1006, 0, 0] := (by have q := A1032; rw [show (0 : Int32).toNatClampNeg = 0 from by decide] at q; exact q)
        refine g_iload K 87 at_87 rfl ?_
        refine g_iconst K 89 (1 : Int32) at_89 (by decide) ?_
        refine g_ii_le K 90 99 at_90 (by decide) (by decide) ?_ ?_
        · intro c1042
          exact absurd c1042 (by decide)
        · intro c1042
          refine g_aload K 93 at_93 rfl rfl ?_
          refine g_iconst K 95 (1 : Int32) at_95 (by decide) ?_
          refine g_iload K 96 at_96 rfl ?_
          refine g_bastore K 98 at_98 A1041 (by decide) (show (1 : Int32).toNatClampNeg < 3 from by decide) g1015 ?_
          intro h1043 Kp1044 A1045
          have S1046 := sta_keep S1033 Kp1044 (allS A1041.nst all0)
          have S1047 := sta_keep S1034 Kp1044 (allS A1041.nst all0)
          have S1048 := sta_keep S1035 Kp1044 (allS A1041.nst all0)
          have E1049 := E1036.keep Kp1044
          have E1050 := E1037.keep Kp1044
          have E1051 := E1038.keep Kp1044
          have Z1052 := Nat.le_trans Z1039 Kp1044.1
          have KC1053 := KC1040.trans Kp1044 (allS (Or.inr fr1016) all0)
          have A1054 : IA Z h1043 a1010 .byte [nar .byte v1006, nar .byte v1007, 0] := (by have q := A1045; rw [show (1 : Int32).toNatClampNeg = 1 from by decide] at q; exact q)
          refine g_iload K 99 at_99 rfl ?_
          refine g_iconst K 101 (2 : Int32) at_101 (by decide) ?_
          refine g_ii_le K 102 111 at_102 (by decide) (by decide) ?_ ?_
          · intro c1055
            exact absurd c1055 (by decide)
          · intro c1055
            refine g_aload K 105 at_105 rfl rfl ?_
            refine g_iconst K 107 (2 : Int32) at_107 (by decide) ?_
            refine g_iload K 108 at_108 rfl ?_
            refine g_bastore K 110 at_110 A1054 (by decide) (show (2 : Int32).toNatClampNeg < 3 from by decide) g1015 ?_
            intro h1056 Kp1057 A1058
            have S1059 := sta_keep S1046 Kp1057 (allS A1054.nst all0)
            have S1060 := sta_keep S1047 Kp1057 (allS A1054.nst all0)
            have S1061 := sta_keep S1048 Kp1057 (allS A1054.nst all0)
            have E1062 := E1049.keep Kp1057
            have E1063 := E1050.keep Kp1057
            have E1064 := E1051.keep Kp1057
            have Z1065 := Nat.le_trans Z1052 Kp1057.1
            have KC1066 := KC1053.trans Kp1057 (allS (Or.inr fr1016) all0)
            have A1067 : IA Z h1056 a1010 .byte [nar .byte v1006, nar .byte v1007, nar .byte v1008] := (by have q := A1058; rw [show (2 : Int32).toNatClampNeg = 2 from by decide] at q; exact q)
            refine g_iload K 111 at_111 rfl ?_
            refine g_iconst K 113 (3 : Int32) at_113 (by decide) ?_
            refine g_ii_le K 114 123 at_114 (by decide) (by decide) ?_ ?_
            · intro c1068
              refine g_iload K 123 at_123 rfl ?_
              refine g_if_le K 125 135 at_125 (by decide) (by decide) ?_ ?_
              · intro c1069
                exact absurd c1069 (by decide)
              · intro c1069
                refine g_iload K 128 at_128 rfl ?_
                refine g_bipush K 130 (10 : Int32) at_130 (by decide) ?_
                have J1071 : ∀ (z1070 : Int32), z1070 = (if v1006 = (10 : Int32) then (1 : Int32) else (if v1007 = (10 : Int32) then (1 : Int32) else (if v1008 = (10 : Int32) then (1 : Int32) else (0 : Int32)))) → Go p l e room_1 Z m #[(.int p0), (.int p1), (.int p2), (.int p3), (.int p4), (.int p5)] below meth c n0 (ReturnedEndW Z) Q h1056 (0 + 1) (0 + 3) (mkF m 179 #[.val (.int p0), .val (.int p1), .val (.int p2), .val (.int p3), .val (.int p4), .val (.int p5), .val (.int v1), .val (.ref cd), .val (.int (3 : Int32)), .val (.int v1006), .val (.int v1007), .val (.int v1008), .val (.int v1009), .val (.ref a1010), .unset, .unset, .unset, .unset, .unset] [(.int z1070)]) := by
                  intro z1070 hz1070
                  refine g_istore K 179 #[.val (.int p0), .val (.int p1), .val (.int p2), .val (.int p3), .val (.int p4), .val (.int p5), .val (.int v1), .val (.ref cd), .val (.int (3 : Int32)), .val (.int v1006), .val (.int v1007), .val (.int v1008), .val (.int v1009), .val (.ref a1010), .val (.int z1070), .unset, .unset, .unset, .unset] at_179 rfl ?_
                  refine g_iload K 181 at_181 rfl ?_
                  refine g_iconst K 183 (1 : Int32) at_183 (by decide) ?_
                  refine g_ii_ne K 184 196 at_184 (by decide) (by decide) ?_ ?_
                  · intro c1072
                    refine g_iconst K 196 (0 : Int32) at_196 (by decide) ?_
                    refine g_istore K 197 #[.val (.int p0), .val (.int p1), .val (.int p2), .val (.int p3), .val (.int p4), .val (.int p5), .val (.int v1), .val (.ref cd), .val (.int (3 : Int32)), .val (.int v1006), .val (.int v1007), .val (.int v1008), .val (.int v1009), .val (.ref a1010), .val (.int z1070), .val (.int (0 : Int32)), .unset, .unset, .unset] at_197 rfl ?_
                    refine g_aload K 199 at_199 rfl rfl ?_
                    refine g_aload K 201 at_201 rfl rfl ?_
                    refine g_callVW K 203 [(.ref a1010)] 0 at_203 (rm_refNo l Z a0 hw cd a1010 h1056 tx S1060 ne1) Z1065 E1062 (tw hw 9 rfl) (tw hw 10 rfl) (tw hw 12 rfl) (tw hw 12 rfl) (tw hw 11 rfl) (tw hw 2 rfl) (tw hw 13 rfl) (by decide) pd1 rfl (st := []) rfl (Nat.le_of_eq rfl) rfl (by decide) (by decide) (by decide) (by decide) rfl ?_
                    intro v h1073 vm1074 hq hs1076 KK1075
                    obtain ⟨rfl, rfl⟩ := hq
                    refine go_cast (k' := ((0 + 1) + 2)) (n' := ((0 + 3) + 216)) (st' := [.null]) rfl rfl rfl ?_
                    refine g_astore KK1075 206 #[.val (.int p0), .val (.int p1), .val (.int p2), .val (.int p3), .val (.int p4), .val (.int p5), .val (.int v1), .val (.ref cd), .val (.int (3 : Int32)), .val (.int v1006), .val (.int v1007), .val (.int v1008), .val (.int v1009), .val (.ref a1010), .val (.int z1070), .val (.int (0 : Int32)), .val .null, .unset, .unset] at_206 rfl rfl ?_
                    refine g_aload KK1075 208 at_208 rfl rfl ?_
                    refine g_ifnull_null KK1075 210 217 at_210 (by decide) (by decide) ?_
                    refine g_iconst KK1075 217 (0 : Int32) at_217 (by decide) ?_
                    refine g_istore KK1075 218 #[.val (.int p0), .val (.int p1), .val (.int p2), .val (.int p3), .val (.int p4), .val (.int p5), .val (.int v1), .val (.ref cd), .val (.int (3 : Int32)), .val (.int v1006), .val (.int v1007), .val (.int v1008), .val (.int v1009), .val (.ref a1010), .val (.int z1070), .val (.int (0 : Int32)), .val .null, .val (.int (0 : Int32)), .unset] at_218 rfl ?_
                    refine g_iload KK1075 220 at_220 rfl ?_
                    refine g_iconst KK1075 222 (1 : Int32) at_222 (by decide) ?_
                    refine g_ii_lt KK1075 223 235 at_223 (by decide) (by decide) ?_ ?_
                    · intro c1077
                      exact absurd c1077 (by decide)
                    · intro c1077
                      refine g_aload KK1075 226 at_226 rfl rfl ?_
                      refine g_iconst KK1075 228 (0 : Int32) at_228 (by decide) ?_
                      refine g_baload KK1075 229 (nar .byte v1006) at_229 A1067 (by decide) (by rw [show (0 : Int32).toNatClampNeg = 0 from by decide]; rfl) ?_
                      refine g_iload KK1075 230 at_230 rfl ?_
                      refine g_ii_ne KK1075 232 284 at_232 (by decide) (by decide) ?_ ?_
                      · intro c1078
                        exfalso
                        exact c1078 (own_nar hv1006)
                      · intro c1078
                        refine g_iload KK1075 235 at_235 rfl ?_
                        refine g_iconst KK1075 237 (2 : Int32) at_237 (by decide) ?_
                        refine g_ii_lt KK1075 238 250 at_238 (by decide) (by decide) ?_ ?_
                        · intro c1079
                          exact absurd c1079 (by decide)
                        · intro c1079
                          refine g_aload KK1075 241 at_241 rfl rfl ?_
                          refine g_iconst KK1075 243 (1 : Int32) at_243 (by decide) ?_
                          refine g_baload KK1075 244 (nar .byte v1007) at_244 A1067 (by decide) (by rw [show (1 : Int32).toNatClampNeg = 1 from by decide]; rfl) ?_
                          refine g_iload KK1075 245 at_245 rfl ?_
                          refine g_ii_ne KK1075 247 284 at_247 (by decide) (by decide) ?_ ?_
                          · intro c1080
                            exfalso
                            exact c1080 (own_nar hv1007)
                          · intro c1080
                            refine g_iload KK1075 250 at_250 rfl ?_
                            refine g_iconst KK1075 252 (3 : Int32) at_252 (by decide) ?_
                            refine g_ii_lt KK1075 253 265 at_253 (by decide) (by decide) ?_ ?_
                            · intro c1081
                              exact absurd c1081 (by decide)
                            · intro c1081
                              refine g_aload KK1075 256 at_256 rfl rfl ?_
                              refine g_iconst KK1075 258 (2 : Int32) at_258 (by decide) ?_
                              refine g_baload KK1075 259 (nar .byte v1008) at_259 A1067 (by decide) (by rw [show (2 : Int32).toNatClampNeg = 2 from by decide]; rfl) ?_
                              refine g_iload KK1075 260 at_260 rfl ?_
                              refine g_ii_ne KK1075 262 284 at_262 (by decide) (by decide) ?_ ?_
                              · intro c1082
                                exfalso
                                exact c1082 (own_nar hv1008)
                              · intro c1082
                                refine g_iload KK1075 265 at_265 rfl ?_
                                refine g_iconst KK1075 267 (4 : Int32) at_267 (by decide) ?_
                                refine g_ii_lt KK1075 268 280 at_268 (by decide) (by decide) ?_ ?_
                                · intro c1083
                                  refine g_iconst KK1075 280 (1 : Int32) at_280 (by decide) ?_
                                  refine g_goto KK1075 281 285 at_281 (by decide) (by decide) ?_
                                  refine g_istore KK1075 285 #[.val (.int p0), .val (.int p1), .val (.int p2), .val (.int p3), .val (.int p4), .val (.int p5), .val (.int v1), .val (.ref cd), .val (.int (3 : Int32)), .val (.int v1006), .val (.int v1007), .val (.int v1008), .val (.int v1009), .val (.ref a1010), .val (.int z1070), .val (.int (0 : Int32)), .val .null, .val (.int (0 : Int32)), .val (.int (1 : Int32))] at_285 rfl ?_
                                  refine g_iload KK1075 287 at_287 rfl ?_
                                  refine g_iload KK1075 289 at_289 rfl ?_
                                  refine g_ii_ne KK1075 291 316 at_291 (by decide) (by decide) ?_ ?_
                                  · intro c1084
                                    exact absurd c1084 (by decide)
                                  · intro c1084
                                    refine g_iload KK1075 294 at_294 rfl ?_
                                    refine g_if_eq KK1075 296 307 at_296 (by decide) (by decide) ?_ ?_
                                    · intro c1085
                                      refine g_iload KK1075 307 at_307 rfl ?_
                                      refine g_if_eq KK1075 309 316 at_309 (by decide) (by decide) ?_ ?_
                                      · intro c1086
                                        exact absurd c1086 (by decide)
                                      · intro c1086
                                        refine g_iconst KK1075 312 (1 : Int32) at_312 (by decide) ?_
                                        refine g_goto KK1075 313 317 at_313 (by decide) (by decide) ?_
                                        refine g_retN KK1075 317 .boolean at_317 rfl (by simp) (by decide) (by decide) ?_
                                        rw [hQ]
                                        rfl
                                    · intro c1085
                                      exact absurd c1085 (by decide)
                                · intro c1083
                                  exact absurd c1083 (by decide)
                  · intro c1072
                    exfalso
                    exact absurd (c2.symm.trans c1072) (by decide)
                refine g_ii_eq K 132 174 at_132 (by decide) (by decide) ?_ ?_
                · intro c1087
                  refine g_iconst K 174 (1 : Int32) at_174 (by decide) ?_
                  refine g_goto K 175 179 at_175 (by decide) (by decide) ?_
                  exact J1071 _ (by rw [if_pos c1087])
                · intro c1087
                  refine g_iload K 135 at_135 rfl ?_
                  refine g_iconst K 137 (1 : Int32) at_137 (by decide) ?_
                  refine g_ii_le K 138 148 at_138 (by decide) (by decide) ?_ ?_
                  · intro c1088
                    exact absurd c1088 (by decide)
                  · intro c1088
                    refine g_iload K 141 at_141 rfl ?_
                    refine g_bipush K 143 (10 : Int32) at_143 (by decide) ?_
                    refine g_ii_eq K 145 174 at_145 (by decide) (by decide) ?_ ?_
                    · intro c1089
                      refine g_iconst K 174 (1 : Int32) at_174 (by decide) ?_
                      refine g_goto K 175 179 at_175 (by decide) (by decide) ?_
                      exact J1071 _ (by rw [if_neg c1087, if_pos c1089])
                    · intro c1089
                      refine g_iload K 148 at_148 rfl ?_
                      refine g_iconst K 150 (2 : Int32) at_150 (by decide) ?_
                      refine g_ii_le K 151 161 at_151 (by decide) (by decide) ?_ ?_
                      · intro c1090
                        exact absurd c1090 (by decide)
                      · intro c1090
                        refine g_iload K 154 at_154 rfl ?_
                        refine g_bipush K 156 (10 : Int32) at_156 (by decide) ?_
                        refine g_ii_eq K 158 174 at_158 (by decide) (by decide) ?_ ?_
                        · intro c1091
                          refine g_iconst K 174 (1 : Int32) at_174 (by decide) ?_
                          refine g_goto K 175 179 at_175 (by decide) (by decide) ?_
                          exact J1071 _ (by rw [if_neg c1087, if_neg c1089, if_pos c1091])
                        · intro c1091
                          refine g_iload K 161 at_161 rfl ?_
                          refine g_iconst K 163 (3 : Int32) at_163 (by decide) ?_
                          refine g_ii_le K 164 178 at_164 (by decide) (by decide) ?_ ?_
                          · intro c1092
                            refine g_iconst K 178 (0 : Int32) at_178 (by decide) ?_
                            exact J1071 _ (by rw [if_neg c1087, if_neg c1089, if_neg c1091])
                          · intro c1092
                            exact absurd c1092 (by decide)
            · intro c1068
              exact absurd c1068 (by decide)
    · rw [hn]
      refine g_istore K 42 #[.val (.int p0), .val (.int p1), .val (.int p2), .val (.int p3), .val (.int p4), .val (.int p5), .val (.int v1), .val (.ref cd), .val (.int (4 : Int32)), .unset, .unset, .unset, .unset, .unset, .unset, .unset, .unset, .unset, .unset] at_42 rfl ?_
      refine g_iloadN K 44 at_44 rfl ?_
      refine g_callS K 45 [(.int p2)] 0 at_45 (rm_pick l Z a0 hw p2 h0 n0 Z0  ) (tw hw 4 rfl) (tw hw 5 rfl) (tw hw 6 rfl) (tw hw 7 rfl) (by decide) pd0 rfl (st := []) rfl (Nat.le_of_eq rfl) rfl (by decide) (by decide) (by decide) (by decide) ?_
      rintro _ _ ⟨hv, hh⟩
      rw [hv, hh]
      clear hv hh
      refine go_cast (k' := 0) (n' := 0) (st' := [(.int (f_pick p2))]) rfl rfl rfl ?_
      generalize hv1093 : (f_pick p2) = v1093
      refine g_istore K 48 #[.val (.int p0), .val (.int p1), .val (.int p2), .val (.int p3), .val (.int p4), .val (.int p5), .val (.int v1), .val (.ref cd), .val (.int (4 : Int32)), .val (.int v1093), .unset, .unset, .unset, .unset, .unset, .unset, .unset, .unset, .unset] at_48 rfl ?_
      refine g_iloadN K 50 at_50 rfl ?_
      refine g_callS K 51 [(.int p3)] 0 at_51 (rm_pick l Z a0 hw p3 h0 n0 Z0  ) (tw hw 4 rfl) (tw hw 5 rfl) (tw hw 6 rfl) (tw hw 7 rfl) (by decide) pd0 rfl (st := []) rfl (Nat.le_of_eq rfl) rfl (by decide) (by decide) (by decide) (by decide) ?_
      rintro _ _ ⟨hv, hh⟩
      rw [hv, hh]
      clear hv hh
      refine go_cast (k' := 0) (n' := 0) (st' := [(.int (f_pick p3))]) rfl rfl rfl ?_
      generalize hv1094 : (f_pick p3) = v1094
      refine g_istore K 54 #[.val (.int p0), .val (.int p1), .val (.int p2), .val (.int p3), .val (.int p4), .val (.int p5), .val (.int v1), .val (.ref cd), .val (.int (4 : Int32)), .val (.int v1093), .val (.int v1094), .unset, .unset, .unset, .unset, .unset, .unset, .unset, .unset] at_54 rfl ?_
      refine g_iload K 56 at_56 rfl ?_
      refine g_callS K 58 [(.int p4)] 0 at_58 (rm_pick l Z a0 hw p4 h0 n0 Z0  ) (tw hw 4 rfl) (tw hw 5 rfl) (tw hw 6 rfl) (tw hw 7 rfl) (by decide) pd0 rfl (st := []) rfl (Nat.le_of_eq rfl) rfl (by decide) (by decide) (by decide) (by decide) ?_
      rintro _ _ ⟨hv, hh⟩
      rw [hv, hh]
      clear hv hh
      refine go_cast (k' := 0) (n' := 0) (st' := [(.int (f_pick p4))]) rfl rfl rfl ?_
      generalize hv1095 : (f_pick p4) = v1095
      refine g_istore K 61 #[.val (.int p0), .val (.int p1), .val (.int p2), .val (.int p3), .val (.int p4), .val (.int p5), .val (.int v1), .val (.ref cd), .val (.int (4 : Int32)), .val (.int v1093), .val (.int v1094), .val (.int v1095), .unset, .unset, .unset, .unset, .unset, .unset, .unset] at_61 rfl ?_
      refine g_iload K 63 at_63 rfl ?_
      refine g_callS K 65 [(.int p5)] 0 at_65 (rm_pick l Z a0 hw p5 h0 n0 Z0  ) (tw hw 4 rfl) (tw hw 5 rfl) (tw hw 6 rfl) (tw hw 7 rfl) (by decide) pd0 rfl (st := []) rfl (Nat.le_of_eq rfl) rfl (by decide) (by decide) (by decide) (by decide) ?_
      rintro _ _ ⟨hv, hh⟩
      rw [hv, hh]
      clear hv hh
      refine go_cast (k' := 0) (n' := 0) (st' := [(.int (f_pick p5))]) rfl rfl rfl ?_
      generalize hv1096 : (f_pick p5) = v1096
      refine g_istore K 68 #[.val (.int p0), .val (.int p1), .val (.int p2), .val (.int p3), .val (.int p4), .val (.int p5), .val (.int v1), .val (.ref cd), .val (.int (4 : Int32)), .val (.int v1093), .val (.int v1094), .val (.int v1095), .val (.int v1096), .unset, .unset, .unset, .unset, .unset, .unset] at_68 rfl ?_
      refine g_iload K 70 at_70 rfl ?_
      refine g_newI K 72 .byte at_72 rfl rfl (tw hw 8 rfl) (by decide) 4 (by decide) (by decide) (by decide) (by decide) ?_
      intro h1098 a1097 eq1101 Kp1099 A1100
      have g1102 : n0 ≤ a1097 := eq1101 ▸ Z0
      have fr1103 : Z.heap.size ≤ a1097 := eq1101 ▸ KC0.1
      have ne1104 : cd ≠ a1097 := own_ne_of_lt E1.lt eq1101
      have ne1105 : tx ≠ a1097 := own_ne_of_lt E2.lt eq1101
      have ne1106 : sq ≠ a1097 := own_ne_of_lt E3.lt eq1101
      have S1107 := sta_keep S1 Kp1099 all0
      have S1108 := sta_keep S2 Kp1099 all0
      have S1109 := sta_keep S3 Kp1099 all0
      have E1110 := E1.keep Kp1099
      have E1111 := E2.keep Kp1099
      have E1112 := E3.keep Kp1099
      have Z1113 := Nat.le_trans Z0 Kp1099.1
      have KC1114 := KC0.trans Kp1099 all0
      have A1115 : IA Z h1098 a1097 .byte [0, 0, 0, 0] := (by have q := A1100; rw [show (4 : Int32).toNatClampNeg = 4 from by decide] at q; exact q)
      refine g_astore K 74 #[.val (.int p0), .val (.int p1), .val (.int p2), .val (.int p3), .val (.int p4), .val (.int p5), .val (.int v1), .val (.ref cd), .val (.int (4 : Int32)), .val (.int v1093), .val (.int v1094), .val (.int v1095), .val (.int v1096), .val (.ref a1097), .unset, .unset, .unset, .unset, .unset] at_74 rfl rfl ?_
      refine g_iload K 76 at_76 rfl ?_
      refine g_if_le K 78 87 at_78 (by decide) (by decide) ?_ ?_
      · intro c1116
        exact absurd c1116 (by decide)
      · intro c1116
        refine g_aload K 81 at_81 rfl rfl ?_
        refine g_iconst K 83 (0 : Int32) at_83 (by decide) ?_
        refine g_iload K 84 at_84 rfl ?_
        refine g_bastore K 86 at_86 A1115 (by decide) (show (0 : Int32).toNatClampNeg < 4 from by decide) g1102 ?_
        intro h1117 Kp1118 A1119
        have S1120 := sta_keep S1107 Kp1118 (allS A1115.nst all0)
        have S1121 := sta_keep S1108 Kp1118 (allS A1115.nst all0)
        have S1122 := sta_keep S1109 Kp1118 (allS A1115.nst all0)
        have E1123 := E1110.keep Kp1118
        have E1124 := E1111.keep Kp1118
        have E1125 := E1112.keep Kp1118
        have Z1126 := Nat.le_trans Z1113 Kp1118.1
        have KC1127 := KC1114.trans Kp1118 (allS (Or.inr fr1103) all0)
        have A1128 : IA Z h1117 a1097 .byte [nar .byte v1093, 0, 0, 0] := (by have q := A1119; rw [show (0 : Int32).toNatClampNeg = 0 from by decide] at q; exact q)
        refine g_iload K 87 at_87 rfl ?_
        refine g_iconst K 89 (1 : Int32) at_89 (by decide) ?_
        refine g_ii_le K 90 99 at_90 (by decide) (by decide) ?_ ?_
        · intro c1129
          exact absurd c1129 (by decide)
        · intro c1129
          refine g_aload K 93 at_93 rfl rfl ?_
          refine g_iconst K 95 (1 : Int32) at_95 (by decide) ?_
          refine g_iload K 96 at_96 rfl ?_
          refine g_bastore K 98 at_98 A1128 (by decide) (show (1 : Int32).toNatClampNeg < 4 from by decide) g1102 ?_
          intro h1130 Kp1131 A1132
          have S1133 := sta_keep S1120 Kp1131 (allS A1128.nst all0)
          have S1134 := sta_keep S1121 Kp1131 (allS A1128.nst all0)
          have S1135 := sta_keep S1122 Kp1131 (allS A1128.nst all0)
          have E1136 := E1123.keep Kp1131
          have E1137 := E1124.keep Kp1131
          have E1138 := E1125.keep Kp1131
          have Z1139 := Nat.le_trans Z1126 Kp1131.1
          have KC1140 := KC1127.trans Kp1131 (allS (Or.inr fr1103) all0)
          have A1141 : IA Z h1130 a1097 .byte [nar .byte v1093, nar .byte v1094, 0, 0] := (by have q := A1132; rw [show (1 : Int32).toNatClampNeg = 1 from by decide] at q; exact q)
          refine g_iload K 99 at_99 rfl ?_
          refine g_iconst K 101 (2 : Int32) at_101 (by decide) ?_
          refine g_ii_le K 102 111 at_102 (by decide) (by decide) ?_ ?_
          · intro c1142
            exact absurd c1142 (by decide)
          · intro c1142
            refine g_aload K 105 at_105 rfl rfl ?_
            refine g_iconst K 107 (2 : Int32) at_107 (by decide) ?_
            refine g_iload K 108 at_108 rfl ?_
            refine g_bastore K 110 at_110 A1141 (by decide) (show (2 : Int32).toNatClampNeg < 4 from by decide) g1102 ?_
            intro h1143 Kp1144 A1145
            have S1146 := sta_keep S1133 Kp1144 (allS A1141.nst all0)
            have S1147 := sta_keep S1134 Kp1144 (allS A1141.nst all0)
            have S1148 := sta_keep S1135 Kp1144 (allS A1141.nst all0)
            have E1149 := E1136.keep Kp1144
            have E1150 := E1137.keep Kp1144
            have E1151 := E1138.keep Kp1144
            have Z1152 := Nat.le_trans Z1139 Kp1144.1
            have KC1153 := KC1140.trans Kp1144 (allS (Or.inr fr1103) all0)
            have A1154 : IA Z h1143 a1097 .byte [nar .byte v1093, nar .byte v1094, nar .byte v1095, 0] := (by have q := A1145; rw [show (2 : Int32).toNatClampNeg = 2 from by decide] at q; exact q)
            refine g_iload K 111 at_111 rfl ?_
            refine g_iconst K 113 (3 : Int32) at_113 (by decide) ?_
            refine g_ii_le K 114 123 at_114 (by decide) (by decide) ?_ ?_
            · intro c1155
              exact absurd c1155 (by decide)
            · intro c1155
              refine g_aload K 117 at_117 rfl rfl ?_
              refine g_iconst K 119 (3 : Int32) at_119 (by decide) ?_
              refine g_iload K 120 at_120 rfl ?_
              refine g_bastore K 122 at_122 A1154 (by decide) (show (3 : Int32).toNatClampNeg < 4 from by decide) g1102 ?_
              intro h1156 Kp1157 A1158
              have S1159 := sta_keep S1146 Kp1157 (allS A1154.nst all0)
              have S1160 := sta_keep S1147 Kp1157 (allS A1154.nst all0)
              have S1161 := sta_keep S1148 Kp1157 (allS A1154.nst all0)
              have E1162 := E1149.keep Kp1157
              have E1163 := E1150.keep Kp1157
              have E1164 := E1151.keep Kp1157
              have Z1165 := Nat.le_trans Z1152 Kp1157.1
              have KC1166 := KC1153.trans Kp1157 (allS (Or.inr fr1103) all0)
              have A1167 : IA Z h1156 a1097 .byte [nar .byte v1093, nar .byte v1094, nar .byte v1095, nar .byte v1096] := (by have q := A1158; rw [show (3 : Int32).toNatClampNeg = 3 from by decide] at q; exact q)
              refine g_iload K 123 at_123 rfl ?_
              refine g_if_le K 125 135 at_125 (by decide) (by decide) ?_ ?_
              · intro c1168
                exact absurd c1168 (by decide)
              · intro c1168
                refine g_iload K 128 at_128 rfl ?_
                refine g_bipush K 130 (10 : Int32) at_130 (by decide) ?_
                have J1170 : ∀ (z1169 : Int32), z1169 = (if v1093 = (10 : Int32) then (1 : Int32) else (if v1094 = (10 : Int32) then (1 : Int32) else (if v1095 = (10 : Int32) then (1 : Int32) else (if v1096 = (10 : Int32) then (1 : Int32) else (0 : Int32))))) → Go p l e room_1 Z m #[(.int p0), (.int p1), (.int p2), (.int p3), (.int p4), (.int p5)] below meth c n0 (ReturnedEndW Z) Q h1156 (0 + 1) (0 + 4) (mkF m 179 #[.val (.int p0), .val (.int p1), .val (.int p2), .val (.int p3), .val (.int p4), .val (.int p5), .val (.int v1), .val (.ref cd), .val (.int (4 : Int32)), .val (.int v1093), .val (.int v1094), .val (.int v1095), .val (.int v1096), .val (.ref a1097), .unset, .unset, .unset, .unset, .unset] [(.int z1169)]) := by
                  intro z1169 hz1169
                  refine g_istore K 179 #[.val (.int p0), .val (.int p1), .val (.int p2), .val (.int p3), .val (.int p4), .val (.int p5), .val (.int v1), .val (.ref cd), .val (.int (4 : Int32)), .val (.int v1093), .val (.int v1094), .val (.int v1095), .val (.int v1096), .val (.ref a1097), .val (.int z1169), .unset, .unset, .unset, .unset] at_179 rfl ?_
                  refine g_iload K 181 at_181 rfl ?_
                  refine g_iconst K 183 (1 : Int32) at_183 (by decide) ?_
                  refine g_ii_ne K 184 196 at_184 (by decide) (by decide) ?_ ?_
                  · intro c1171
                    refine g_iconst K 196 (0 : Int32) at_196 (by decide) ?_
                    refine g_istore K 197 #[.val (.int p0), .val (.int p1), .val (.int p2), .val (.int p3), .val (.int p4), .val (.int p5), .val (.int v1), .val (.ref cd), .val (.int (4 : Int32)), .val (.int v1093), .val (.int v1094), .val (.int v1095), .val (.int v1096), .val (.ref a1097), .val (.int z1169), .val (.int (0 : Int32)), .unset, .unset, .unset] at_197 rfl ?_
                    refine g_aload K 199 at_199 rfl rfl ?_
                    refine g_aload K 201 at_201 rfl rfl ?_
                    refine g_callVW K 203 [(.ref a1097)] 0 at_203 (rm_refNo l Z a0 hw cd a1097 h1156 tx S1160 ne1) Z1165 E1162 (tw hw 9 rfl) (tw hw 10 rfl) (tw hw 12 rfl) (tw hw 12 rfl) (tw hw 11 rfl) (tw hw 2 rfl) (tw hw 13 rfl) (by decide) pd1 rfl (st := []) rfl (Nat.le_of_eq rfl) rfl (by decide) (by decide) (by decide) (by decide) rfl ?_
                    intro v h1172 vm1173 hq hs1175 KK1174
                    obtain ⟨rfl, rfl⟩ := hq
                    refine go_cast (k' := ((0 + 1) + 2)) (n' := ((0 + 4) + 216)) (st' := [.null]) rfl rfl rfl ?_
                    refine g_astore KK1174 206 #[.val (.int p0), .val (.int p1), .val (.int p2), .val (.int p3), .val (.int p4), .val (.int p5), .val (.int v1), .val (.ref cd), .val (.int (4 : Int32)), .val (.int v1093), .val (.int v1094), .val (.int v1095), .val (.int v1096), .val (.ref a1097), .val (.int z1169), .val (.int (0 : Int32)), .val .null, .unset, .unset] at_206 rfl rfl ?_
                    refine g_aload KK1174 208 at_208 rfl rfl ?_
                    refine g_ifnull_null KK1174 210 217 at_210 (by decide) (by decide) ?_
                    refine g_iconst KK1174 217 (0 : Int32) at_217 (by decide) ?_
                    refine g_istore KK1174 218 #[.val (.int p0), .val (.int p1), .val (.int p2), .val (.int p3), .val (.int p4), .val (.int p5), .val (.int v1), .val (.ref cd), .val (.int (4 : Int32)), .val (.int v1093), .val (.int v1094), .val (.int v1095), .val (.int v1096), .val (.ref a1097), .val (.int z1169), .val (.int (0 : Int32)), .val .null, .val (.int (0 : Int32)), .unset] at_218 rfl ?_
                    refine g_iload KK1174 220 at_220 rfl ?_
                    refine g_iconst KK1174 222 (1 : Int32) at_222 (by decide) ?_
                    refine g_ii_lt KK1174 223 235 at_223 (by decide) (by decide) ?_ ?_
                    · intro c1176
                      exact absurd c1176 (by decide)
                    · intro c1176
                      refine g_aload KK1174 226 at_226 rfl rfl ?_
                      refine g_iconst KK1174 228 (0 : Int32) at_228 (by decide) ?_
                      refine g_baload KK1174 229 (nar .byte v1093) at_229 A1167 (by decide) (by rw [show (0 : Int32).toNatClampNeg = 0 from by decide]; rfl) ?_
                      refine g_iload KK1174 230 at_230 rfl ?_
                      refine g_ii_ne KK1174 232 284 at_232 (by decide) (by decide) ?_ ?_
                      · intro c1177
                        exfalso
                        exact c1177 (own_nar hv1093)
                      · intro c1177
                        refine g_iload KK1174 235 at_235 rfl ?_
                        refine g_iconst KK1174 237 (2 : Int32) at_237 (by decide) ?_
                        refine g_ii_lt KK1174 238 250 at_238 (by decide) (by decide) ?_ ?_
                        · intro c1178
                          exact absurd c1178 (by decide)
                        · intro c1178
                          refine g_aload KK1174 241 at_241 rfl rfl ?_
                          refine g_iconst KK1174 243 (1 : Int32) at_243 (by decide) ?_
                          refine g_baload KK1174 244 (nar .byte v1094) at_244 A1167 (by decide) (by rw [show (1 : Int32).toNatClampNeg = 1 from by decide]; rfl) ?_
                          refine g_iload KK1174 245 at_245 rfl ?_
                          refine g_ii_ne KK1174 247 284 at_247 (by decide) (by decide) ?_ ?_
                          · intro c1179
                            exfalso
                            exact c1179 (own_nar hv1094)
                          · intro c1179
                            refine g_iload KK1174 250 at_250 rfl ?_
                            refine g_iconst KK1174 252 (3 : Int32) at_252 (by decide) ?_
                            refine g_ii_lt KK1174 253 265 at_253 (by decide) (by decide) ?_ ?_
                            · intro c1180
                              exact absurd c1180 (by decide)
                            · intro c1180
                              refine g_aload KK1174 256 at_256 rfl rfl ?_
                              refine g_iconst KK1174 258 (2 : Int32) at_258 (by decide) ?_
                              refine g_baload KK1174 259 (nar .byte v1095) at_259 A1167 (by decide) (by rw [show (2 : Int32).toNatClampNeg = 2 from by decide]; rfl) ?_
                              refine g_iload KK1174 260 at_260 rfl ?_
                              refine g_ii_ne KK1174 262 284 at_262 (by decide) (by decide) ?_ ?_
                              · intro c1181
                                exfalso
                                exact c1181 (own_nar hv1095)
                              · intro c1181
                                refine g_iload KK1174 265 at_265 rfl ?_
                                refine g_iconst KK1174 267 (4 : Int32) at_267 (by decide) ?_
                                refine g_ii_lt KK1174 268 280 at_268 (by decide) (by decide) ?_ ?_
                                · intro c1182
                                  exact absurd c1182 (by decide)
                                · intro c1182
                                  refine g_aload KK1174 271 at_271 rfl rfl ?_
                                  refine g_iconst KK1174 273 (3 : Int32) at_273 (by decide) ?_
                                  refine g_baload KK1174 274 (nar .byte v1096) at_274 A1167 (by decide) (by rw [show (3 : Int32).toNatClampNeg = 3 from by decide]; rfl) ?_
                                  refine g_iload KK1174 275 at_275 rfl ?_
                                  refine g_ii_ne KK1174 277 284 at_277 (by decide) (by decide) ?_ ?_
                                  · intro c1183
                                    exfalso
                                    exact c1183 (own_nar hv1096)
                                  · intro c1183
                                    refine g_iconst KK1174 280 (1 : Int32) at_280 (by decide) ?_
                                    refine g_goto KK1174 281 285 at_281 (by decide) (by decide) ?_
                                    refine g_istore KK1174 285 #[.val (.int p0), .val (.int p1), .val (.int p2), .val (.int p3), .val (.int p4), .val (.int p5), .val (.int v1), .val (.ref cd), .val (.int (4 : Int32)), .val (.int v1093), .val (.int v1094), .val (.int v1095), .val (.int v1096), .val (.ref a1097), .val (.int z1169), .val (.int (0 : Int32)), .val .null, .val (.int (0 : Int32)), .val (.int (1 : Int32))] at_285 rfl ?_
                                    refine g_iload KK1174 287 at_287 rfl ?_
                                    refine g_iload KK1174 289 at_289 rfl ?_
                                    refine g_ii_ne KK1174 291 316 at_291 (by decide) (by decide) ?_ ?_
                                    · intro c1184
                                      exact absurd c1184 (by decide)
                                    · intro c1184
                                      refine g_iload KK1174 294 at_294 rfl ?_
                                      refine g_if_eq KK1174 296 307 at_296 (by decide) (by decide) ?_ ?_
                                      · intro c1185
                                        refine g_iload KK1174 307 at_307 rfl ?_
                                        refine g_if_eq KK1174 309 316 at_309 (by decide) (by decide) ?_ ?_
                                        · intro c1186
                                          exact absurd c1186 (by decide)
                                        · intro c1186
                                          refine g_iconst KK1174 312 (1 : Int32) at_312 (by decide) ?_
                                          refine g_goto KK1174 313 317 at_313 (by decide) (by decide) ?_
                                          refine g_retN KK1174 317 .boolean at_317 rfl (by simp) (by decide) (by decide) ?_
                                          rw [hQ]
                                          rfl
                                      · intro c1185
                                        exact absurd c1185 (by decide)
                  · intro c1171
                    exfalso
                    exact absurd (c2.symm.trans c1171) (by decide)
                refine g_ii_eq K 132 174 at_132 (by decide) (by decide) ?_ ?_
                · intro c1187
                  refine g_iconst K 174 (1 : Int32) at_174 (by decide) ?_
                  refine g_goto K 175 179 at_175 (by decide) (by decide) ?_
                  exact J1170 _ (by rw [if_pos c1187])
                · intro c1187
                  refine g_iload K 135 at_135 rfl ?_
                  refine g_iconst K 137 (1 : Int32) at_137 (by decide) ?_
                  refine g_ii_le K 138 148 at_138 (by decide) (by decide) ?_ ?_
                  · intro c1188
                    exact absurd c1188 (by decide)
                  · intro c1188
                    refine g_iload K 141 at_141 rfl ?_
                    refine g_bipush K 143 (10 : Int32) at_143 (by decide) ?_
                    refine g_ii_eq K 145 174 at_145 (by decide) (by decide) ?_ ?_
                    · intro c1189
                      refine g_iconst K 174 (1 : Int32) at_174 (by decide) ?_
                      refine g_goto K 175 179 at_175 (by decide) (by decide) ?_
                      exact J1170 _ (by rw [if_neg c1187, if_pos c1189])
                    · intro c1189
                      refine g_iload K 148 at_148 rfl ?_
                      refine g_iconst K 150 (2 : Int32) at_150 (by decide) ?_
                      refine g_ii_le K 151 161 at_151 (by decide) (by decide) ?_ ?_
                      · intro c1190
                        exact absurd c1190 (by decide)
                      · intro c1190
                        refine g_iload K 154 at_154 rfl ?_
                        refine g_bipush K 156 (10 : Int32) at_156 (by decide) ?_
                        refine g_ii_eq K 158 174 at_158 (by decide) (by decide) ?_ ?_
                        · intro c1191
                          refine g_iconst K 174 (1 : Int32) at_174 (by decide) ?_
                          refine g_goto K 175 179 at_175 (by decide) (by decide) ?_
                          exact J1170 _ (by rw [if_neg c1187, if_neg c1189, if_pos c1191])
                        · intro c1191
                          refine g_iload K 161 at_161 rfl ?_
                          refine g_iconst K 163 (3 : Int32) at_163 (by decide) ?_
                          refine g_ii_le K 164 178 at_164 (by decide) (by decide) ?_ ?_
                          · intro c1192
                            exact absurd c1192 (by decide)
                          · intro c1192
                            refine g_iload K 167 at_167 rfl ?_
                            refine g_bipush K 169 (10 : Int32) at_169 (by decide) ?_
                            refine g_ii_ne K 171 178 at_171 (by decide) (by decide) ?_ ?_
                            · intro c1193
                              refine g_iconst K 178 (0 : Int32) at_178 (by decide) ?_
                              exact J1170 _ (by rw [if_neg c1187, if_neg c1189, if_neg c1191, if_neg c1193])
                            · intro c1193
                              refine g_iconst K 174 (1 : Int32) at_174 (by decide) ?_
                              refine g_goto K 175 179 at_175 (by decide) (by decide) ?_
                              exact J1170 _ (by rw [if_neg c1187, if_neg c1189, if_neg c1191, if_pos c1193])
set_option maxRecDepth 65536 in
theorem comes_1 {Post : Tables → Env → Array Value → State → Outcome → State → Prop} (hpost : ∀ tb e args s v u, (limb_1_1.after args s (.returned v) u = true ∧ limb_1_2.after args s (.returned v) u = true ∧ True) → Jvm.D.FramedW s (.returned v) u (Jvm.fieldLocs frame_1_writes args s ++ Jvm.arrayLocs frame_1_arrays args s ++ Jvm.staticLocs frame_1_statics s) 16 1152 → Post tb e args s (.returned v) u) :
    ArmFor flags0 classFile x code maxLocals ret World_1 tables_1 room_1 Calls_1 rest_1 Pre_1 Post := by
  intro l hfl _ _ p e ha hc hk s m args below hf hA hF happ hP
  obtain ⟨hcalls, hrest, hpre⟩ := hP
  obtain ⟨-, -, -, hnamed, -, -, -, hat⟩ := (Spec.applies_iff hf).mp happ
  obtain ⟨hg, hn⟩ := and_e (Cond.before_iff.mp (show (Jvm.Cond.and given_1 narrow_1).before args s = true from hpre))
  obtain ⟨hcnt, hg0⟩ := and_e hg
  obtain ⟨w0, w1, w2, w3, w4, w5, rfl⟩ : ∃ w0 w1 w2 w3 w4 w5 : Value, args = #[w0, w1, w2, w3, w4, w5] := by
    have hs : args.size = 6 := by simpa [Cond.value, given_1] using hcnt
    obtain ⟨L⟩ := args
    match L, hs with
    | [w0, w1, w2, w3, w4, w5], _ => exact ⟨w0, w1, w2, w3, w4, w5, rfl⟩
  have hw := fun d (hd : d ∈ tables_1) => atoms_spec (ws := Jvm.Cond.code x code maxLocals ret :: tables_1) hat d (List.mem_cons_of_mem _ hd)
  obtain ⟨hq0, hg1⟩ := and_e hg0
  obtain ⟨i0, e0⟩ := is_v hq0
  obtain rfl : w0 = (.int i0) := Option.some.inj e0
  obtain ⟨hq1, hg2⟩ := and_e hg1
  obtain ⟨i1, e1⟩ := is_v hq1
  obtain rfl : w1 = (.int i1) := Option.some.inj e1
  obtain ⟨hq2, hg3⟩ := and_e hg2
  obtain ⟨i2, e2⟩ := is_v hq2
  obtain rfl : w2 = (.int i2) := Option.some.inj e2
  obtain ⟨hq3, hg4⟩ := and_e hg3
  obtain ⟨i3, e3⟩ := is_v hq3
  obtain rfl : w3 = (.int i3) := Option.some.inj e3
  obtain ⟨hq4, hg5⟩ := and_e hg4
  obtain ⟨i4, e4⟩ := is_v hq4
  obtain rfl : w4 = (.int i4) := Option.some.inj e4
  obtain ⟨i5, e5⟩ := is_v hg5
  obtain rfl : w5 = (.int i5) := Option.some.inj e5
  obtain ⟨hx1, hn⟩ := and_e hn
  obtain ⟨hx2, hn⟩ := and_e hn
  obtain ⟨ho1, hn⟩ := and_e hn
  obtain ⟨ho2, hn⟩ := and_e hn
  obtain ⟨hx3, ho3⟩ := and_e hn
  obtain ⟨cd, ev1⟩ := exa_v hx1
  have S1 : Sta s s.heap "com/example/caddis/caddis/SegmentFormat" "CADDIS" "Lcom/example/caddis/caddis/SegmentFormat;" (.ref cd) := Sta.start ev1 (Or.inr ⟨(hw _ (List.mem_of_getElem? (i := 2) rfl)), (hw _ (List.mem_of_getElem? (i := 3) rfl))⟩)
  have E1 := Exa.start ev1 hx1
  have F1 := Fld.start ((fld_at ev1).symm.trans (Cond.eq_int (beq_iff_eq.mpr ho1) (Term.int_eval (0))))
  obtain ⟨tx, ev2⟩ := exa_v hx2
  have S2 : Sta s s.heap "com/example/caddis/caddis/SegmentFormat" "TEXT" "Lcom/example/caddis/caddis/SegmentFormat;" (.ref tx) := Sta.start ev2 (Or.inr ⟨(hw _ (List.mem_of_getElem? (i := 2) rfl)), (hw _ (List.mem_of_getElem? (i := 15) rfl))⟩)
  have E2 := Exa.start ev2 hx2
  have F2 := Fld.start ((fld_at ev2).symm.trans (Cond.eq_int (beq_iff_eq.mpr ho2) (Term.int_eval (1))))
  obtain ⟨sq, ev3⟩ := exa_v hx3
  have S3 : Sta s s.heap "com/example/caddis/caddis/SegmentFormat" "SEQUENCE_FILE" "Lcom/example/caddis/caddis/SegmentFormat;" (.ref sq) := Sta.start ev3 (Or.inr ⟨(hw _ (List.mem_of_getElem? (i := 2) rfl)), (hw _ (List.mem_of_getElem? (i := 31) rfl))⟩)
  have E3 := Exa.start ev3 hx3
  have F3 := Fld.start ((fld_at ev3).symm.trans (Cond.eq_int (beq_iff_eq.mpr ho3) (Term.int_eval (2))))
  obtain ⟨hsets, hown0⟩ := atoms_of _ (rest_1_c_eq ▸ (show rest_1_c.before _ s = true from hrest))
  have hcw : Jvm.Lit.compactW.before _ s = true := hsets _ (List.mem_of_getElem? (i := 2) rfl)
  have hh : Jvm.Lit.constHeld s "com/example/caddis/caddis/SegmentFormat" 72 := hcalls.1 _ (List.mem_cons_self ..)
  obtain ⟨n, o, h1, h2, h3, _, L, rfl, ⟨rfl, N⟩, hq⟩ := rm_law l s _ hw i0 i1 i2 i3 i4 i5 cd tx sq S1 S2 S3 E1 E2 E3 (F1.ne F2 (by decide)) (F3.ne F2 (by decide)) hh hcw tables_1 p e ha hc hk s m _ below hf ((Spec.applies_iff_loose hf).mp happ).1 ⟨rfl, rfl⟩ trivial
  refine ⟨n, _, h1, h2, h3, hpost _ _ _ _ _ _ ⟨Cond.after_iff.mpr rfl, Cond.after_iff.mpr (eq_i res_at (Term.int_eval (1)) rfl), trivial⟩ ⟨hq.1, hq.2.1, hq.2.2.1, (hq.2.2.2.sift fun y hy => Or.inr (N y hy)).mono (by decide) (by decide)⟩⟩
theorem main_1_1 : Claimed_1_1 := comes_1 fun _ _ _ _ _ _ h hF => ⟨h.1, hF⟩
theorem main_1_2 : Claimed_1_2 := comes_1 fun _ _ _ _ _ _ h hF => ⟨h.2.1, hF⟩
end Jvm.Pilot.@@N@@
namespace Jvm.Pilot.@@N@@
open Jvm Jvm.ClassFile Sem Op Lib Jvm.Free Jvm.Stand Jvm.Pilot.@@N@@.Jvm.D
/-! MADE BY PROGRAM (witnessworld.py) out of the Statement's table words and the real class files: 18 classes; the members and pool entries that the words name. The judged class is class 1, her method 2. -/
namespace start1
open Jvm.ClassFile
def u (s : String) : CpInfo := .utf8 (stringToUtf16 s)
/-- a pool by its gaps: so many unusable entries, then the entry; so many at the end -/
def gap : Nat → List CpInfo → List CpInfo
  | 0, r => r
  | n + 1, r => .unusable :: gap n r
def poolList (es : List (Nat × CpInfo)) (last : Nat) : List CpInfo := es.foldr (fun e r => gap e.1 (e.2 :: r)) (gap last [])
def pool (es : List (Nat × CpInfo)) (last : Nat) : Array CpInfo := ⟨poolList es last⟩
def fileOf (pool : Array CpInfo) (this : Nat) (attrs : Array Attribute := #[]) (ms : Array MethodInfo := #[]) (fl : Nat := 33) (sup : Nat := 0) (ifs : Array Nat := #[]) (fds : Array FieldInfo := #[]) : ClassFile where
  minorVersion := 0
  majorVersion := 65
  constantPool := pool
  accessFlags := fl
  thisClass := this
  superClass := sup
  interfaces := ifs
  fields := fds
  methods := ms
  attributes := attrs
def plain (name : String) (sup : Option ClassId) : Class where
  name := name
  kind := .ordinary
  loader := none
  accessFlags := 33
  super := sup
  interfaces := #[]
  cf := none
  fields := #[]
  methods := #[]
  instanceTypes := #[]
  staticTypes := #[]
  resolved := #[]
  callSites := []
  init := .initialized
  statics := none
  mirror := none

def pool0 : Array CpInfo := pool [(5, u "<init>"), (0, u "()V"), (1, .class_ 10), (1, u "java/lang/Object")] 113

def k0m0 : Method := { name := "<init>", desc := "()V", sig := { parameters := [], returnType := none }, accessFlags := 1, code := none }
/-- java/lang/Object -/
def k0 : Class := { plain "java/lang/Object" none with
  accessFlags := 33
  interfaces := #[]
  cf := some (fileOf pool0 8 #[] #[{ accessFlags := 1, nameIndex := 5, descriptorIndex := 6, attributes := #[] }] 33 0 #[] #[])
  fields := #[]
  methods := #[k0m0]
  instanceTypes := #[]
  staticTypes := #[]
  resolved := Array.replicate 124 none
  statics := none }

def pool1 : Array CpInfo := pool [(2, .class_ 4), (1, u "java/lang/Object"), (0, u "<init>"), (0, u "()V"), (0, .integer 2147483647), (0, .fieldref 9 10), (0, .class_ 11), (0, .nameAndType 12 13), (0, u "com/example/caddis/caddis/SegmentFormat"), (0, u "CADDIS"), (0, u "Lcom/example/caddis/caddis/SegmentFormat;"), (0, .fieldref 9 15), (0, .nameAndType 16 13), (0, u "TEXT"), (0, .fieldref 9 18), (0, .nameAndType 19 13), (0, u "SEQUENCE_FILE"), (0, .methodref 21 22), (0, .class_ 23), (0, .nameAndType 24 25), (0, u "com/example/caddis/caddis/SegmentFormatRefusalOfPinLaw"), (0, u "pick"), (0, u "(I)B"), (0, .methodref 9 27), (0, .nameAndType 28 29), (0, u "refusalOf"), (0, u "([B)Ljava/lang/String;"), (0, .methodref 31 32), (0, .class_ 33), (0, .nameAndType 34 35), (0, u "java/lang/String"), (0, u "isEmpty"), (0, u "()Z"), (3, u "law"), (0, u "(IIIIII)Z")] 4

def k1m0 : Method := { name := "<init>", desc := "()V", sig := { parameters := [], returnType := none }, accessFlags := 2, code := none }
def k1c1 : Code := { maxStack := 2, maxLocals := 1, code := method_2_code, exceptionTable := #[], attributes := #[] }
def k1m1 : Method := { name := "pick", desc := "(I)B", sig := { parameters := [.int], returnType := some .byte }, accessFlags := 10, code := some k1c1 }
def k1c2 : Code := { maxStack := 3, maxLocals := 19, code := code, exceptionTable := #[], attributes := #[] }
def k1m2 : Method := { name := "law", desc := "(IIIIII)Z", sig := { parameters := [.int, .int, .int, .int, .int, .int], returnType := some .boolean }, accessFlags := 9, code := some k1c2 }
/-- com/example/caddis/caddis/SegmentFormatRefusalOfPinLaw -/
def k1 : Class := { plain "com/example/caddis/caddis/SegmentFormatRefusalOfPinLaw" (some 0) with
  accessFlags := 49
  interfaces := #[]
  cf := some (fileOf pool1 21 #[] #[{ accessFlags := 2, nameIndex := 5, descriptorIndex := 6, attributes := #[] }, { accessFlags := 10, nameIndex := 24, descriptorIndex := 25, attributes := #[] }, { accessFlags := 9, nameIndex := 39, descriptorIndex := 40, attributes := #[] }] 49 2 #[] #[])
  fields := #[]
  methods := #[k1m0, k1m1, k1m2]
  instanceTypes := #[]
  staticTypes := #[]
  resolved := Array.replicate 45 none
  statics := none }

def pool2 : Array CpInfo := pool [(1, .class_ 2), (0, u "java/lang/constant/Constable"), (0, .class_ 4), (0, u "java/lang/Object")] 6

/-- java/lang/constant/Constable -/
def k2 : Class := { plain "java/lang/constant/Constable" (some 0) with
  accessFlags := 1537
  interfaces := #[]
  cf := some (fileOf pool2 1 #[] #[] 1537 3 #[] #[])
  fields := #[]
  methods := #[]
  instanceTypes := #[]
  staticTypes := #[]
  resolved := Array.replicate 11 none
  statics := none }

def pool3 : Array CpInfo := pool [(1, .class_ 2), (0, u "java/lang/Comparable"), (0, .class_ 4), (0, u "java/lang/Object")] 7

/-- java/lang/Comparable -/
def k3 : Class := { plain "java/lang/Comparable" (some 0) with
  accessFlags := 1537
  interfaces := #[]
  cf := some (fileOf pool3 1 #[] #[] 1537 3 #[] #[])
  fields := #[]
  methods := #[]
  instanceTypes := #[]
  staticTypes := #[]
  resolved := Array.replicate 12 none
  statics := none }

def pool4 : Array CpInfo := pool [(1, .class_ 2), (0, u "java/io/Serializable"), (0, .class_ 4), (0, u "java/lang/Object")] 2

/-- java/io/Serializable -/
def k4 : Class := { plain "java/io/Serializable" (some 0) with
  accessFlags := 1537
  interfaces := #[]
  cf := some (fileOf pool4 1 #[] #[] 1537 3 #[] #[])
  fields := #[]
  methods := #[]
  instanceTypes := #[]
  staticTypes := #[]
  resolved := Array.replicate 7 none
  statics := none }

def pool5 : Array CpInfo := pool [(2, .class_ 4), (1, u "java/lang/Enum"), (0, u "name"), (0, u "Ljava/lang/String;"), (2, u "ordinal"), (0, u "I"), (1, .class_ 14), (1, u "java/lang/Object"), (4, u "hash"), (86, .class_ 108), (1, u "java/lang/Enum$EnumDesc"), (2, .class_ 112), (0, u "java/lang/constant/Constable"), (0, .class_ 114), (0, u "java/lang/Comparable"), (0, .class_ 116), (0, u "java/io/Serializable")] 87

/-- java/lang/Enum -/
def k5 : Class := { plain "java/lang/Enum" (some 0) with
  accessFlags := 1057
  interfaces := #[2, 3, 4]
  cf := some (fileOf pool5 2 #[.nestMembers #[106]] #[] 1057 12 #[111, 113, 115] #[{ accessFlags := 18, nameIndex := 5, descriptorIndex := 6, attributes := #[] }, { accessFlags := 18, nameIndex := 9, descriptorIndex := 10, attributes := #[] }, { accessFlags := 2, nameIndex := 19, descriptorIndex := 10, attributes := #[] }])
  fields := #[{ name := "name", type := (.object "java/lang/String"), accessFlags := 18, slot := 0, constantValue := 0 }, { name := "ordinal", type := .int, accessFlags := 18, slot := 1, constantValue := 0 }, { name := "hash", type := .int, accessFlags := 2, slot := 2, constantValue := 0 }]
  methods := #[]
  instanceTypes := #[(.object "java/lang/String"), .int, .int]
  staticTypes := #[]
  resolved := Array.replicate 204 none
  statics := none }

def pool6 : Array CpInfo := pool [(1, .class_ 2), (0, u "com/example/caddis/caddis/SegmentFormat"), (2, u "CADDIS"), (0, u "Lcom/example/caddis/caddis/SegmentFormat;"), (0, .fieldref 1 8), (0, .nameAndType 9 6), (0, u "TEXT"), (2, u "SEQUENCE_FILE"), (2, u "$VALUES"), (0, u "[Lcom/example/caddis/caddis/SegmentFormat;"), (6, .class_ 25), (1, u "java/lang/Enum"), (8, u "formatName"), (0, u "Ljava/lang/String;"), (2, u "extension"), (2, u "code"), (0, u "I"), (29, .string 73), (0, u "an event of a log of text segments holds no line feed"), (71, u "refusalOf"), (0, u "([B)Ljava/lang/String;")] 17

def k6c0 : Code := { maxStack := 2, maxLocals := 7, code := prog_39_method_10_code, exceptionTable := #[], attributes := #[] }
def k6m0 : Method := { name := "refusalOf", desc := "([B)Ljava/lang/String;", sig := { parameters := [(.array .byte)], returnType := some (.object "java/lang/String") }, accessFlags := 0, code := some k6c0 }
/-- com/example/caddis/caddis/SegmentFormat -/
def k6 : Class := { plain "com/example/caddis/caddis/SegmentFormat" (some 5) with
  accessFlags := 16432
  interfaces := #[]
  cf := some (fileOf pool6 1 #[] #[{ accessFlags := 0, nameIndex := 145, descriptorIndex := 146, attributes := #[] }] 16432 23 #[] #[{ accessFlags := 16409, nameIndex := 5, descriptorIndex := 6, attributes := #[] }, { accessFlags := 16409, nameIndex := 9, descriptorIndex := 6, attributes := #[] }, { accessFlags := 16409, nameIndex := 12, descriptorIndex := 6, attributes := #[] }, { accessFlags := 18, nameIndex := 34, descriptorIndex := 35, attributes := #[] }, { accessFlags := 18, nameIndex := 38, descriptorIndex := 35, attributes := #[] }, { accessFlags := 18, nameIndex := 41, descriptorIndex := 42, attributes := #[] }, { accessFlags := 4122, nameIndex := 15, descriptorIndex := 16, attributes := #[] }])
  fields := #[{ name := "CADDIS", type := (.object "com/example/caddis/caddis/SegmentFormat"), accessFlags := 16409, slot := 0, constantValue := 0 }, { name := "TEXT", type := (.object "com/example/caddis/caddis/SegmentFormat"), accessFlags := 16409, slot := 1, constantValue := 0 }, { name := "SEQUENCE_FILE", type := (.object "com/example/caddis/caddis/SegmentFormat"), accessFlags := 16409, slot := 2, constantValue := 0 }, { name := "formatName", type := (.object "java/lang/String"), accessFlags := 18, slot := 3, constantValue := 0 }, { name := "extension", type := (.object "java/lang/String"), accessFlags := 18, slot := 4, constantValue := 0 }, { name := "code", type := .int, accessFlags := 18, slot := 5, constantValue := 0 }, { name := "$VALUES", type := (.array (.object "com/example/caddis/caddis/SegmentFormat")), accessFlags := 4122, slot := 3, constantValue := 0 }]
  methods := #[k6m0]
  instanceTypes := #[(.object "java/lang/String"), .int, .int, (.object "java/lang/String"), (.object "java/lang/String"), .int]
  staticTypes := #[(.object "com/example/caddis/caddis/SegmentFormat"), (.object "com/example/caddis/caddis/SegmentFormat"), (.object "com/example/caddis/caddis/SegmentFormat"), (.array (.object "com/example/caddis/caddis/SegmentFormat"))]
  resolved := Array.replicate 164 none
  statics := some 0 }

def pool7 : Array CpInfo := pool [(2, .class_ 4), (1, u "java/lang/CharSequence"), (42, .class_ 48), (0, u "java/lang/CharSequence$1CodePointIterator"), (10, .class_ 60), (0, u "java/lang/CharSequence$1CharIterator"), (5, .class_ 67), (0, u "java/lang/Object")] 63

/-- java/lang/CharSequence -/
def k7 : Class := { plain "java/lang/CharSequence" (some 0) with
  accessFlags := 1537
  interfaces := #[]
  cf := some (fileOf pool7 2 #[.nestMembers #[47, 59]] #[] 1537 66 #[] #[])
  fields := #[]
  methods := #[]
  instanceTypes := #[]
  staticTypes := #[]
  resolved := Array.replicate 131 none
  statics := none }

def pool8 : Array CpInfo := pool [(1, .class_ 2), (0, u "java/lang/constant/ConstantDesc"), (0, .class_ 4), (0, u "java/lang/Object")] 32

/-- java/lang/constant/ConstantDesc -/
def k8 : Class := { plain "java/lang/constant/ConstantDesc" (some 0) with
  accessFlags := 1537
  interfaces := #[]
  cf := some (fileOf pool8 1 #[] #[] 1537 3 #[] #[])
  fields := #[]
  methods := #[]
  instanceTypes := #[]
  staticTypes := #[]
  resolved := Array.replicate 37 none
  statics := none }

def pool9 : Array CpInfo := pool [(2, .class_ 4), (1, u "java/lang/Object"), (0, u "<init>"), (0, u "()V"), (2, .fieldref 10 11), (0, .class_ 12), (0, .nameAndType 13 14), (0, u "java/lang/String"), (0, u "value"), (0, u "[B"), (2, u "coder"), (0, u "B"), (2, u "hash"), (0, u "I"), (2, u "hashIsZero"), (0, u "Z"), (13, u "COMPACT_STRINGS"), (101, u "()Z"), (432, .class_ 576), (0, u "java/lang/CharSequence"), (22, u "CASE_INSENSITIVE_ORDER"), (0, u "Ljava/util/Comparator;"), (91, u "isEmpty"), (408, u "serialPersistentFields"), (0, u "[Ljava/io/ObjectStreamField;"), (0, .class_ 1104), (0, u "java/lang/String$CaseInsensitiveComparator"), (1, .class_ 1107), (0, u "java/io/Serializable"), (0, .class_ 1109), (0, u "java/lang/Comparable"), (0, .class_ 1111), (0, u "java/lang/constant/Constable"), (0, .class_ 1113), (0, u "java/lang/constant/ConstantDesc"), (2, u "serialVersionUID"), (0, u "J"), (3, u "REPL"), (0, u "C"), (2, u "LATIN1"), (1, u "UTF16")] 323

def k9m0 : Method := { name := "<init>", desc := "()V", sig := { parameters := [], returnType := none }, accessFlags := 1, code := none }
def k9c1 : Code := { maxStack := 1, maxLocals := 1, code := jdk_42_method_55_code, exceptionTable := #[], attributes := #[] }
def k9m1 : Method := { name := "isEmpty", desc := "()Z", sig := { parameters := [], returnType := some .boolean }, accessFlags := 1, code := some k9c1 }
/-- java/lang/String -/
def k9 : Class := { plain "java/lang/String" (some 0) with
  accessFlags := 49
  interfaces := #[4, 3, 7, 2, 8]
  cf := some (fileOf pool9 10 #[.nestMembers #[1103]] #[{ accessFlags := 1, nameIndex := 5, descriptorIndex := 6, attributes := #[] }, { accessFlags := 1, nameIndex := 692, descriptorIndex := 142, attributes := #[] }] 49 2 #[1106, 1108, 575, 1110, 1112] #[{ accessFlags := 18, nameIndex := 13, descriptorIndex := 14, attributes := #[] }, { accessFlags := 18, nameIndex := 17, descriptorIndex := 18, attributes := #[] }, { accessFlags := 2, nameIndex := 21, descriptorIndex := 22, attributes := #[] }, { accessFlags := 2, nameIndex := 25, descriptorIndex := 26, attributes := #[] }, { accessFlags := 26, nameIndex := 1116, descriptorIndex := 1117, attributes := #[] }, { accessFlags := 24, nameIndex := 40, descriptorIndex := 26, attributes := #[] }, { accessFlags := 26, nameIndex := 1101, descriptorIndex := 1102, attributes := #[] }, { accessFlags := 26, nameIndex := 1121, descriptorIndex := 1122, attributes := #[] }, { accessFlags := 25, nameIndex := 599, descriptorIndex := 600, attributes := #[] }, { accessFlags := 24, nameIndex := 1125, descriptorIndex := 18, attributes := #[] }, { accessFlags := 24, nameIndex := 1127, descriptorIndex := 18, attributes := #[] }])
  fields := #[{ name := "value", type := (.array .byte), accessFlags := 18, slot := 0, constantValue := 0 }, { name := "coder", type := .byte, accessFlags := 18, slot := 1, constantValue := 0 }, { name := "hash", type := .int, accessFlags := 2, slot := 2, constantValue := 0 }, { name := "hashIsZero", type := .boolean, accessFlags := 2, slot := 3, constantValue := 0 }, { name := "serialVersionUID", type := .long, accessFlags := 26, slot := 0, constantValue := 0 }, { name := "COMPACT_STRINGS", type := .boolean, accessFlags := 24, slot := 1, constantValue := 0 }, { name := "serialPersistentFields", type := (.array (.object "java/io/ObjectStreamField")), accessFlags := 26, slot := 2, constantValue := 0 }, { name := "REPL", type := .char, accessFlags := 26, slot := 3, constantValue := 0 }, { name := "CASE_INSENSITIVE_ORDER", type := (.object "java/util/Comparator"), accessFlags := 25, slot := 4, constantValue := 0 }, { name := "LATIN1", type := .byte, accessFlags := 24, slot := 5, constantValue := 0 }, { name := "UTF16", type := .byte, accessFlags := 24, slot := 6, constantValue := 0 }]
  methods := #[k9m0, k9m1]
  instanceTypes := #[(.array .byte), .byte, .int, .boolean]
  staticTypes := #[.long, .boolean, (.array (.object "java/io/ObjectStreamField")), .char, (.object "java/util/Comparator"), .byte, .byte]
  resolved := Array.replicate 1451 none
  statics := some 1 }

def pool10 : Array CpInfo := pool [(4, .class_ 6), (1, u "java/lang/Object"), (0, u "<init>"), (0, u "()V"), (5, .class_ 16), (1, u "java/lang/StringLatin1"), (104, u "$assertionsDisabled"), (0, u "Z"), (98, .class_ 223), (1, u "java/lang/StringLatin1$LinesSpliterator"), (166, .class_ 391), (0, u "java/lang/StringLatin1$CharsSpliterator")] 3

def k10m0 : Method := { name := "<init>", desc := "()V", sig := { parameters := [], returnType := none }, accessFlags := 0, code := none }
/-- java/lang/StringLatin1 -/
def k10 : Class := { plain "java/lang/StringLatin1" (some 0) with
  accessFlags := 48
  interfaces := #[]
  cf := some (fileOf pool10 14 #[.nestMembers #[390, 221]] #[{ accessFlags := 0, nameIndex := 7, descriptorIndex := 8, attributes := #[] }] 48 4 #[] #[{ accessFlags := 4120, nameIndex := 121, descriptorIndex := 122, attributes := #[] }])
  fields := #[{ name := "$assertionsDisabled", type := .boolean, accessFlags := 4120, slot := 0, constantValue := 0 }]
  methods := #[k10m0]
  instanceTypes := #[]
  staticTypes := #[.boolean]
  resolved := Array.replicate 395 none
  statics := none }

def pool11 : Array CpInfo := pool [(2, .class_ 4), (1, u "java/lang/Object"), (0, u "<init>"), (0, u "()V"), (17, .class_ 26), (1, u "jdk/internal/util/Preconditions"), (28, .class_ 56), (0, u "jdk/internal/util/Preconditions$4"), (57, .class_ 115), (0, u "jdk/internal/util/Preconditions$1"), (7, u "SIOOBE_FORMATTER"), (0, u "Ljava/util/function/BiFunction;"), (0, .class_ 126), (0, u "jdk/internal/util/Preconditions$2"), (3, u "AIOOBE_FORMATTER"), (0, .class_ 132), (0, u "jdk/internal/util/Preconditions$3"), (3, u "IOOBE_FORMATTER")] 57

def k11m0 : Method := { name := "<init>", desc := "()V", sig := { parameters := [], returnType := none }, accessFlags := 1, code := none }
/-- jdk/internal/util/Preconditions -/
def k11 : Class := { plain "jdk/internal/util/Preconditions" (some 0) with
  accessFlags := 33
  interfaces := #[]
  cf := some (fileOf pool11 24 #[.nestMembers #[55, 131, 125, 114]] #[{ accessFlags := 1, nameIndex := 5, descriptorIndex := 6, attributes := #[] }] 33 2 #[] #[{ accessFlags := 25, nameIndex := 123, descriptorIndex := 124, attributes := #[] }, { accessFlags := 25, nameIndex := 130, descriptorIndex := 124, attributes := #[] }, { accessFlags := 25, nameIndex := 136, descriptorIndex := 124, attributes := #[] }])
  fields := #[{ name := "SIOOBE_FORMATTER", type := (.object "java/util/function/BiFunction"), accessFlags := 25, slot := 0, constantValue := 0 }, { name := "AIOOBE_FORMATTER", type := (.object "java/util/function/BiFunction"), accessFlags := 25, slot := 1, constantValue := 0 }, { name := "IOOBE_FORMATTER", type := (.object "java/util/function/BiFunction"), accessFlags := 25, slot := 2, constantValue := 0 }]
  methods := #[k11m0]
  instanceTypes := #[]
  staticTypes := #[(.object "java/util/function/BiFunction"), (.object "java/util/function/BiFunction"), (.object "java/util/function/BiFunction")]
  resolved := Array.replicate 194 none
  statics := some 2 }

def pool12 : Array CpInfo := pool [(9, u "<init>"), (6, .class_ 18), (1, u "java/lang/Object"), (0, u "()V"), (1, .class_ 23), (1, u "jdk/internal/util/ArraysSupport"), (0, u "LOG2_ARRAY_LONG_INDEX_SCALE"), (0, u "I"), (2, u "U"), (0, u "Ljdk/internal/misc/Unsafe;"), (8, u "BIG_ENDIAN"), (0, u "Z"), (8, u "LOG2_BYTE_BIT_SIZE"), (4, u "LOG2_ARRAY_INT_INDEX_SCALE"), (54, u "JLA"), (0, u "Ljdk/internal/access/JavaLangAccess;"), (11, u "LOG2_ARRAY_BOOLEAN_INDEX_SCALE"), (9, u "LOG2_ARRAY_BYTE_INDEX_SCALE"), (5, u "LOG2_ARRAY_CHAR_INDEX_SCALE"), (5, u "LOG2_ARRAY_SHORT_INDEX_SCALE"), (18, u "LOG2_ARRAY_FLOAT_INDEX_SCALE"), (24, u "LOG2_ARRAY_DOUBLE_INDEX_SCALE"), (89, u "T_BOOLEAN"), (2, u "T_CHAR"), (1, u "T_FLOAT"), (1, u "T_DOUBLE"), (1, u "T_BYTE"), (1, u "T_SHORT"), (1, u "T_INT"), (1, u "T_LONG"), (1, u "SOFT_MAX_ARRAY_LENGTH")] 83

def k12m0 : Method := { name := "<init>", desc := "()V", sig := { parameters := [], returnType := none }, accessFlags := 2, code := none }
/-- jdk/internal/util/ArraysSupport -/
def k12 : Class := { plain "jdk/internal/util/ArraysSupport" (some 0) with
  accessFlags := 33
  interfaces := #[]
  cf := some (fileOf pool12 21 #[] #[{ accessFlags := 2, nameIndex := 9, descriptorIndex := 19, attributes := #[] }] 33 16 #[] #[{ accessFlags := 24, nameIndex := 28, descriptorIndex := 29, attributes := #[] }, { accessFlags := 26, nameIndex := 38, descriptorIndex := 39, attributes := #[] }, { accessFlags := 25, nameIndex := 121, descriptorIndex := 25, attributes := #[] }, { accessFlags := 25, nameIndex := 131, descriptorIndex := 25, attributes := #[] }, { accessFlags := 25, nameIndex := 137, descriptorIndex := 25, attributes := #[] }, { accessFlags := 25, nameIndex := 143, descriptorIndex := 25, attributes := #[] }, { accessFlags := 25, nameIndex := 53, descriptorIndex := 25, attributes := #[] }, { accessFlags := 25, nameIndex := 24, descriptorIndex := 25, attributes := #[] }, { accessFlags := 25, nameIndex := 162, descriptorIndex := 25, attributes := #[] }, { accessFlags := 25, nameIndex := 187, descriptorIndex := 25, attributes := #[] }, { accessFlags := 26, nameIndex := 48, descriptorIndex := 25, attributes := #[] }, { accessFlags := 25, nameIndex := 277, descriptorIndex := 25, attributes := #[] }, { accessFlags := 25, nameIndex := 280, descriptorIndex := 25, attributes := #[] }, { accessFlags := 25, nameIndex := 282, descriptorIndex := 25, attributes := #[] }, { accessFlags := 25, nameIndex := 284, descriptorIndex := 25, attributes := #[] }, { accessFlags := 25, nameIndex := 286, descriptorIndex := 25, attributes := #[] }, { accessFlags := 25, nameIndex := 288, descriptorIndex := 25, attributes := #[] }, { accessFlags := 25, nameIndex := 290, descriptorIndex := 25, attributes := #[] }, { accessFlags := 25, nameIndex := 292, descriptorIndex := 25, attributes := #[] }, { accessFlags := 26, nameIndex := 108, descriptorIndex := 109, attributes := #[] }, { accessFlags := 25, nameIndex := 294, descriptorIndex := 25, attributes := #[] }])
  fields := #[{ name := "U", type := (.object "jdk/internal/misc/Unsafe"), accessFlags := 24, slot := 0, constantValue := 0 }, { name := "BIG_ENDIAN", type := .boolean, accessFlags := 26, slot := 1, constantValue := 0 }, { name := "LOG2_ARRAY_BOOLEAN_INDEX_SCALE", type := .int, accessFlags := 25, slot := 2, constantValue := 0 }, { name := "LOG2_ARRAY_BYTE_INDEX_SCALE", type := .int, accessFlags := 25, slot := 3, constantValue := 0 }, { name := "LOG2_ARRAY_CHAR_INDEX_SCALE", type := .int, accessFlags := 25, slot := 4, constantValue := 0 }, { name := "LOG2_ARRAY_SHORT_INDEX_SCALE", type := .int, accessFlags := 25, slot := 5, constantValue := 0 }, { name := "LOG2_ARRAY_INT_INDEX_SCALE", type := .int, accessFlags := 25, slot := 6, constantValue := 0 }, { name := "LOG2_ARRAY_LONG_INDEX_SCALE", type := .int, accessFlags := 25, slot := 7, constantValue := 0 }, { name := "LOG2_ARRAY_FLOAT_INDEX_SCALE", type := .int, accessFlags := 25, slot := 8, constantValue := 0 }, { name := "LOG2_ARRAY_DOUBLE_INDEX_SCALE", type := .int, accessFlags := 25, slot := 9, constantValue := 0 }, { name := "LOG2_BYTE_BIT_SIZE", type := .int, accessFlags := 26, slot := 10, constantValue := 0 }, { name := "T_BOOLEAN", type := .int, accessFlags := 25, slot := 11, constantValue := 0 }, { name := "T_CHAR", type := .int, accessFlags := 25, slot := 12, constantValue := 0 }, { name := "T_FLOAT", type := .int, accessFlags := 25, slot := 13, constantValue := 0 }, { name := "T_DOUBLE", type := .int, accessFlags := 25, slot := 14, constantValue := 0 }, { name := "T_BYTE", type := .int, accessFlags := 25, slot := 15, constantValue := 0 }, { name := "T_SHORT", type := .int, accessFlags := 25, slot := 16, constantValue := 0 }, { name := "T_INT", type := .int, accessFlags := 25, slot := 17, constantValue := 0 }, { name := "T_LONG", type := .int, accessFlags := 25, slot := 18, constantValue := 0 }, { name := "JLA", type := (.object "jdk/internal/access/JavaLangAccess"), accessFlags := 26, slot := 19, constantValue := 0 }, { name := "SOFT_MAX_ARRAY_LENGTH", type := .int, accessFlags := 25, slot := 20, constantValue := 0 }]
  methods := #[k12m0]
  instanceTypes := #[]
  staticTypes := #[(.object "jdk/internal/misc/Unsafe"), .boolean, .int, .int, .int, .int, .int, .int, .int, .int, .int, .int, .int, .int, .int, .int, .int, .int, .int, (.object "jdk/internal/access/JavaLangAccess"), .int]
  resolved := Array.replicate 378 none
  statics := none }

def pool13 : Array CpInfo := pool [(1, u "java/lang/Cloneable"), (0, .class_ 1), (0, u "java/lang/Object"), (0, .class_ 3)] 3

/-- java/lang/Cloneable -/
def k13 : Class := { plain "java/lang/Cloneable" (some 0) with
  accessFlags := 1537
  interfaces := #[]
  cf := some (fileOf pool13 2 #[] #[] 1537 4 #[] #[])
  fields := #[]
  methods := #[]
  instanceTypes := #[]
  staticTypes := #[]
  resolved := Array.replicate 8 none
  statics := none }

/-- the primitive byte -/
def k14 : Class := { plain "byte" none with kind := .primitive 'B', accessFlags := 0x411 }
/-- [B -/
def k15 : Class := { plain "[B" (some 0) with kind := .array 14 .byte, interfaces := #[13, 4], accessFlags := 1041 }

/-- the primitive int -/
def k16 : Class := { plain "int" none with kind := .primitive 'I', accessFlags := 0x411 }
/-- [I -/
def k17 : Class := { plain "[I" (some 0) with kind := .array 16 .int, interfaces := #[13, 4], accessFlags := 1041 }

def heap : Heap := #[{ cls := 6, slots := #[.ref 3, .ref 4, .ref 5, .null], vm := .statics 6 },
  { cls := 9, slots := #[.long 0, .int 1, .null, .int 0, .null, .int 0, .int 0], vm := .statics 9 },
  { cls := 11, slots := #[.null, .null, .null], vm := .statics 11 },
  { cls := 6, slots := #[.null, .int 0, .int 0, .null, .null, .int 0], vm := .none },
  { cls := 6, slots := #[.null, .int 1, .int 0, .null, .null, .int 0], vm := .none },
  { cls := 6, slots := #[.null, .int 2, .int 0, .null, .null, .int 0], vm := .none }]
def classes : Array Class := #[k0, k1, k2, k3, k4, k5, k6, k7, k8, k9, k10, k11, k12, k13, k14, k15, k16, k17]
def interned : List (Array UInt16 × Addr) := []
def slotsUsed : Nat := 32
def theMethod : MethodId := ⟨1, 2⟩
def args0 : Array Value := #[.int 1, .int 0, .int 65, .int 65, .int 65, .int 65]
def aboutOver (below : List Frame) : State where
  vm := { classes := classes, interned := interned.toArray }
  heap := heap
  slotsUsed := slotsUsed
  threads := #[{ frames := .invoking theMethod args0 :: below }]
def below0 : List Frame := [.native { method := ⟨0, 0⟩, args := #[] }]
def about1 : State := aboutOver below0
def p0 : Program := .bare "" "" ""
def e0 : Env := launch0.env 0 0 0
theorem w_frames : about1.frames = Frame.invoking theMethod args0 :: below0 := rfl
set_option maxRecDepth 65536 in
theorem w_args : argsFit about1.vm theMethod args0 = true := by decide +kernel
set_option maxRecDepth 65536 in
theorem w_heap : heapFits about1 = true := by decide +kernel
set_option maxRecDepth 65536 in
theorem w_runnable : about1.curStatus? = some .runnable := by decide +kernel
set_option maxRecDepth 65536 in
theorem w_alone : about1.alone = true := by decide +kernel
set_option maxRecDepth 65536 in
theorem w_named : about1.methodNamed? x = some theMethod := by decide +kernel
set_option maxRecDepth 65536 in
theorem w_hears : about1.hears theMethod below0 = true := by decide +kernel
set_option maxRecDepth 65536 in
theorem w_ripe : about1.ripe theMethod args0 below0 = true := by decide +kernel
theorem w_running : about1.status = .running := rfl
set_option maxRecDepth 65536 in
theorem w_room : about1.hasRoom e0.platform room_1 = true :=
  launch0.hasRoom_least _ room_1 (by decide +kernel) (by decide +kernel) (by decide +kernel) (by decide +kernel) (by decide +kernel) (by decide +kernel)
theorem allAtoms_all (ts : List Jvm.Cond) (a : Array Jvm.Value) (st : Jvm.State) : (allAtoms ts).before a st = ts.all (fun c => c.before a st) := by
  induction ts with
  | nil => rfl
  | cons c t ih =>
    show (Jvm.Cond.and c (allAtoms t)).before a st = _
    rw [Jvm.Cond.before_and, ih, List.all_cons]
def words1 : List Jvm.Cond := Jvm.Cond.code x code maxLocals ret :: tables_1
/-- a 'code' word, met by the world's own term for the bytes: nothing is compared byte by byte -/
theorem code_word {y : MethodName} {bytes : ByteArray} {mx : Nat} {rt : Option FieldType} {a : Array Value} {s : State} {m : MethodId} {meth : Method} {c : Code} (h1 : s.methodNamed? y = some m) (h2 : s.vm.method? m = some meth) (h3 : meth.code = some c) (h4 : c.code = bytes)
    (h5 : (c.maxLocals == mx && c.exceptionTable.isEmpty && decide (c.maxStack ≤ mostOperands) && decide (meth.sig.returnType = rt) && !meth.locks && decide (parseMethodDescriptor y.desc = some meth.sig)) = true) : (Jvm.Cond.code y bytes mx rt).before a s = true := by
  simp only [Bool.and_eq_true, beq_iff_eq, Bool.not_eq_true', decide_eq_true_eq] at h5
  obtain ⟨⟨⟨⟨⟨g1, g2⟩, g3⟩, g4⟩, g5⟩, g6⟩ := h5
  simp [Cond.before, Cond.holds, Cond.value, h1, h2, h3, h4, g1, g2, g3, g4, g5, g6]
def isCode : Jvm.Cond → Bool
  | .code _ _ _ _ => true
  | _ => false
theorem all_split {L : List Jvm.Cond} {P : Jvm.Cond → Bool} (h1 : L.all (fun c => isCode c || P c) = true) (h2 : ∀ c ∈ L.filter isCode, P c = true) : L.all P = true := by
  refine List.all_eq_true.mpr fun c hc => ?_
  have h := List.all_eq_true.mp h1 c hc
  rcases Bool.eq_false_or_eq_true (isCode c) with hi | hi
  · exact h2 c (List.mem_filter.mpr ⟨hc, hi⟩)
  · simpa [hi] using h
set_option maxRecDepth 65536 in
theorem w_c0 : (Jvm.Cond.code x code maxLocals ret).before args0 about1 = true := code_word (m := ⟨1, 2⟩) (meth := k1m2) (c := k1c2) (by decide +kernel) rfl rfl rfl (by decide +kernel)
set_option maxRecDepth 65536 in
theorem w_c1 : (Jvm.Cond.code ({ cls := "com/example/caddis/caddis/SegmentFormatRefusalOfPinLaw", name := "pick", desc := "(I)B" } : Jvm.MethodName) method_2_code (1 : Nat) (Option.some Jvm.ClassFile.FieldType.byte)).before args0 about1 = true := code_word (m := ⟨1, 1⟩) (meth := k1m1) (c := k1c1) (by decide +kernel) rfl rfl rfl (by decide +kernel)
set_option maxRecDepth 65536 in
theorem w_c2 : (Jvm.Cond.code ({ cls := "com/example/caddis/caddis/SegmentFormat", name := "refusalOf", desc := "([B)Ljava/lang/String;" } : Jvm.MethodName) prog_39_method_10_code (7 : Nat) (Option.some (Jvm.ClassFile.FieldType.object "java/lang/String"))).before args0 about1 = true := code_word (m := ⟨6, 0⟩) (meth := k6m0) (c := k6c0) (by decide +kernel) rfl rfl rfl (by decide +kernel)
set_option maxRecDepth 65536 in
theorem w_c3 : (Jvm.Cond.code ({ cls := "java/lang/String", name := "isEmpty", desc := "()Z" } : Jvm.MethodName) jdk_42_method_55_code (1 : Nat) (Option.some Jvm.ClassFile.FieldType.boolean)).before args0 about1 = true := code_word (m := ⟨9, 1⟩) (meth := k9m1) (c := k9c1) (by decide +kernel) rfl rfl rfl (by decide +kernel)
def codes1 : List Jvm.Cond := [Jvm.Cond.code x code maxLocals ret, Jvm.Cond.code ({ cls := "com/example/caddis/caddis/SegmentFormatRefusalOfPinLaw", name := "pick", desc := "(I)B" } : Jvm.MethodName) method_2_code (1 : Nat) (Option.some Jvm.ClassFile.FieldType.byte), Jvm.Cond.code ({ cls := "com/example/caddis/caddis/SegmentFormat", name := "refusalOf", desc := "([B)Ljava/lang/String;" } : Jvm.MethodName) prog_39_method_10_code (7 : Nat) (Option.some (Jvm.ClassFile.FieldType.object "java/lang/String")), Jvm.Cond.code ({ cls := "java/lang/String", name := "isEmpty", desc := "()Z" } : Jvm.MethodName) jdk_42_method_55_code (1 : Nat) (Option.some Jvm.ClassFile.FieldType.boolean)]
set_option maxRecDepth 65536 in
theorem codes_eq : words1.filter isCode = codes1 := rfl
theorem w_codes : ∀ c ∈ words1.filter isCode, c.before args0 about1 = true := by
  rw [codes_eq]
  intro c hc
  simp only [codes1, List.mem_cons, List.not_mem_nil, or_false] at hc
  rcases hc with rfl | rfl | rfl | rfl
  · exact w_c0
  · exact w_c1
  · exact w_c2
  · exact w_c3
set_option maxRecDepth 65536 in
theorem w_t1 : (words1.take 24).all (fun c => isCode c || c.before args0 about1) = true := by decide +kernel
set_option maxRecDepth 65536 in
theorem w_t2 : (words1.drop 24).all (fun c => isCode c || c.before args0 about1) = true := by decide +kernel
theorem w_tables : (allAtoms (Jvm.Cond.code x code maxLocals ret :: tables_1)).before args0 about1 = true := by
  rw [allAtoms_all]
  show words1.all (fun c => c.before args0 about1) = true
  refine all_split ?_ w_codes
  rw [← List.take_append_drop 24 words1, List.all_append, w_t1, w_t2]
  rfl
set_option maxRecDepth 65536 in
theorem w_rest : rest_1_c.before args0 about1 = true := by decide +kernel
set_option maxRecDepth 65536 in
theorem w_case : (Jvm.Cond.and given_1 narrow_1).before args0 about1 = true := by decide +kernel
set_option maxRecDepth 65536 in
theorem w_consts : constsHeld consts_1 about1 := Jvm.Lit.constsHeldB_iff.mp (by decide +kernel)
theorem w_applies : (headSpec (Jvm.Cond.code x code maxLocals ret :: tables_1) room_1).applies x e0.platform about1 = true :=
  (Spec.applies_iff w_frames).mpr ⟨w_running, w_runnable, w_alone, w_named, w_hears, w_ripe, w_room, w_tables⟩
theorem atStart : AtStart classFile x code maxLocals ret World_1 tables_1 room_1 Calls_1 rest_1 Pre_1 launch0 p0 e0 about1 theMethod args0 below0 :=
  ⟨lists_1, trivial, launch0.admits_env _ _ _, launch0.least_env, fairChoices_fair.cas, fairChoices_fair.clock, w_frames, w_args, w_heap, w_applies, ⟨w_consts, trivial⟩, w_rest, w_case⟩
end start1
theorem witness_1 : WitnessClaimed_1 := ⟨start1.p0, start1.e0, start1.about1, start1.theMethod, start1.args0, start1.below0, start1.atStart⟩
end Jvm.Pilot.@@N@@
